import Derived.Test.Qxb6601530aModsEnt
import Derived.Deep.MidRow
import Derived.Deep.WholeRow
import Derived.Stop.BytesEq
namespace Go.Proofs.Qxb6601530aMods
open Go.RowKit
open Extern.Stop (cell)

theorem heap_setCells_ne (g : Nat) : ∀ (vs : List Value) (o : Nat) (w : World) (i : Nat), i ≠ g → (w.setCells g o vs).heap[i]? = w.heap[i]?
  | [], _, _, _, _ => rfl
  | v :: r, o, w, i, h => (heap_setCells_ne g r (o + 1) (w.setCell ⟨g, o, none⟩ v) i h).trans (Below.heap_setCell w ⟨g, o, none⟩ v i h)
theorem size_setCells' (g : Nat) : ∀ (vs : List Value) (o : Nat) (w : World), (w.setCells g o vs).heap.size = w.heap.size
  | [], _, _ => rfl
  | v :: r, o, w => (size_setCells' g r (o + 1) (w.setCell ⟨g, o, none⟩ v)).trans (by simp [World.setCell])
theorem below_setCells {B g : Nat} {a w : World} (h : Below B a w) (hB : B ≤ g) : ∀ (vs : List Value) (o : Nat), Below B a (w.setCells g o vs) := by
  intro vs
  induction vs generalizing w with
  | nil => intro o; exact h
  | cons v r ih => intro o; exact ih (h.setCell (p := ⟨g, o, none⟩) hB v) (o + 1)

theorem range_same {w w' : World} {g o : Nat} {cs : List Value} (h : w.rangeAt g o cs) (hb : w'.heap[g]? = w.heap[g]?) : w'.rangeAt g o cs := fun j v hj =>
  (World.cell?_of_block (a := ⟨g, o + j, none⟩) hb).trans (h j v hj)
theorem there_same {w w' : World} {g o n : Nat} (h : w.there g o n) (hb : w'.heap[g]? = w.heap[g]?) : w'.there g o n := fun j hj => by
  obtain ⟨h1, h2⟩ := h j hj
  exact ⟨by rw [World.cell?_of_block (a := ⟨g, o + j, none⟩) hb]; exact h1, by rw [World.frozen?_of_block (a := ⟨g, o + j, none⟩) hb]; exact h2⟩
theorem there_part {w : World} {g o n o' m : Nat} (h : w.there g o n) (h1 : o ≤ o') (h2 : o' + m ≤ o + n) : w.there g o' m := fun j hj => by
  have := h (o' - o + j) (by omega)
  rwa [show o + (o' - o + j) = o' + j by omega] at this
theorem there_new (w : World) (c : Array Value) (t : TypeId) : (w.alloc (.cells c t)).there w.heap.size 0 c.size := fun j hj => by
  rw [Nat.zero_add, World.cell?_alloc_at _ _ _ _ rfl, World.frozen?_alloc_at _ _ _ _ rfl]
  exact ⟨by simp [hj], rfl⟩
theorem range_lt {w : World} {g o : Nat} {cs : List Value} (h : w.rangeAt g o cs) (hl : 0 < cs.length) : g < w.heap.size :=
  block_lt_of_cell (h 0 cs[0] (List.getElem?_eq_getElem hl))

/-- the cells of a hash -/
def hCells (d : List UInt8) : List Value := d.map cell
theorem hCells_len {d : List UInt8} (h : d.length = 32) : (hCells d).length = 32 := by simp [hCells, h]
theorem hCells_one (d : List UInt8) : ∀ v ∈ hCells d, v.oneCell' = true := by
  intro v hv
  simp [hCells] at hv
  obtain ⟨a, _, rfl⟩ := hv
  rfl

/-- the slice of hashes at q, m long, reads as hs; its block is one of I -/
def HVp (I : Nat → Prop) (w : World) (q : Option Addr) (m : Nat) (hs : List (List UInt8)) : Prop :=
  hs.length = m ∧ ∀ j d, hs[j]? = some d → d.length = 32 ∧ ∃ g o, q = some ⟨g, o, none⟩ ∧ I g ∧ w.rangeAt g (o + j * 32) (hCells d)

theorem HVp.of_same {I J : Nat → Prop} {w w' : World} {q : Option Addr} {m : Nat} {hs : List (List UInt8)} (h : HVp I w q m hs) (hI : ∀ g, I g → J g ∧ w'.heap[g]? = w.heap[g]?) : HVp J w' q m hs :=
  ⟨h.1, fun j d hj => by
    obtain ⟨h1, g, o, hq, hg, hr⟩ := h.2 j d hj
    exact ⟨h1, g, o, hq, (hI g hg).1, range_same hr (hI g hg).2⟩⟩

theorem HVp.at {I : Nat → Prop} {w : World} {q : Option Addr} {m : Nat} {hs : List (List UInt8)} (h : HVp I w q m hs) (k : Nat) (hk : k < m) :
    ∃ d g o, hs[k]? = some d ∧ d.length = 32 ∧ q = some ⟨g, o, none⟩ ∧ I g ∧ w.rangeAt g (o + k * 32) (hCells d) := by
  have hl : k < hs.length := by have := h.1; omega
  obtain ⟨h1, g, o, h2, h3, h4⟩ := h.2 k hs[k] (List.getElem?_eq_getElem hl)
  exact ⟨hs[k], g, o, List.getElem?_eq_getElem hl, h1, h2, h3, h4⟩

/-- what a copy of hashes hands back -/
def HCopied (w : World) (q : Option Addr) (m : Nat) (hs : List (List UInt8)) (en : Ending) (w' : World) : Prop :=
  ∃ q' c', en = .returned (.slice q' m c') ∧ Below w.heap.size w w' ∧ HVp (fun g => w.heap.size ≤ g ∧ g < w'.heap.size) w' q' m hs ∧ (q' = none → m = 0 ∧ c' = 0) ∧ (q' = none ↔ q = none)

/-- the first k hashes of the new row are laid -/
def HLaid (A : Nat) (w : World) (m k : Nat) (hs : List (List UInt8)) : Prop :=
  w.there A 0 (m * 32) ∧ ∀ j d, j < k → hs[j]? = some d → w.rangeAt A (j * 32) (hCells d)

theorem hlaid_succ {A : Nat} {w : World} {m k : Nat} {hs : List (List UInt8)} {d : List UInt8} (h : HLaid A w m k hs) (hk : k < m) (hd : hs[k]? = some d) (hl : d.length = 32) (hall : ∀ (j : Nat) (e : List UInt8), hs[j]? = some e → e.length = 32) :
    HLaid A (w.setCells A (k * 32) (hCells d)) m (k + 1) hs := by
  refine ⟨World.there_setCells h.1 _ _ _, fun j e hj he => ?_⟩
  by_cases hjk : j = k
  · subst hjk
    rw [hd] at he
    injection he with he
    subst he
    exact World.rangeAt_setCells_same _ _ _ _ (there_part h.1 (by omega) (by rw [hCells_len hl]; omega))
  · refine World.rangeAt_setCells_apart (h.2 j e (by omega) he) _ _ _ (.inr ?_)
    rw [hCells_len hl, hCells_len (hall j e he)]
    omega

theorem hcopied_of {w w' : World} {a : Addr} {m : Nat} {hs : List (List UInt8)} (hl : hs.length = m) (hall : ∀ (j : Nat) (e : List UInt8), hs[j]? = some e → e.length = 32) (hb : Below w.heap.size w w') (h : HLaid w.heap.size w' m m hs) :
    HCopied w (some a) m hs (.returned (.slice (some ⟨w.heap.size, 0, none⟩) m m)) w' := by
  refine ⟨_, _, rfl, hb, ⟨hl, fun j d hd => ⟨hall j d hd, w.heap.size, 0, rfl, ?_, ?_⟩⟩, fun h => (by cases h), by simp⟩
  · have hr := h.2 j d (by have := (List.getElem?_eq_some_iff.1 hd).1; omega) hd
    exact ⟨Nat.le_refl _, range_lt hr (by rw [hCells_len (hall j d hd)]; omega)⟩
  · rw [Nat.zero_add]
    exact h.2 j d (by have := (List.getElem?_eq_some_iff.1 hd).1; omega) hd

theorem info49 : (Trym.prog.info? 49).map (fun i => (i.zero, i.size, i.bytes)) = some (some (.agg #[.int .u8 0, .int .u8 0, .int .u8 0, .int .u8 0, .int .u8 0, .int .u8 0, .int .u8 0, .int .u8 0, .int .u8 0, .int .u8 0, .int .u8 0, .int .u8 0, .int .u8 0, .int .u8 0, .int .u8 0, .int .u8 0, .int .u8 0, .int .u8 0, .int .u8 0, .int .u8 0, .int .u8 0, .int .u8 0, .int .u8 0, .int .u8 0, .int .u8 0, .int .u8 0, .int .u8 0, .int .u8 0, .int .u8 0, .int .u8 0, .int .u8 0, .int .u8 0]), 32, 32) := by kernel_rfl

theorem make52 (n : Nat) (hn : n ≤ 1048576) (W : World) : ∃ z : Array Value, z.size = n * 32 ∧ (Instr.makeSlice 52 (.int .i64 (n : Int)) (.int .i64 (n : Int))).run Trym.prog W = .ok (.slice (some ⟨W.heap.size, 0, none⟩) n n) (W.alloc (.cells z 49)) := by
  obtain ⟨i, hi, hzz⟩ := Option.map_eq_some_iff.1 info49
  simp only [Prod.mk.injEq] at hzz
  obtain ⟨hz, hs, hb⟩ := hzz
  have h := run_make (P := Trym.prog) W 52 49 i _ Trym.underlying52 hi hz .i64 .i64 n n (by omega) (Int.le_refl _) (by rw [hb]; omega) (by omega)
  refine ⟨_, ?_, by rw [h, hs]; rfl⟩
  rw [size_madeCells, Int.toNat_natCast]

/-! ### marks by which an arm of a walk knows its operation -/
def AtOp (p : Prop) : Prop := p
theorem at_op {p : Prop} (h : p) : AtOp p := h
section
variable {P : Program} {ops : Array Oper} {Q : Exit → Act → World → Prop} {rest : List Oper} {a : Act} {w : World}
theorem at_load (ty : TypeId) (x : Operand) {d : Option Tmp} {t : TypeId} {s : String} {af : Array Edge} : wpList P ops Q ({ dst := d, op := .load ty x, type := t, pos := s, after := af, guard := none } :: rest) a w = AtOp (wpList P ops Q ({ dst := d, op := .load ty x, type := t, pos := s, after := af, guard := none } :: rest) a w) := rfl
theorem at_load_g (ty : TypeId) (x : Operand) {d : Option Tmp} {t : TypeId} {s : String} {af : Array Edge} {gd : Nat × Bool} : wpList P ops Q ({ dst := d, op := .load ty x, type := t, pos := s, after := af, guard := some gd } :: rest) a w = AtOp (wpList P ops Q ({ dst := d, op := .load ty x, type := t, pos := s, after := af, guard := some gd } :: rest) a w) := rfl
theorem at_store (ty : TypeId) (x y : Operand) {d : Option Tmp} {t : TypeId} {s : String} {af : Array Edge} : wpList P ops Q ({ dst := d, op := .store ty x y, type := t, pos := s, after := af, guard := none } :: rest) a w = AtOp (wpList P ops Q ({ dst := d, op := .store ty x y, type := t, pos := s, after := af, guard := none } :: rest) a w) := rfl
theorem at_build (ty : TypeId) (x : Array (Nat × Operand)) {d : Option Tmp} {t : TypeId} {s : String} {af : Array Edge} : wpList P ops Q ({ dst := d, op := .build ty x, type := t, pos := s, after := af, guard := none } :: rest) a w = AtOp (wpList P ops Q ({ dst := d, op := .build ty x, type := t, pos := s, after := af, guard := none } :: rest) a w) := rfl
theorem wpList_build_to {o : Oper} (hg : o.guard = none) (t : TypeId) (parts : Array (Nat × Operand)) (ho : o.op = .build t parts)
    (cells : Array Value) (hb : P.built t (parts.map fun (i, x) => (i, a.eval x)).toList = some cells)
    (h : wpList P ops Q rest (a.put o.dst (.agg cells)) w) : wpList P ops Q (o :: rest) a w := by
  refine wpList_build hg t parts ho (by rw [hb]; rfl) ?_
  rw [hb]
  exact h
end

set_option maxHeartbeats 400000 in
theorem clone31_nil (w : World) : Calls Trym.prog 31 #[.slice none 0 0] w fun e w' => e = .returned (.slice none 0 0) ∧ w' = w := by
  have hnil : ∀ W, (binOp .eql 52 (.slice none 0 0) (.slice none 0 0)).run Trym.prog W = .ok (.bool true) W := fun W => Lib.run_eql_slice_nil W 52 49 none 0 0 0 0 Trym.underlying52
  go_enter Trym.func31, Trym.ntmps31
  go_wp2
  go_ret
  exact ⟨rfl, rfl⟩

set_option maxHeartbeats 1000000 in
theorem clone31_some (ad : Addr) (n c : Nat) (hs : List (List UInt8)) (w : World) (h : HVp (fun g => g < w.heap.size) w (some ad) n hs) (hn : n ≤ 1048576) :
    Calls Trym.prog 31 #[.slice (some ad) n c] w fun e w' => HCopied w (some ad) n hs e w' := by
  have hnil : ∀ W, (binOp .eql 52 (.slice (some ad) n c) (.slice none 0 0)).run Trym.prog W = .ok (.bool false) W := fun W => Lib.run_eql_slice_nil W 52 49 (some ad) n c 0 0 Trym.underlying52
  obtain ⟨z, hmz, hmk⟩ := make52 n hn w
  have hl := keep h.1
  have hall := keep (fun j e he => (h.2 j e he).1)
  have KS := keep h
  clear h
  have hi49 : Option.map (fun x => x.size) (Trym.prog.info? 49) = some 32 := by kernel_rfl
  have KI := keep hi49
  clear hi49
  go_enter Trym.func31, Trym.ntmps31
  go_wp2
  clear hmk hnil
  go_loopw [4] (fun i wr => ∃ k : Nat, k ≤ n ∧ i = .int .i64 k ∧ Below w.heap.size w wr ∧ HLaid w.heap.size wr n k hs) (fun i _ => n - (intOf i).toNat)
  case atStart => exact ⟨0, Nat.zero_le _, rfl, below_alloc _ _, by rw [← hmz]; exact there_new _ _ _, fun j d hj => by omega⟩
  case round =>
    obtain ⟨k, hk, rfl, hB, hL⟩ := hrel
    have KB := keep hB
    have KL := keep hL
    clear hB hL
    by_cases hlt : k < n
    · obtain ⟨d, g, o, hd, hdl, hq, hg, hr⟩ := KS.out.at k hlt
      injection hq with hq
      subst hq
      have KR := keep (range_same hr (KB.out.block g hg))
      have KN := keep (hlaid_succ KL.out hlt hd hdl hall.out)
      have KT := keep (there_part (o' := k * 32) (m := (hCells d).toArray.size) KL.out.1 (by omega) (by simp [hCells_len hdl]; omega))
      have I1 := keep (show Option.map (fun x => x.size) (Trym.prog.info? 49) = some (hCells d).length by rw [hCells_len hdl]; exact KI.out)
      have I2 := keep (show Option.map (fun x => x.size) (Trym.prog.info? 49) = some (hCells d).toArray.size by rw [List.size_toArray, hCells_len hdl]; exact KI.out)
      have O1 := keep (all_oneCell_toArray (hCells_one d))
      have hlti : (k : Int) < (n : Int) := by omega
      clear hd hr
      generalize hCells d = H at *
      go_wp2_with (first | (rw [at_load 49 (.tmp 20)]; refine at_op ?_; refine wpList_load_mid rfl 49 _ rfl g (o + k * 32) rfl H _ KR.out Trym.underlying49 rfl I1.out ?_) | (rw [at_store 49 (.tmp 22) (.tmp 21)]; refine at_op ?_; refine wpList_store_mid rfl 49 _ _ rfl w.heap.size (k * 32) H.toArray rfl rfl KT.out I2.out O1.out ?_))
      go_roundw
      case rel => exact ⟨k + 1, by omega, by go_num, below_setCells KB.out (Nat.le_refl _) _ _, KN.out⟩
      case measure => simp [intOf]; omega
    · obtain rfl : k = n := by omega
      have KC := keep (hcopied_of (a := ad) hl.out hall.out KB.out KL.out)
      go_wp2
      go_ret
      exact KC.out

theorem clone31_any (q : Option Addr) (n c : Nat) (hs : List (List UInt8)) (w : World) (h : HVp (fun g => g < w.heap.size) w q n hs) (hq : q = none → n = 0 ∧ c = 0) (hn : n ≤ 1048576) :
    Calls Trym.prog 31 #[.slice q n c] w fun e w' => HCopied w q n hs e w' := by
  cases q with
  | some ad => exact clone31_some ad n c hs w h hn
  | none =>
    obtain ⟨rfl, rfl⟩ := hq rfl
    refine (clone31_nil w).mono ?_
    rintro e w' ⟨rfl, rfl⟩
    exact ⟨none, 0, rfl, Below.refl _ _, ⟨h.1, fun j d hj => by have := (List.getElem?_eq_some_iff.1 hj).1; have := h.1; omega⟩, fun _ => ⟨rfl, rfl⟩, by simp⟩
end Go.Proofs.Qxb6601530aMods
