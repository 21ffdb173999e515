import Derived.Test.Qxb6601427aModsClone
namespace Go.Proofs.Qxb6601427aMods
open Go.RowKit

/-- a slice of bytes, in a cell: what it reads as -/
def ByteSl (I : Nat → Prop) (w : World) (v : Value) (d : List Int) : Prop :=
  ∃ q c, v = .slice q d.length c ∧ SVp I w q d.length (d.map (Value.int .u8)) ∧ (q = none → d.length = 0 ∧ c = 0)

theorem ByteSl.of_same {I J : Nat → Prop} {w w' : World} {v : Value} {d : List Int} (h : ByteSl I w v d) (hI : ∀ g, I g → J g ∧ w'.heap[g]? = w.heap[g]?) : ByteSl J w' v d := by
  obtain ⟨q, c, h1, h2, h3⟩ := h
  exact ⟨q, c, h1, h2.of_same hI, h3⟩

/-- the slice of slices at q, n long, reads as ds; its blocks are of I -/
def DVp (I : Nat → Prop) (w : World) (q : Option Addr) (n : Nat) (ds : List (List Int)) : Prop :=
  ds.length = n ∧ ∀ j d, ds[j]? = some d → ∃ g o v, q = some ⟨g, o, none⟩ ∧ I g ∧ w.cell? ⟨g, o + j, none⟩ = some v ∧ ByteSl I w v d
/-- the same; they lie below B -/
def DV (B : Nat) (w : World) (q : Option Addr) (n : Nat) (ds : List (List Int)) : Prop := DVp (fun g => g < B) w q n ds

theorem DVp.of_same {I J : Nat → Prop} {w w' : World} {q : Option Addr} {n : Nat} {ds : List (List Int)} (h : DVp I w q n ds) (hI : ∀ g, I g → J g ∧ w'.heap[g]? = w.heap[g]?) : DVp J w' q n ds :=
  ⟨h.1, fun j d hj => by
    obtain ⟨g, o, v, hq, hg, hc, hs⟩ := h.2 j d hj
    exact ⟨g, o, v, hq, (hI g hg).1, (World.cell?_of_block (a := ⟨g, o + j, none⟩) (hI g hg).2).trans hc, hs.of_same hI⟩⟩

theorem DV.below {B B' : Nat} {w w' : World} {q : Option Addr} {n : Nat} {ds : List (List Int)} (h : DV B w q n ds) (hb : Below B' w w') (hB : B ≤ B') : DV B w' q n ds :=
  DVp.of_same h fun g hg => ⟨hg, hb.block g (Nat.lt_of_lt_of_le hg hB)⟩

theorem DV.mono {B B' : Nat} {w : World} {q : Option Addr} {n : Nat} {ds : List (List Int)} (h : DV B w q n ds) (hB : B ≤ B') : DV B' w q n ds :=
  DVp.of_same h fun _ hg => ⟨Nat.lt_of_lt_of_le hg hB, rfl⟩

theorem DVp.at {I : Nat → Prop} {w : World} {q : Option Addr} {n : Nat} {ds : List (List Int)} (h : DVp I w q n ds) (k : Nat) (hk : k < n) :
    ∃ d g o p c, ds[k]? = some d ∧ q = some ⟨g, o, none⟩ ∧ I g ∧ w.cell? ⟨g, o + k, none⟩ = some (.slice p d.length c) ∧ SVp I w p d.length (d.map (Value.int .u8)) ∧ (p = none → d.length = 0 ∧ c = 0) := by
  have hl : k < ds.length := by have := h.1; omega
  obtain ⟨g, o, v, h1, h2, h3, p, c, rfl, h4, h5⟩ := h.2 k ds[k] (List.getElem?_eq_getElem hl)
  exact ⟨ds[k], g, o, p, c, List.getElem?_eq_getElem hl, h1, h2, h3, h4, h5⟩

theorem DV.at {B : Nat} {w : World} {q : Option Addr} {n : Nat} {ds : List (List Int)} (h : DV B w q n ds) (k : Nat) (hk : k < n) :
    ∃ d g o p c, ds[k]? = some d ∧ q = some ⟨g, o, none⟩ ∧ g < B ∧ w.cell? ⟨g, o + k, none⟩ = some (.slice p d.length c) ∧ SV B w p d.length (d.map (Value.int .u8)) ∧ (p = none → d.length = 0 ∧ c = 0) := by
  have hl : k < ds.length := by have := h.1; omega
  obtain ⟨g, o, v, h1, h2, h3, p, c, rfl, h4, h5⟩ := h.2 k ds[k] (List.getElem?_eq_getElem hl)
  exact ⟨ds[k], g, o, p, c, List.getElem?_eq_getElem hl, h1, h2, h3, h4, h5⟩

/-- the first k of the new row's cells hold copies of ds -/
def Filled (A : Nat) (w : World) (n k : Nat) (ds : List (List Int)) : Prop :=
  ∃ cur : Array Value, w.heap[A]? = some (.cells cur 33 (0, 0)) ∧ cur.size = n ∧ ∀ j d, j < k → ds[j]? = some d → ∃ p c, cur[j]? = some (.slice p d.length c) ∧ w.ownsRow (A + 1) 5 1 (.slice p d.length c) d.length (d.map (Value.int .u8))

theorem filled_below {A : Nat} {w w' : World} {n k : Nat} {ds : List (List Int)} (h : Filled A w n k ds) (hA : A < w.heap.size) (hb : Below w.heap.size w w') : Filled A w' n k ds := by
  obtain ⟨cur, h1, h2, h3⟩ := h
  refine ⟨cur, (hb.block A hA).trans h1, h2, fun j d hj hd => ?_⟩
  obtain ⟨p, c, h4, h5⟩ := h3 j d hj hd
  exact ⟨p, c, h4, h5.kept (row := none) ⟨hb.os, hb.tape, hb.output, hb.size, fun i hi _ => hb.block i hi⟩ (by cases hv : Value.ownBlock (.slice p d.length c) <;> simp)⟩

theorem filled_store {A : Nat} {w : World} {n k : Nat} {ds : List (List Int)} {d : List Int} {p : Option Addr} {c : Nat} (h : Filled A w n k ds) (hk : k < n) (hd : ds[k]? = some d)
    (ho : w.ownsRow (A + 1) 5 1 (.slice p d.length c) d.length (d.map (Value.int .u8))) : Filled A (w.setCell ⟨A, k, none⟩ (.slice p d.length c)) n (k + 1) ds := by
  obtain ⟨cur, h1, h2, h3⟩ := h
  refine ⟨cur.setIfInBounds k (.slice p d.length c), heap_setCell_same w A k cur 33 _ h1, by simp [h2], fun j e hj he => ?_⟩
  by_cases hjk : j = k
  · subst hjk
    rw [hd] at he
    injection he with he
    subst he
    exact ⟨p, c, by simp [h2, hk], ownsRow_setCell_below ho (by simp) _⟩
  · obtain ⟨p', c', h4, h5⟩ := h3 j e (by omega) he
    refine ⟨p', c', ?_, ownsRow_setCell_below h5 (by simp) _⟩
    rw [Array.getElem?_setIfInBounds_ne (by omega)]; exact h4

theorem owns_base {w : World} {b b' : Nat} {e : TypeId} {size : Nat} {v : Value} {n : Nat} {xs : List Value} (h : w.ownsRow b e size v n xs) (hb : b' ≤ b) : w.ownsRow b' e size v n xs := by
  obtain ⟨h1, h2⟩ := h
  refine ⟨h1, ?_⟩
  rcases h2 with h2 | ⟨g, cap, cur, hv, hg, r⟩
  · exact .inl h2
  · exact .inr ⟨g, cap, cur, hv, by omega, r⟩

/-- what a copy of a slice of slices hands back -/
def Copied2 (w : World) (q : Option Addr) (n : Nat) (ds : List (List Int)) (en : Ending) (w' : World) : Prop :=
  ∃ q' c', en = .returned (.slice q' n c') ∧ Below w.heap.size w w' ∧ DVp (fun g => w.heap.size ≤ g ∧ g < w'.heap.size) w' q' n ds ∧ (q' = none → n = 0 ∧ c' = 0) ∧ (q' = none ↔ q = none)

theorem copied2_of {w w' : World} {a : Addr} {n : Nat} {ds : List (List Int)} (hl : ds.length = n) (hb : Below w.heap.size w w') (h : Filled w.heap.size w' n n ds) :
    Copied2 w (some a) n ds (.returned (.slice (some ⟨w.heap.size, 0, none⟩) n n)) w' := by
  obtain ⟨cur, h1, h2, h3⟩ := h
  refine ⟨_, _, rfl, hb, ⟨hl, fun j d hd => ?_⟩, fun h => (by cases h), by simp⟩
  obtain ⟨p, c, h4, h5⟩ := h3 j d (by have := (List.getElem?_eq_some_iff.1 hd).1; omega) hd
  obtain ⟨_, _, h7⟩ := SV.of_owns h5
  have h6 := (SVp.of_owns h5).of_same (J := fun g => w.heap.size ≤ g ∧ g < w'.heap.size) (fun g hg => ⟨⟨by omega, hg.2⟩, rfl⟩)
  exact ⟨w.heap.size, 0, _, rfl, ⟨Nat.le_refl _, (Array.getElem?_eq_some_iff.1 h1).1⟩, by rw [Nat.zero_add, cell_of_row w' _ j cur 33 (0, 0) h1]; exact h4, p, c, rfl, h6, h7⟩

theorem Trym.info33 : (Trym.prog.info? 33).map (fun i => (i.zero, i.size, i.bytes)) = some (some (.slice none 0 0), 1, 24) := by kernel_rfl

set_option maxHeartbeats 400000 in
theorem clone18_nil (w : World) : Calls Trym.prog 18 #[.slice none 0 0] w fun e w' => e = .returned (.slice none 0 0) ∧ w' = w := by
  have hnil : ∀ W, (binOp .eql 32 (.slice none 0 0) (.slice none 0 0)).run Trym.prog W = .ok (.bool true) W := fun W => Lib.run_eql_slice_nil W 32 33 none 0 0 0 0 Trym.underlying32
  go_enter Trym.func18, Trym.ntmps18
  go_wp2
  go_ret
  exact ⟨rfl, rfl⟩

set_option maxHeartbeats 400000 in
theorem clone18_some (ad : Addr) (n c : Nat) (ds : List (List Int)) (w : World) (h : DV w.heap.size w (some ad) n ds) (hn : n ≤ 1048576) (hd : ∀ d ∈ ds, d.length ≤ 1048576) :
    Calls Trym.prog 18 #[.slice (some ad) n c] w fun e w' => Copied2 w (some ad) n ds e w' := by
  have hl : ds.length = n := h.1
  have hnil : ∀ W, (binOp .eql 32 (.slice (some ad) n c) (.slice none 0 0)).run Trym.prog W = .ok (.bool false) W := fun W => Lib.run_eql_slice_nil W 32 33 (some ad) n c 0 0 Trym.underlying32
  have hmk := fun W => run_make_row' (P := Trym.prog) 32 33 (.slice none 0 0) 24 Trym.underlying32 Trym.info33 rfl .i64 .i64 n (by omega) (by omega) W
  have hmz := size_madeCells #[.slice none 0 0] n
  have KS := keep h
  have KD := keep hd
  clear h hd
  go_enter Trym.func18, Trym.ntmps18
  go_wp2
  generalize madeCells #[.slice none 0 0] n = z at *
  clear hmk hnil
  go_loopw [4] (fun i wr => ∃ k : Nat, k ≤ n ∧ i = .int .i64 k ∧ Below w.heap.size w wr ∧ w.heap.size < wr.heap.size ∧ Filled w.heap.size wr n k ds) (fun i _ => n - (intOf i).toNat)
  case atStart => exact ⟨0, Nat.zero_le _, rfl, (Below.refl _ _).alloc (Nat.le_refl _) _, by simp, z, heap_alloc_new w _, hmz, fun j d hj => by omega⟩
  case round =>
    obtain ⟨k, hk, rfl, hB, hsz, hF⟩ := hrel
    have KB := keep hB
    have KF := keep hF
    clear hB hF
    by_cases hlt : k < n
    · obtain ⟨d, g, o, p, cc, hdk, hq, hg, hc, hs, hp⟩ := (KS.out.below KB.out (Nat.le_refl _)).at k hlt
      injection hq with hq
      subst hq
      have hdl := KD.out d (List.mem_of_getElem? hdk)
      have K1 := keep hs
      have K2 := keep hp
      have K3 := keep hdk
      have hgw : g < wr.heap.size := by omega
      clear hs hp hdk
      go_wp2_with fail
      refine (clone19_any p d.length cc d wr (K1.out.mono (by omega)) K2.out hdl).mono ?_
      rintro e w1 ⟨p', c', rfl, hB1, ho, _⟩
      have hF1 := filled_below KF.out hsz hB1
      have hsz1 := hB1.size
      obtain ⟨cur, hcur, hcs, hrest⟩ := hF1
      have hcell : ∃ old, w1.cell? ⟨w.heap.size, k, none⟩ = some old := ⟨_, by rw [cell_of_row w1 _ k cur 33 (0, 0) hcur]; exact Array.getElem?_eq_getElem (by omega)⟩
      obtain ⟨old, hold⟩ := hcell
      have hfz : w1.frozen? ⟨w.heap.size, k, none⟩ = false := frozen_of_row w1 _ k cur 33 hcur
      have KN := keep (filled_store (A := w.heap.size) ⟨cur, hcur, hcs, hrest⟩ hlt K3.out (owns_base ho (by omega)))
      have KB1 := keep (KB.out.trans (hB1.mono (by omega)))
      clear hB1 ho hcur hcs hrest
      go_wp2
      go_roundw
      case rel => exact ⟨k + 1, by omega, by go_num, KB1.out.setCell (by simp) _, by simp; omega, KN.out⟩
      case measure => simp [intOf]; omega
    · obtain rfl : k = n := by omega
      have KC := keep (copied2_of (a := ad) hl KB.out KF.out)
      go_wp2
      go_ret
      exact KC.out

theorem clone18_any (q : Option Addr) (n c : Nat) (ds : List (List Int)) (w : World) (h : DV w.heap.size w q n ds) (hq : q = none → n = 0 ∧ c = 0) (hn : n ≤ 1048576) (hd : ∀ d ∈ ds, d.length ≤ 1048576) :
    Calls Trym.prog 18 #[.slice q n c] w fun e w' => Copied2 w q n ds e w' := by
  cases q with
  | some ad => exact clone18_some ad n c ds w h hn hd
  | none =>
    obtain ⟨rfl, rfl⟩ := hq rfl
    refine (clone18_nil w).mono ?_
    rintro e w' ⟨rfl, rfl⟩
    exact ⟨none, 0, rfl, Below.refl _ _, ⟨h.1, fun j d hj => by have := (List.getElem?_eq_some_iff.1 hj).1; have := h.1; omega⟩, fun _ => ⟨rfl, rfl⟩, by simp⟩
end Go.Proofs.Qxb6601427aMods
