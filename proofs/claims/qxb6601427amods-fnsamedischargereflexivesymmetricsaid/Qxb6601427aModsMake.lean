import Derived.Test.Qxb6601427aModsEqual
import Derived.Stop.BytesEq
import Derived.BigRegion
import Derived.RegionTactic
import Derived.Deep.Draws
import Derived.Laws.Rows
import Derived.Laws.CopyOwn
namespace Go.Proofs.Qxb6601427aMods
open Go.RowKit
open Extern.Stop (cell)

/-- the cells of an identifier -/
def idCells (ids : List UInt8) : Array Value := (ids.map cell).toArray
/-- the cells of a discharge -/
def dCells (ids : List UInt8) (c s : Value) : Array Value := (ids.map cell ++ [c, s]).toArray

theorem idCells_size {ids : List UInt8} (h : ids.length = 16) : (idCells ids).size = 16 := by simp [idCells, h]
theorem dCells_size {ids : List UInt8} (h : ids.length = 16) (c s : Value) : (dCells ids c s).size = 18 := by simp [dCells, h]
theorem idCells_one (ids : List UInt8) : (idCells ids).all (·.oneCell') = true := by
  rw [Array.all_eq_true_iff_forall_mem]
  intro x hx
  simp [idCells] at hx
  obtain ⟨a, _, rfl⟩ := hx
  rfl
theorem dCells_one (ids : List UInt8) (q1 q2 : Option Addr) (n1 n2 c1 c2 : Nat) : (dCells ids (.slice q1 n1 c1) (.slice q2 n2 c2)).all (·.oneCell') = true := by
  rw [Array.all_eq_true_iff_forall_mem]
  intro x hx
  simp [dCells] at hx
  rcases hx with ⟨a, _, rfl⟩ | rfl | rfl <;> rfl

theorem built42' (a0 a1 a2 a3 a4 a5 a6 a7 a8 a9 a10 a11 a12 a13 a14 a15 : UInt8) (q1 q2 : Option Addr) (n1 n2 c1 c2 : Nat) :
    Trym.prog.built 42 [(0, .agg (idCells [a0, a1, a2, a3, a4, a5, a6, a7, a8, a9, a10, a11, a12, a13, a14, a15])), (1, .slice q1 n1 c1), (2, .slice q2 n2 c2)] = some (dCells [a0, a1, a2, a3, a4, a5, a6, a7, a8, a9, a10, a11, a12, a13, a14, a15] (.slice q1 n1 c1) (.slice q2 n2 c2)) := by kernel_rfl

theorem built42 (ids : List UInt8) (h : ids.length = 16) (q1 q2 : Option Addr) (n1 n2 c1 c2 : Nat) :
    Trym.prog.built 42 [(0, .agg (idCells ids)), (1, .slice q1 n1 c1), (2, .slice q2 n2 c2)] = some (dCells ids (.slice q1 n1 c1) (.slice q2 n2 c2)) := by
  match ids, h with
  | [a0, a1, a2, a3, a4, a5, a6, a7, a8, a9, a10, a11, a12, a13, a14, a15], _ => exact built42' a0 a1 a2 a3 a4 a5 a6 a7 a8 a9 a10 a11 a12 a13 a14 a15 q1 q2 n1 n2 c1 c2

theorem Trym.info49 : (Trym.prog.info? 49).map (fun i => (i.zero, i.size, i.bytes)) = some (some (.agg #[.string ByteArray.empty, .slice none 0 0]), 2, 40) := by kernel_rfl

theorem make_cavs (n : Nat) (hn : n ≤ 1048576) (W : World) : (Instr.makeSlice 40 (.int .i64 (n : Int)) (.int .i64 (n : Int))).run Trym.prog W = .ok (.slice (some ⟨W.heap.size, 0, none⟩) n n) (W.alloc (.cells (madeCells #[.string ByteArray.empty, .slice none 0 0] (n * 2)) 49)) := by
  obtain ⟨i, hi, hzz⟩ := Option.map_eq_some_iff.1 Trym.info49
  simp only [Prod.mk.injEq] at hzz
  obtain ⟨hz, hs, hb⟩ := hzz
  have h := run_make (P := Trym.prog) W 40 49 i _ Trym.underlying40 hi hz .i64 .i64 n n (by omega) (Int.le_refl _) (by rw [hb]; omega) (by omega)
  rw [h, hs]
  rfl

/-- the slice of caveats at q, n long, reads as the kinds ss and the data ds; its blocks are of I -/
def CVp (I : Nat → Prop) (w : World) (q : Option Addr) (n : Nat) (ss : List ByteArray) (ds : List (List Int)) : Prop :=
  ∀ k, k < n → ∃ s d g o p c, ss[k]? = some s ∧ ds[k]? = some d ∧ q = some ⟨g, o, none⟩ ∧ I g ∧ w.cell? ⟨g, o + k * 2, none⟩ = some (.string s) ∧ w.cell? ⟨g, o + (k * 2 + 1), none⟩ = some (.slice p d.length c) ∧ SVp I w p d.length (d.map (Value.int .u8))
/-- the same; they lie below B -/
def CV (B : Nat) (w : World) (q : Option Addr) (n : Nat) (ss : List ByteArray) (ds : List (List Int)) : Prop := CVp (fun g => g < B) w q n ss ds

theorem CVp.of_same {I J : Nat → Prop} {w w' : World} {q : Option Addr} {n : Nat} {ss : List ByteArray} {ds : List (List Int)} (h : CVp I w q n ss ds) (hI : ∀ g, I g → J g ∧ w'.heap[g]? = w.heap[g]?) : CVp J w' q n ss ds := fun k hk => by
  obtain ⟨s, d, g, o, p, c, h1, h2, h3, h4, h5, h6, h7⟩ := h k hk
  exact ⟨s, d, g, o, p, c, h1, h2, h3, (hI g h4).1, (World.cell?_of_block (a := ⟨g, o + k * 2, none⟩) (hI g h4).2).trans h5, (World.cell?_of_block (a := ⟨g, o + (k * 2 + 1), none⟩) (hI g h4).2).trans h6, h7.of_same hI⟩

theorem CV.below {B B' : Nat} {w w' : World} {q : Option Addr} {n : Nat} {ss : List ByteArray} {ds : List (List Int)} (h : CV B w q n ss ds) (hb : Below B' w w') (hB : B ≤ B') : CV B w' q n ss ds :=
  CVp.of_same h fun g hg => ⟨hg, hb.block g (Nat.lt_of_lt_of_le hg hB)⟩

theorem CV.mono {B B' : Nat} {w : World} {q : Option Addr} {n : Nat} {ss : List ByteArray} {ds : List (List Int)} (h : CV B w q n ss ds) (hB : B ≤ B') : CV B' w q n ss ds :=
  CVp.of_same h fun _ hg => ⟨Nat.lt_of_lt_of_le hg hB, rfl⟩

/-- the first k caveats of the new row are laid -/
def Laid (I : Nat → Prop) (w : World) (n k : Nat) (ss : List ByteArray) (ds : List (List Int)) (fl : Array Value) : Prop :=
  fl.size = n * 2 ∧ ∀ j, j < k → ∃ s d p c, ss[j]? = some s ∧ ds[j]? = some d ∧ fl[j * 2]? = some (.string s) ∧ fl[j * 2 + 1]? = some (.slice p d.length c) ∧ SVp I w p d.length (d.map (Value.int .u8))

theorem laid_succ {I : Nat → Prop} {w : World} {n k : Nat} {ss : List ByteArray} {ds : List (List Int)} {fl : Array Value} {s : ByteArray} {d : List Int} {p : Option Addr} {c : Nat} (h : Laid I w n k ss ds fl) (hk : k < n)
    (hs : ss[k]? = some s) (hd : ds[k]? = some d) (hp : SVp I w p d.length (d.map (Value.int .u8))) : Laid I w n (k + 1) ss ds ((fl.setIfInBounds (k * 2) (.string s)).setIfInBounds (k * 2 + 1) (.slice p d.length c)) := by
  refine ⟨by simp [h.1], fun j hj => ?_⟩
  have hz := h.1
  by_cases hjk : j = k
  · subst hjk
    refine ⟨s, d, p, c, hs, hd, ?_, ?_, hp⟩
    · simp only [Array.getElem?_setIfInBounds, Array.size_setIfInBounds]
      rw [if_neg (by omega), if_pos trivial, if_pos (by omega)]
    · simp only [Array.getElem?_setIfInBounds, Array.size_setIfInBounds]
      rw [if_pos trivial, if_pos (by omega)]
  · obtain ⟨s', d', p', c', h1, h2, h3, h4, h5⟩ := h.2 j (by omega)
    refine ⟨s', d', p', c', h1, h2, ?_, ?_, h5⟩
    · simp only [Array.getElem?_setIfInBounds, Array.size_setIfInBounds]
      rw [if_neg (by omega), if_neg (by omega)]; exact h3
    · simp only [Array.getElem?_setIfInBounds, Array.size_setIfInBounds]
      rw [if_neg (by omega), if_neg (by omega)]; exact h4

theorem set2 (w : World) (cc : Array Value) (t : TypeId) (nq i j : Nat) (u v : Value) (b : Nat) (hb : b = w.heap.size) : (((w.alloc (.cells cc t)).drewN nq).setCell ⟨b, i, none⟩ u).setCell ⟨b, j, none⟩ v = (w.alloc (.cells ((cc.setIfInBounds i u).setIfInBounds j v) t)).drewN nq := by
  subst hb
  rw [← World.setCell_alloc_at (cc.setIfInBounds i u) t _ j v rfl, ← World.setCell_alloc_at cc t _ i u rfl]
  rfl

/-- eighteen cells, as a new discharge has them -/
def zs18 : Array Value := #[.int .u8 0, .int .u8 0, .int .u8 0, .int .u8 0, .int .u8 0, .int .u8 0, .int .u8 0, .int .u8 0, .int .u8 0, .int .u8 0, .int .u8 0, .int .u8 0, .int .u8 0, .int .u8 0, .int .u8 0, .int .u8 0, .slice none 0 0, .slice none 0 0]

theorem wpList_build_to {P : Program} {ops : Array Oper} {rest : List Oper} {o : Oper} {a : Act} {w : World} {Q : Exit → Act → World → Prop} (hg : o.guard = none) (t : TypeId) (parts : Array (Nat × Operand)) (ho : o.op = .build t parts)
    (cells : Array Value) (hb : P.built t (parts.map fun (i, x) => (i, a.eval x)).toList = some cells)
    (h : wpList P ops Q rest (a.put o.dst (.agg cells)) w) : wpList P ops Q (o :: rest) a w := by
  refine wpList_build hg t parts ho (by rw [hb]; rfl) ?_
  rw [hb]
  exact h

theorem world3 (w : World) (a b c : Array Value) (nq : Nat) :
    ((((w.alloc (.cells a 30)).alloc (.cells b 42)).alloc (.cells c 49)).drewN nq).heap[w.heap.size]? = some (.cells a 30) ∧ ((((w.alloc (.cells a 30)).alloc (.cells b 42)).alloc (.cells c 49)).drewN nq).heap[w.heap.size + 1]? = some (.cells b 42) := by
  constructor
  · exact (Below.heap_alloc _ _ _ (by simp; omega)).trans ((Below.heap_alloc _ _ _ (by simp)).trans (heap_alloc_new w _))
  · exact (Below.heap_alloc _ _ _ (by simp)).trans (heap_alloc2_new w _ _)

theorem world3' (w : World) (a b c : Array Value) (nq : Nat) : ((((w.alloc (.cells a 30)).alloc (.cells b 42)).alloc (.cells c 49)).drewN nq).heap[w.heap.size + 2]? = some (.cells c 49) := by
  have := heap_alloc_new ((w.alloc (.cells a 30)).alloc (.cells b 42)) (.cells c 49)
  simpa using this

/-- the blocks of I, and new ones -/
abbrev orNew (I : Nat → Prop) (w w' : World) : Nat → Prop := fun g => I g ∨ (w.heap.size ≤ g ∧ g < w'.heap.size)

theorem cv_of {I : Nat → Prop} {w W' : World} (hI : ∀ g, I g → g < w.heap.size) (hb : Below w.heap.size w W') {F : Nat} {fl : Array Value} (hw : w.heap.size ≤ F) (hF : W'.heap[F]? = some (.cells fl 49 (0, 0))) {n : Nat} {ss : List ByteArray} {ds : List (List Int)} (h : Laid I w n n ss ds fl) :
    CVp (orNew I w W') W' (some ⟨F, 0, none⟩) n ss ds := by
  intro k hk
  obtain ⟨s, d, p, c, h1, h2, h3, h4, h5⟩ := h.2 k hk
  refine ⟨s, d, F, 0, p, c, h1, h2, rfl, .inr ⟨hw, (Array.getElem?_eq_some_iff.1 hF).1⟩, ?_, ?_, h5.of_same fun g hg => ⟨.inl hg, hb.block g (hI g hg)⟩⟩
  · rw [Nat.zero_add, cell_of_row _ _ _ fl 49 (0, 0) hF]; exact h3
  · rw [Nat.zero_add, cell_of_row _ _ _ fl 49 (0, 0) hF]; exact h4

set_option maxHeartbeats 1000000 in
theorem make20_some {I : Nat → Prop} (ids : List UInt8) (hid : ids.length = 16) (ad : Addr) (q2 q3 : Option Addr) (n m c1 c2 c3 : Nat) (ss : List ByteArray) (ds : List (List Int)) (w : World) (hn : n ≤ 1048576)
    (s1 : SV w.heap.size w (some ad) n (ss.map Value.string)) (s2 : DVp I w q2 n ds) (hI : ∀ g, I g → g < w.heap.size) :
    Calls Trym.prog 20 #[.agg (idCells ids), .slice (some ad) n c1, .slice q2 n c2, .slice q3 m c3] w fun e w' => ∃ cq cc, e = .returned (.agg (dCells ids (.slice cq n cc) (.slice q3 m c3))) ∧ Below w.heap.size w w' ∧ CVp (orNew I w w') w' cq n ss ds := by
  have hnil : ∀ W, (binOp .neq 31 (.slice (some ad) n c1) (.slice none 0 0)).run Trym.prog W = .ok (.bool true) W := fun W => run_neq_slice_nil_any W 31 9 (some ad) n c1 0 0 Trym.underlying31
  have hmk := make_cavs n hn
  have hmz := size_madeCells #[.string ByteArray.empty, .slice none 0 0] (n * 2)
  have hbel := ((Below.refl w.heap.size w).alloc (Nat.le_refl _) (.cells (idCells ids) 30)).alloc (by simp) (.cells zs18 42)
  have S1 := keep s1
  have S2 := keep s2
  have KB := keep hbel
  have HI := keep hI
  clear s1 s2 hbel hI
  go_enter Trym.func20, Trym.ntmps20
  go_wp2
  generalize madeCells #[.string ByteArray.empty, .slice none 0 0] (n * 2) = z at *
  clear hmk hnil
  go_loopw [10] (fun i wr => ∃ (k nq : Nat) (fl : Array Value), k ≤ n ∧ i = .int .i64 k ∧ wr = (((w.alloc (.cells (idCells ids) 30)).alloc (.cells zs18 42)).alloc (.cells fl 49)).drewN nq ∧ Laid I w n k ss ds fl) (fun i _ => n - (intOf i).toNat)
  case atStart => exact ⟨0, 0, z, Nat.zero_le _, rfl, rfl, hmz, fun j hj => by omega⟩
  case round =>
    obtain ⟨k, nq, fl, hk, rfl, rfl, hL⟩ := hrel
    have KL := keep hL
    have hfs := hL.1
    clear hL
    by_cases hlt : k < n
    · obtain ⟨g1, o1, x, hx, hq1, hg1, cx⟩ := S1.out.at k hlt
      injection hq1 with hq1
      subst hq1
      obtain ⟨d, g2, o2, p, cc, hdk, rfl, hg2', cd, hs, hp⟩ := S2.out.at k hlt
      have hg2 := HI.out g2 hg2'
      clear hg2'
      have KN := keep (laid_succ (c := cc) KL.out hlt hx hdk hs)
      obtain ⟨u0, hu0⟩ : ∃ u, fl[k * 2]? = some u := ⟨_, Array.getElem?_eq_getElem (by omega)⟩
      obtain ⟨u1, hu1⟩ : ∃ u, fl[k * 2 + 1]? = some u := ⟨_, Array.getElem?_eq_getElem (by omega)⟩
      have hlti : (k : Int) < (n : Int) := by omega
      have g11 : g1 < w.heap.size + 1 := by omega
      have g12 : g1 < w.heap.size + 2 := by omega
      have g21 : g2 < w.heap.size + 1 := by omega
      have g22 : g2 < w.heap.size + 2 := by omega
      clear hx hdk hs hp
      generalize zs18 = z18 at *
      generalize idCells ids = idc at *
      go_wp2
      go_region
      go_wp2
      go_roundw
      case rel => exact ⟨k + 1, nq + 1, _, by omega, by go_num, set2 _ _ _ _ _ _ _ _ _ (by simp), KN.out⟩
      case measure => simp [intOf]; omega
    · obtain rfl : k = n := by omega
      have KI := keep (show Option.map (fun x => x.size) (Trym.prog.info? 30) = some (idCells ids).size by rw [idCells_size hid]; kernel_rfl)
      have KJ := keep (show Option.map (fun x => x.size) (Trym.prog.info? 42) = some (dCells ids (.slice (some ⟨w.heap.size + 2, 0, none⟩) k k) (.slice q3 m c3)).size by rw [dCells_size hid]; kernel_rfl)
      have KD := keep (built42 ids hid (some ⟨w.heap.size + 2, 0, none⟩) q3 k m k c3)
      have K1 := keep (dCells_one ids (some ⟨w.heap.size + 2, 0, none⟩) q3 k m k c3)
      have KZ := keep (show zs18.size = (dCells ids (.slice (some ⟨w.heap.size + 2, 0, none⟩) k k) (.slice q3 m c3)).size by rw [dCells_size hid]; rfl)
      have KW := keep (world3 w (idCells ids) zs18 fl nq)
      have KW3 := keep (world3' w (idCells ids) zs18 fl nq)
      generalize hD : dCells ids (.slice (some ⟨w.heap.size + 2, 0, none⟩) k k) (.slice q3 m c3) = D at *
      have KE := keep (show Ending.returned (.agg D) = .returned (.agg (dCells ids (.slice (some ⟨w.heap.size + 2, 0, none⟩) k k) (.slice q3 m c3))) by rw [hD])
      clear hD
      generalize zs18 = z18 at *
      generalize idCells ids = idc at *
      go_wp2_with (first | (refine wpList_load_row rfl 30 _ rfl w.heap.size rfl 30 idc (0, 0) _ KW.out.1 Trym.underlying30 rfl KI.out ?_) | (refine wpList_build_to rfl 42 _ rfl D ?hb ?_) | (refine wpList_store_row rfl 42 _ _ rfl (w.heap.size + 1) D rfl rfl 42 z18 KW.out.2 KJ.out KZ.out K1.out ?_))
      case hb => exact KD.out
      refine bodyPost_ret (v := .agg D) (results_cell_row rfl _ _ (w.heap.size + 1) 42 D (0, 0) _ rfl (setRow_heap _ (w.heap.size + 1) z18 D 42 _ KW.out.2) Trym.underlying42 rfl KJ.out) rfl ?_
      refine ⟨some ⟨w.heap.size + 2, 0, none⟩, k, KE.out, ?_, ?_⟩
      · exact below_setRow (below_drewN (KB.out.alloc (by simp; omega) _) nq) (by omega) _
      · exact cv_of HI.out (below_setRow (below_drewN (KB.out.alloc (by simp; omega) _) nq) (by omega) _) (by omega) ((setRow_other _ (w.heap.size + 1) (w.heap.size + 2) D (by omega)).trans KW3.out) KL.out

set_option maxHeartbeats 1000000 in
theorem make20_nil (ids : List UInt8) (hid : ids.length = 16) (q2 q3 : Option Addr) (m c2 c3 : Nat) (w : World) :
    Calls Trym.prog 20 #[.agg (idCells ids), .slice none 0 0, .slice q2 0 c2, .slice q3 m c3] w fun e w' => e = .returned (.agg (dCells ids (.slice none 0 0) (.slice q3 m c3))) ∧ Below w.heap.size w w' := by
  have hnil : ∀ W, (binOp .neq 31 (.slice none 0 0) (.slice none 0 0)).run Trym.prog W = .ok (.bool false) W := fun W => run_neq_slice_nil_any W 31 9 none 0 0 0 0 Trym.underlying31
  have KB := keep (((Below.refl w.heap.size w).alloc (Nat.le_refl _) (.cells (idCells ids) 30)).alloc (by simp) (.cells zs18 42))
  have KI := keep (show Option.map (fun x => x.size) (Trym.prog.info? 30) = some (idCells ids).size by rw [idCells_size hid]; kernel_rfl)
  have KJ := keep (show Option.map (fun x => x.size) (Trym.prog.info? 42) = some (dCells ids (.slice none 0 0) (.slice q3 m c3)).size by rw [dCells_size hid]; kernel_rfl)
  have KD := keep (built42 ids hid none q3 0 m 0 c3)
  have K1 := keep (dCells_one ids none q3 0 m 0 c3)
  have KZ := keep (show zs18.size = (dCells ids (.slice none 0 0) (.slice q3 m c3)).size by rw [dCells_size hid]; rfl)
  have KW1 := keep (heap_alloc2_old w (.cells (idCells ids) 30) (.cells zs18 42))
  have KW2 := keep (heap_alloc2_new w (.cells (idCells ids) 30) (.cells zs18 42))
  generalize dCells ids (.slice none 0 0) (.slice q3 m c3) = D at *
  generalize idCells ids = idc at *
  go_enter Trym.func20, Trym.ntmps20
  go_wp2_with (first | (refine wpList_load_row rfl 30 _ rfl w.heap.size rfl 30 idc (0, 0) _ KW1.out Trym.underlying30 rfl KI.out ?_) | (refine wpList_build_to rfl 42 _ rfl D ?hb ?_) | (refine wpList_store_row rfl 42 _ _ rfl (w.heap.size + 1) D rfl rfl 42 zs18 KW2.out KJ.out KZ.out K1.out ?_))
  case hb => exact KD.out
  refine bodyPost_ret (v := .agg D) (results_cell_row rfl _ _ (w.heap.size + 1) 42 D (0, 0) _ rfl (setRow_heap _ (w.heap.size + 1) zs18 D 42 _ KW2.out) Trym.underlying42 rfl KJ.out) rfl ?_
  exact ⟨rfl, below_setRow KB.out (by omega) _⟩

theorem make20_any (I : Nat → Prop) (ids : List UInt8) (hid : ids.length = 16) (q1 q2 q3 : Option Addr) (n m c1 c2 c3 : Nat) (ss : List ByteArray) (ds : List (List Int)) (w : World) (hn : n ≤ 1048576)
    (s1 : SV w.heap.size w q1 n (ss.map Value.string)) (s2 : DVp I w q2 n ds) (hI : ∀ g, I g → g < w.heap.size) (hq : q1 = none → n = 0 ∧ c1 = 0) :
    Calls Trym.prog 20 #[.agg (idCells ids), .slice q1 n c1, .slice q2 n c2, .slice q3 m c3] w fun e w' => ∃ cq cc, e = .returned (.agg (dCells ids (.slice cq n cc) (.slice q3 m c3))) ∧ Below w.heap.size w w' ∧ CVp (orNew I w w') w' cq n ss ds := by
  cases q1 with
  | some ad => exact make20_some ids hid ad q2 q3 n m c1 c2 c3 ss ds w hn s1 s2 hI
  | none =>
    obtain ⟨rfl, rfl⟩ := hq rfl
    refine (make20_nil ids hid q2 q3 m c2 c3 w).mono ?_
    rintro e w' ⟨rfl, hb⟩
    exact ⟨none, 0, rfl, hb, fun k hk => by omega⟩
end Go.Proofs.Qxb6601427aMods
