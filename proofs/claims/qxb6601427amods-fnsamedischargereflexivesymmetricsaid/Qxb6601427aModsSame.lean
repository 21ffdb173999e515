import Derived.Test.Qxb6601427aModsMake
import Derived.Deep.MidRow
import Derived.Deep.QuietTactic
import Derived.BigQuiet
namespace Go.Proofs.Qxb6601427aMods
open Go.RowKit
open Extern.Stop (cell)

/-- two strings are one -/
def eqT (s t : ByteArray) : Bool := s.toList == t.toList
theorem eqT_refl (s : ByteArray) : eqT s s = true := by simp [eqT]
theorem eqT_symm (s t : ByteArray) : eqT s t = eqT t s := by simp only [eqT]; rw [Bool.eq_iff_iff]; simp only [beq_iff_eq]; exact eq_comm

/-- the caveats are the same -/
def sameL : List ByteArray → List (List Int) → List ByteArray → List (List Int) → Nat → Nat → Bool
  | ss, ds, ts, es, k, f + 1 => (eqT (ss[k]?.getD ByteArray.empty) (ts[k]?.getD ByteArray.empty) && eqS (ds[k]?.getD []) (es[k]?.getD [])) && sameL ss ds ts es (k + 1) f
  | _, _, _, _, _, 0 => true

theorem sameL_refl (ss : List ByteArray) (ds : List (List Int)) (k f : Nat) : sameL ss ds ss ds k f = true := by
  induction f generalizing k with
  | zero => rfl
  | succ f ih => simp [sameL, eqT_refl, eqS_refl, ih]
theorem sameL_symm (ss ts : List ByteArray) (ds es : List (List Int)) (k f : Nat) : sameL ss ds ts es k f = sameL ts es ss ds k f := by
  induction f generalizing k with
  | zero => rfl
  | succ f ih => simp only [sameL]; rw [ih, eqT_symm, eqS_symm]

/-- the discharges are the same -/
def sameD (i j : List UInt8) (g h : List Int) (n m : Nat) (ss ts : List ByteArray) (ds es : List (List Int)) : Bool :=
  (i == j) && (eqS g h && (decide (n = m) && sameL ss ds ts es 0 n))

theorem sameD_refl (i : List UInt8) (g : List Int) (n : Nat) (ss : List ByteArray) (ds : List (List Int)) : sameD i i g g n n ss ss ds ds = true := by
  simp [sameD, eqS_refl, sameL_refl]
theorem sameD_symm (i j : List UInt8) (g h : List Int) (n m : Nat) (ss ts : List ByteArray) (ds es : List (List Int)) : sameD i j g h n m ss ts ds es = sameD j i h g m n ts ss es ds := by
  have e1 : (i == j) = (j == i) := by rw [Bool.eq_iff_iff]; simp only [beq_iff_eq]; exact eq_comm
  by_cases hnm : n = m
  · subst hnm; simp only [sameD]; rw [e1, eqS_symm, sameL_symm]
  · have hmn : ¬ m = n := fun h => hnm h.symm
    simp [sameD, hnm, hmn]

theorem dC16 {ids : List UInt8} (h : ids.length = 16) (c s : Value) : (dCells ids c s)[16]? = some c := by simp [dCells, h]
theorem dC17 {ids : List UInt8} (h : ids.length = 16) (c s : Value) : (dCells ids c s)[17]? = some s := by simp [dCells, h]

theorem dRange {ids : List UInt8} (c s : Value) {w : World} {b : Nat} {t : TypeId} (hg : w.heap[b]? = some (.cells (dCells ids c s) t (0, 0))) : w.rangeAt b 0 (ids.map cell) := by
  intro j v hj
  rw [Nat.zero_add, cell_of_row w b j _ t (0, 0) hg]
  have hl := (List.getElem?_eq_some_iff.1 hj).1
  simp only [dCells, List.getElem?_toArray]
  rw [List.getElem?_append_left hl]; exact hj

/-- a mark by which an arm of a walk knows its operation (so that it is not tried at another one) -/
def AtOp (p : Prop) : Prop := p
theorem at_op {p : Prop} (h : p) : AtOp p := h
section
variable {P : Program} {ops : Array Oper} {Q : Exit → Act → World → Prop} {rest : List Oper} {a : Act} {w : World}
theorem at_load (ty : TypeId) (x : Operand) {d : Option Tmp} {t : TypeId} {s : String} {af : Array Edge} : wpList P ops Q ({ dst := d, op := .load ty x, type := t, pos := s, after := af, guard := none } :: rest) a w = AtOp (wpList P ops Q ({ dst := d, op := .load ty x, type := t, pos := s, after := af, guard := none } :: rest) a w) := rfl
theorem at_store (ty : TypeId) (x y : Operand) {d : Option Tmp} {t : TypeId} {s : String} {af : Array Edge} : wpList P ops Q ({ dst := d, op := .store ty x y, type := t, pos := s, after := af, guard := none } :: rest) a w = AtOp (wpList P ops Q ({ dst := d, op := .store ty x y, type := t, pos := s, after := af, guard := none } :: rest) a w) := rfl
end

theorem eq39 (i j : List UInt8) (hi : i.length = 16) (hj : j.length = 16) (b : Bool) (hb : (i == j) = b) (w : World) : (Op.equalIn 10000 39 (.agg (i.map cell).toArray) (.agg (j.map cell).toArray)).run Trym.prog w = .ok b w := by
  rw [← hb]
  exact run_equalIn_bytes w 9998 39 5 16 Trym.underlying39 Trym.underlying5 (fun w => by
    obtain ⟨i, h1, h2, h3, _⟩ := info_parts Trym.info5
    simp [sizeOf, typeInfo, h1, h3]) i j hi hj

theorem neq39 (i j : List UInt8) (hi : i.length = 16) (hj : j.length = 16) (b : Bool) (hb : (i == j) = b) (w : World) : (binOp .neq 39 (.agg (i.map cell).toArray) (.agg (j.map cell).toArray)).run Trym.prog w = .ok (.bool (!b)) w := by
  rw [run_neq_struct, eq39 i j hi hj b hb w]
  rfl

set_option maxHeartbeats 1000000 in
theorem same31_no (i j : List UInt8) (hi : i.length = 16) (hj : j.length = 16) (cq1 cq2 sq1 sq2 : Option Addr) (n1 n2 cc1 cc2 m1 m2 sc1 sc2 : Nat) (gs hs : List Int) (w : World)
    (s1 : SV w.heap.size w sq1 m1 (gs.map (Value.int .u8))) (s2 : SV w.heap.size w sq2 m2 (hs.map (Value.int .u8)))
    (hno : (i == j) = false ∨ ((i == j) = true ∧ (eqS gs hs = false ∨ (eqS gs hs = true ∧ n1 ≠ n2)))) :
    Calls Trym.prog 31 #[.agg (dCells i (.slice cq1 n1 cc1) (.slice sq1 m1 sc1)), .agg (dCells j (.slice cq2 n2 cc2) (.slice sq2 m2 sc2))] w fun e w' => e = .returned (.bool false) ∧ Below w.heap.size w w' := by
  have KB := keep (((Below.refl w.heap.size w).alloc (Nat.le_refl _) (.cells (dCells i (.slice cq1 n1 cc1) (.slice sq1 m1 sc1)) 42)).alloc (by simp) (.cells (dCells j (.slice cq2 n2 cc2) (.slice sq2 m2 sc2)) 42))
  have R1 := keep (dRange (b := w.heap.size) _ _ (heap_alloc2_old w (.cells (dCells i (.slice cq1 n1 cc1) (.slice sq1 m1 sc1)) 42) (.cells (dCells j (.slice cq2 n2 cc2) (.slice sq2 m2 sc2)) 42)))
  have R2 := keep (dRange (b := w.heap.size + 1) _ _ (heap_alloc2_new w (.cells (dCells i (.slice cq1 n1 cc1) (.slice sq1 m1 sc1)) 42) (.cells (dCells j (.slice cq2 n2 cc2) (.slice sq2 m2 sc2)) 42)))
  have a16 := dC16 hi (.slice cq1 n1 cc1) (.slice sq1 m1 sc1)
  have a17 := dC17 hi (.slice cq1 n1 cc1) (.slice sq1 m1 sc1)
  have b16 := dC16 hj (.slice cq2 n2 cc2) (.slice sq2 m2 sc2)
  have b17 := dC17 hj (.slice cq2 n2 cc2) (.slice sq2 m2 sc2)
  have S1 := keep (s1.below KB.out (Nat.le_refl _))
  have S2 := keep (s2.below KB.out (Nat.le_refl _))
  have I1 := keep (show Option.map (fun x => x.size) (Trym.prog.info? 39) = some (i.map cell).length by rw [List.length_map, hi]; kernel_rfl)
  have I2 := keep (show Option.map (fun x => x.size) (Trym.prog.info? 39) = some (j.map cell).length by rw [List.length_map, hj]; kernel_rfl)
  generalize dCells i (.slice cq1 n1 cc1) (.slice sq1 m1 sc1) = D1 at *
  generalize dCells j (.slice cq2 n2 cc2) (.slice sq2 m2 sc2) = D2 at *
  clear s1 s2
  rcases hno with h | ⟨h, h' | ⟨h', hn⟩⟩
  · have hneq := neq39 i j hi hj _ h
    generalize (i.map cell) = I at *
    generalize (j.map cell) = J at *
    clear h
    go_enter Trym.func31, Trym.ntmps31
    go_wp2_with (first | (rw [at_load 39 (.tmp 7)]; refine at_op ?_; refine wpList_load_mid rfl 39 (.tmp 7) rfl w.heap.size 0 rfl I _ R1.out Trym.underlying39 rfl I1.out ?_) | (rw [at_load 39 (.tmp 9)]; refine at_op ?_; refine wpList_load_mid rfl 39 (.tmp 9) rfl (w.heap.size + 1) 0 rfl J _ R2.out Trym.underlying39 rfl I2.out ?_))
    go_ret
    exact ⟨rfl, KB.out⟩
  · have hneq := neq39 i j hi hj _ h
    generalize (i.map cell) = I at *
    generalize (j.map cell) = J at *
    clear h
    go_enter Trym.func31, Trym.ntmps31
    go_wp2_with (first | (rw [at_load 39 (.tmp 7)]; refine at_op ?_; refine wpList_load_mid rfl 39 (.tmp 7) rfl w.heap.size 0 rfl I _ R1.out Trym.underlying39 rfl I1.out ?_) | (rw [at_load 39 (.tmp 9)]; refine at_op ?_; refine wpList_load_mid rfl 39 (.tmp 9) rfl (w.heap.size + 1) 0 rfl J _ R2.out Trym.underlying39 rfl I2.out ?_) | (go_at_call 32; refine (equal_any _ sq1 sq2 m1 m2 sc1 sc2 gs hs S1.out S2.out).mono ?_; rintro e w1 ⟨rfl, rfl⟩))
    go_ret
    exact ⟨rfl, KB.out⟩
  · have hneq := neq39 i j hi hj _ h
    generalize (i.map cell) = I at *
    generalize (j.map cell) = J at *
    clear h
    go_enter Trym.func31, Trym.ntmps31
    go_wp2_with (first | (rw [at_load 39 (.tmp 7)]; refine at_op ?_; refine wpList_load_mid rfl 39 (.tmp 7) rfl w.heap.size 0 rfl I _ R1.out Trym.underlying39 rfl I1.out ?_) | (rw [at_load 39 (.tmp 9)]; refine at_op ?_; refine wpList_load_mid rfl 39 (.tmp 9) rfl (w.heap.size + 1) 0 rfl J _ R2.out Trym.underlying39 rfl I2.out ?_) | (go_at_call 32; refine (equal_any _ sq1 sq2 m1 m2 sc1 sc2 gs hs S1.out S2.out).mono ?_; rintro e w1 ⟨rfl, rfl⟩))
    go_ret
    exact ⟨rfl, KB.out⟩

theorem sameL_step (ss ts : List ByteArray) (ds es : List (List Int)) (k f : Nat) (s t : ByteArray) (d e : List Int) (h1 : ss[k]? = some s) (h2 : ts[k]? = some t) (h3 : ds[k]? = some d) (h4 : es[k]? = some e) :
    sameL ss ds ts es k (f + 1) = ((eqT s t && eqS d e) && sameL ss ds ts es (k + 1) f) := by simp [sameL, h1, h2, h3, h4]

theorem retb {a b : Bool} (h : a = b) : Ending.returned (.bool a) = .returned (.bool b) := by rw [h]

set_option maxHeartbeats 1000000 in
theorem same31_yes (i j : List UInt8) (hi : i.length = 16) (hj : j.length = 16) (cq1 cq2 sq1 sq2 : Option Addr) (n cc1 cc2 m1 m2 sc1 sc2 : Nat) (gs hs : List Int) (ss ts : List ByteArray) (ds es : List (List Int)) (w : World) (hn : n ≤ 1048576)
    (s1 : SV w.heap.size w sq1 m1 (gs.map (Value.int .u8))) (s2 : SV w.heap.size w sq2 m2 (hs.map (Value.int .u8))) (v1 : CV w.heap.size w cq1 n ss ds) (v2 : CV w.heap.size w cq2 n ts es)
    (h : (i == j) = true) (h' : eqS gs hs = true) :
    Calls Trym.prog 31 #[.agg (dCells i (.slice cq1 n cc1) (.slice sq1 m1 sc1)), .agg (dCells j (.slice cq2 n cc2) (.slice sq2 m2 sc2))] w fun e w' => e = .returned (.bool (sameL ss ds ts es 0 n)) ∧ Below w.heap.size w w' := by
  have KB := keep (((Below.refl w.heap.size w).alloc (Nat.le_refl _) (.cells (dCells i (.slice cq1 n cc1) (.slice sq1 m1 sc1)) 42)).alloc (by simp) (.cells (dCells j (.slice cq2 n cc2) (.slice sq2 m2 sc2)) 42))
  have R1 := keep (dRange (b := w.heap.size) _ _ (heap_alloc2_old w (.cells (dCells i (.slice cq1 n cc1) (.slice sq1 m1 sc1)) 42) (.cells (dCells j (.slice cq2 n cc2) (.slice sq2 m2 sc2)) 42)))
  have R2 := keep (dRange (b := w.heap.size + 1) _ _ (heap_alloc2_new w (.cells (dCells i (.slice cq1 n cc1) (.slice sq1 m1 sc1)) 42) (.cells (dCells j (.slice cq2 n cc2) (.slice sq2 m2 sc2)) 42)))
  have a16 := dC16 hi (.slice cq1 n cc1) (.slice sq1 m1 sc1)
  have a17 := dC17 hi (.slice cq1 n cc1) (.slice sq1 m1 sc1)
  have b16 := dC16 hj (.slice cq2 n cc2) (.slice sq2 m2 sc2)
  have b17 := dC17 hj (.slice cq2 n cc2) (.slice sq2 m2 sc2)
  have S1 := keep (s1.below KB.out (Nat.le_refl _))
  have S2 := keep (s2.below KB.out (Nat.le_refl _))
  have V1 := keep (v1.below KB.out (Nat.le_refl _))
  have V2 := keep (v2.below KB.out (Nat.le_refl _))
  have I1 := keep (show Option.map (fun x => x.size) (Trym.prog.info? 39) = some (i.map cell).length by rw [List.length_map, hi]; kernel_rfl)
  have I2 := keep (show Option.map (fun x => x.size) (Trym.prog.info? 39) = some (j.map cell).length by rw [List.length_map, hj]; kernel_rfl)
  have hneq := neq39 i j hi hj _ h
  generalize dCells i (.slice cq1 n cc1) (.slice sq1 m1 sc1) = D1 at *
  generalize dCells j (.slice cq2 n cc2) (.slice sq2 m2 sc2) = D2 at *
  generalize (i.map cell) = I at *
  generalize (j.map cell) = J at *
  clear s1 s2 v1 v2 h
  go_enter Trym.func31, Trym.ntmps31
  go_wp2_with (first | (rw [at_load 39 (.tmp 7)]; refine at_op ?_; refine wpList_load_mid rfl 39 (.tmp 7) rfl w.heap.size 0 rfl I _ R1.out Trym.underlying39 rfl I1.out ?_) | (rw [at_load 39 (.tmp 9)]; refine at_op ?_; refine wpList_load_mid rfl 39 (.tmp 9) rfl (w.heap.size + 1) 0 rfl J _ R2.out Trym.underlying39 rfl I2.out ?_) | (go_at_call 32; refine (equal_any _ sq1 sq2 m1 m2 sc1 sc2 gs hs S1.out S2.out).mono ?_; rintro e w1 ⟨rfl, rfl⟩))
  clear hneq
  go_loopw [32] (fun t wr => ∃ k : Nat, k ≤ n ∧ t = .int .i64 k ∧ sameL ss ds ts es 0 n = sameL ss ds ts es k (n - k) ∧ Below (w.heap.size + 2) ((w.alloc (.cells D1 42)).alloc (.cells D2 42)) wr) (fun t _ => n - (intOf t).toNat)
  case atStart => exact ⟨0, Nat.zero_le _, rfl, rfl, Below.refl _ _⟩
  case round =>
    obtain ⟨k, hk, rfl, hl, hB⟩ := hrel
    have HL := keep hl
    have HB := keep hB
    have hsz : w.heap.size + 2 ≤ wr.heap.size := by have := hB.size; simpa using this
    clear hl
    by_cases hlt : k < n
    · obtain ⟨s, d, g1, o1, p1, c1, x1, x2, rfl, hg1, x4, x5, x6⟩ := (V1.out.below HB.out (by omega)) k hlt
      obtain ⟨t, e, g2, o2, p2, c2, y1, y2, rfl, hg2, y4, y5, y6⟩ := (V2.out.below HB.out (by omega)) k hlt
      have z17 : wr.cell? ⟨w.heap.size + 1, 16, none⟩ = some (.slice (some ⟨g2, o2, none⟩) n cc2) := by
        rw [hB.cell (p := ⟨w.heap.size + 1, 16, none⟩) (by show w.heap.size + 1 < w.heap.size + 2; omega)]
        exact (World.cell?_alloc_at D2 42 (w.heap.size + 1) 16 (by simp)).trans b16
      have KX := keep (sameL_step ss ts ds es k (n - k - 1) s t d e x1 y1 x2 y2)
      have K6 := keep (show SV w.heap.size wr p1 d.length (d.map (Value.int .u8)) from x6)
      have L6 := keep (show SV w.heap.size wr p2 e.length (e.map (Value.int .u8)) from y6)
      have hlti : (k : Int) < (n : Int) := by omega
      have gg1 : g1 < wr.heap.size := by omega
      have gg2 : g2 < wr.heap.size := by omega
      have gg3 : w.heap.size + 1 < wr.heap.size := by omega
      clear hB x1 y1 x2 y2 x6 y6 a16 a17 b16 b17
      rw [← Nat.add_assoc] at x5 y5
      have KQ := keep (fun (W : World) (hW : Below (w.heap.size + 2) wr W) => equal_any W p1 p2 d.length e.length c1 c2 d e (K6.out.below hW (by omega)) (L6.out.below hW (by omega)))
      have HB2 := keep (HB.out.alloc (by simpa using hsz) (.cells #[.string s, .slice p1 d.length c1] 49))
      cases hst : eqT s t with
      | false =>
        have hraw : (s.toList == t.toList) = false := hst
        have KF := keep (show sameL ss ds ts es 0 n = false by rw [HL.out, show n - k = n - k - 1 + 1 by omega, KX.out, hst]; rfl)
        clear hst
        go_wp2
        go_quiet (fail)
        go_wp2
        go_ret
        exact ⟨retb KF.out.symm, below_drewN (KB.out.trans (HB2.out.mono (by omega))) _⟩
      | true =>
        have hraw : (s.toList == t.toList) = true := hst
        cases hde : eqS d e with
        | false =>
          have KF := keep (show sameL ss ds ts es 0 n = false by rw [HL.out, show n - k = n - k - 1 + 1 by omega, KX.out, hst, hde]; rfl)
          clear hst
          go_wp2
          go_quiet ((go_at_call 32; exact Calls.quiet_of_same (KQ.out _ (by repeat (first | exact Below.refl _ _ | apply Below.drew | apply below_drewN | exact (Below.refl _ _).alloc (by simpa using hsz) _)))))
          go_wp2
          go_ret
          exact ⟨retb KF.out.symm, below_drewN (KB.out.trans (HB2.out.mono (by omega))) _⟩
        | true =>
          have KF := keep (show sameL ss ds ts es 0 n = sameL ss ds ts es (k + 1) (n - (k + 1)) by rw [HL.out, show n - k = n - k - 1 + 1 by omega, KX.out, hst, hde]; rfl)
          clear hst
          go_wp2
          go_quiet ((go_at_call 32; exact Calls.quiet_of_same (KQ.out _ (by repeat (first | exact Below.refl _ _ | apply Below.drew | apply below_drewN | exact (Below.refl _ _).alloc (by simpa using hsz) _)))))
          go_wp2
          go_roundw
          case rel => exact ⟨k + 1, by omega, by go_num, KF.out, below_drewN HB2.out _⟩
          case measure => simp [intOf]; omega
    · obtain rfl : k = n := by omega
      have KF := keep (show sameL ss ds ts es 0 k = true by rw [HL.out, Nat.sub_self]; rfl)
      go_wp2
      go_ret
      exact ⟨retb KF.out.symm, KB.out.trans (HB.out.mono (by omega))⟩

/-- a discharge in memory: its cells, and what they read as -/
structure Dis where
  ids : List UInt8
  cq : Option Addr
  n : Nat
  cc : Nat
  sq : Option Addr
  m : Nat
  sc : Nat
  gs : List Int
  ss : List ByteArray
  ds : List (List Int)

def Dis.cells (d : Dis) : Array Value := dCells d.ids (.slice d.cq d.n d.cc) (.slice d.sq d.m d.sc)
def Dis.ok (d : Dis) (B : Nat) (w : World) : Prop := d.ids.length = 16 ∧ d.n ≤ 1048576 ∧ SV B w d.sq d.m (d.gs.map (Value.int .u8)) ∧ CV B w d.cq d.n d.ss d.ds
def Dis.same (a b : Dis) : Bool := sameD a.ids b.ids a.gs b.gs a.n b.n a.ss b.ss a.ds b.ds

theorem Dis.ok.below {d : Dis} {B B' : Nat} {w w' : World} (h : d.ok B w) (hb : Below B' w w') (hB : B ≤ B') : d.ok B w' := ⟨h.1, h.2.1, h.2.2.1.below hb hB, h.2.2.2.below hb hB⟩
theorem Dis.ok.mono {d : Dis} {B B' : Nat} {w : World} (h : d.ok B w) (hB : B ≤ B') : d.ok B' w := ⟨h.1, h.2.1, h.2.2.1.mono hB, h.2.2.2.mono hB⟩
theorem Dis.cells_size {d : Dis} (h : d.ids.length = 16) : d.cells.size = 18 := dCells_size h _ _
theorem Dis.cells_one (d : Dis) : d.cells.all (·.oneCell') = true := dCells_one _ _ _ _ _ _ _

theorem same31_any (a b : Dis) (w : World) (ha : a.ok w.heap.size w) (hb : b.ok w.heap.size w) :
    Calls Trym.prog 31 #[.agg a.cells, .agg b.cells] w fun e w' => e = .returned (.bool (a.same b)) ∧ Below w.heap.size w w' := by
  obtain ⟨ai, an, as1, av⟩ := ha
  obtain ⟨bi, bn, bs, bv⟩ := hb
  obtain ⟨ids1, cq1, n1, cc1, sq1, m1, sc1, gs, ss, ds⟩ := a
  obtain ⟨ids2, cq2, n2, cc2, sq2, m2, sc2, hs, ts, es⟩ := b
  cases h1 : (ids1 == ids2) with
  | false =>
    have e : Dis.same ⟨ids1, cq1, n1, cc1, sq1, m1, sc1, gs, ss, ds⟩ ⟨ids2, cq2, n2, cc2, sq2, m2, sc2, hs, ts, es⟩ = false := by simp [Dis.same, sameD, h1]
    rw [e]
    exact same31_no ids1 ids2 ai bi cq1 cq2 sq1 sq2 n1 n2 cc1 cc2 m1 m2 sc1 sc2 gs hs w as1 bs (.inl h1)
  | true =>
    cases h2 : eqS gs hs with
    | false =>
      have e : Dis.same ⟨ids1, cq1, n1, cc1, sq1, m1, sc1, gs, ss, ds⟩ ⟨ids2, cq2, n2, cc2, sq2, m2, sc2, hs, ts, es⟩ = false := by simp [Dis.same, sameD, h2]
      rw [e]
      exact same31_no ids1 ids2 ai bi cq1 cq2 sq1 sq2 n1 n2 cc1 cc2 m1 m2 sc1 sc2 gs hs w as1 bs (.inr ⟨h1, .inl h2⟩)
    | true =>
      by_cases h3 : n1 = n2
      · subst h3
        have e : Dis.same ⟨ids1, cq1, n1, cc1, sq1, m1, sc1, gs, ss, ds⟩ ⟨ids2, cq2, n1, cc2, sq2, m2, sc2, hs, ts, es⟩ = sameL ss ds ts es 0 n1 := by simp [Dis.same, sameD, h1, h2]
        rw [e]
        exact same31_yes ids1 ids2 ai bi cq1 cq2 sq1 sq2 n1 cc1 cc2 m1 m2 sc1 sc2 gs hs ss ts ds es w an as1 bs av bv h1 h2
      · have e : Dis.same ⟨ids1, cq1, n1, cc1, sq1, m1, sc1, gs, ss, ds⟩ ⟨ids2, cq2, n2, cc2, sq2, m2, sc2, hs, ts, es⟩ = false := by simp [Dis.same, sameD, h3]
        rw [e]
        exact same31_no ids1 ids2 ai bi cq1 cq2 sq1 sq2 n1 n2 cc1 cc2 m1 m2 sc1 sc2 gs hs w as1 bs (.inr ⟨h1, .inr ⟨h2, h3⟩⟩)

set_option maxHeartbeats 1000000 in
theorem same22_any (a b : Dis) (w : World) (ha : a.ok w.heap.size w) (hb : b.ok w.heap.size w) :
    Calls Trym.prog 22 #[.agg a.cells, .agg b.cells] w fun e w' => e = .returned (.bool (a.same b)) ∧ Below w.heap.size w w' := by
  have KB := keep (((Below.refl w.heap.size w).alloc (Nat.le_refl _) (.cells a.cells 42)).alloc (by simp) (.cells b.cells 42))
  have KC := keep (same31_any a b _ ((ha.below KB.out (Nat.le_refl _)).mono (by simp; omega)) ((hb.below KB.out (Nat.le_refl _)).mono (by simp; omega)))
  have I1 := keep (show Option.map (fun x => x.size) (Trym.prog.info? 42) = some a.cells.size by rw [Dis.cells_size ha.1]; kernel_rfl)
  have I2 := keep (show Option.map (fun x => x.size) (Trym.prog.info? 42) = some b.cells.size by rw [Dis.cells_size hb.1]; kernel_rfl)
  clear ha hb
  generalize a.cells = D1 at *
  generalize b.cells = D2 at *
  generalize a.same b = r at *
  go_enter Trym.func22, Trym.ntmps22
  go_wp2_with (first | (rw [at_load 42 (.tmp 2)]; refine at_op ?_; refine wpList_load_row rfl 42 _ rfl w.heap.size rfl 42 D1 (0, 0) _ (heap_alloc2_old _ _ _) Trym.underlying42 rfl I1.out ?_) | (rw [at_load 42 (.tmp 3)]; refine at_op ?_; refine wpList_load_row rfl 42 _ rfl (w.heap.size + 1) rfl 42 D2 (0, 0) _ (heap_alloc2_new _ _ _) Trym.underlying42 rfl I2.out ?_))
  refine KC.out.mono ?_
  rintro e w1 ⟨rfl, hb⟩
  have KB1 := keep hb
  clear hb
  go_wp2
  go_ret
  exact ⟨rfl, KB.out.trans (KB1.out.mono (by simp; omega))⟩
end Go.Proofs.Qxb6601427aMods
