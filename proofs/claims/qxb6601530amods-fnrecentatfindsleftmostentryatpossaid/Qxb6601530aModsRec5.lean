import Derived.Test.Qxb6601530aModsRec4
namespace Go.Proofs.Qxb6601530aMods
open Go.RowKit
open Extern.Stop (cell)

/-- among the first k entries none lies at pos -/
def NoTo (es : List REnt) (pos : Int) (k : Nat) : Prop := ∀ (i : Nat) (e : REnt), i < k → es[i]? = some e → e.p ≠ pos
theorem noTo_succ {es : List REnt} {pos : Int} {k : Nat} {e : REnt} (h : NoTo es pos k) (he : es[k]? = some e) (hp : e.p ≠ pos) : NoTo es pos (k + 1) := fun i f hi hf => by
  by_cases hik : i = k
  · subst hik; rw [he] at hf; injection hf with hf; subst hf; exact hp
  · exact h i f (by omega) hf

/-- what 'at' answers: the leftmost entry at pos, or nothing -/
def RAt (es : List REnt) (pos : Int) (v : Value) : Prop :=
  (v = .tuple #[.agg zs36, .bool false] ∧ ∀ (i : Nat) (e : REnt), es[i]? = some e → e.p ≠ pos) ∨
  ∃ (j : Nat) (e : REnt), es[j]? = some e ∧ e.p = pos ∧ NoTo es pos j ∧ v = .tuple #[.agg (eCells e).toArray, .bool true]
def RAtSaid (es : List REnt) (pos : Int) (en : Ending) : Prop := ∃ v, en = .returned v ∧ RAt es pos v
theorem rat_none {es : List REnt} {pos : Int} {n : Nat} (hl : es.length = n) (h : NoTo es pos n) : RAtSaid es pos (.returned (.tuple #[.agg zs36, .bool false])) :=
  ⟨_, rfl, .inl ⟨rfl, fun i e he => h i e (by have := (List.getElem?_eq_some_iff.1 he).1; omega) he⟩⟩
theorem rat_some {es : List REnt} {pos : Int} {j : Nat} {e : REnt} (he : es[j]? = some e) (hp : e.p = pos) (h : NoTo es pos j) : RAtSaid es pos (.returned (.tuple #[.agg (eCells e).toArray, .bool true])) :=
  ⟨_, rfl, .inr ⟨j, e, he, hp, h, rfl⟩⟩

set_option maxRecDepth 100000 in
set_option maxHeartbeats 2000000 in
theorem at32_some (b : Nat) (pos : Int) (q : Option Addr) (n c : Nat) (es : List REnt) (w : World) (hb : b < w.heap.size) (hc : w.cell? ⟨b, 0, none⟩ = some (.slice q n c)) (s : RV (fun g => g < w.heap.size) w q n es) (hn : n ≤ 1048576) :
    Calls Trym.prog 32 #[.pointer (some ⟨b, 0, none⟩), .int .u64 pos] w fun e w' => RAtSaid es pos e ∧ Below w.heap.size w w' := by
  have S := keep s
  clear s
  have KJ := keep (show Option.map (fun x => x.size) (Trym.prog.info? 56) = some zs36.size from info56s)
  go_enter Trym.func32, Trym.ntmps32
  go_wp2
  go_loopw [16] (fun i wr => ∃ k : Nat, k ≤ n ∧ i = .int .i64 k ∧ Below w.heap.size w wr ∧ wr.heap[w.heap.size]? = some (.cells zs36 56 (0, 0)) ∧ NoTo es pos k) (fun i _ => n - (intOf i).toNat)
  case atStart => exact ⟨0, Nat.zero_le _, rfl, below_alloc _ _, heap_alloc_new w (.cells zs36 56), fun i e hi => by omega⟩
  case round =>
    obtain ⟨k, hk, rfl, hB, hZ, hN⟩ := hrel
    have KB := keep hB
    have KZ := keep hZ
    have KN := keep hN
    have hbw : w.heap.size < wr.heap.size := (Array.getElem?_eq_some_iff.1 hZ).1
    clear hB hZ hN
    by_cases hlt : k < n
    · obtain ⟨e, g, o, he, rfl, hg, hr, hok⟩ := S.out.at k hlt
      have hel := eCells_len hok.1
      have KR := keep (range_same hr (KB.out.block g hg))
      have I1 := keep (show Option.map (fun x => x.size) (Trym.prog.info? 56) = some (eCells e).length by rw [hel]; exact info56s)
      have I2 := keep (show Option.map (fun x => x.size) (Trym.prog.info? 56) = some (eCells e).toArray.size by rw [List.size_toArray, hel]; exact info56s)
      have Z1 := keep (show zs36.size = (eCells e).toArray.size by simp only [List.size_toArray, hel]; rfl)
      have O1 := keep (all_oneCell_toArray (eCells_one e))
      have hc0 : (wr.alloc (.cells (eCells e).toArray 56)).cell? ⟨wr.heap.size, 0, none⟩ = some (.int .u64 e.p) := by
        rw [cell_of_row _ _ 0 _ 56 (0, 0) (heap_alloc_new wr _)]; rfl
      have KX := keep (heap_alloc_new wr (.cells (eCells e).toArray 56))
      have KY := keep ((heap_alloc_old wr (.cells (eCells e).toArray 56) hbw).trans KZ.out)
      have KBA := keep (KB.out.alloc (o := .cells (eCells e).toArray 56) (by omega))
      have hlti : (k : Int) < (n : Int) := by omega
      by_cases hp : e.p = pos
      · have KS := keep (rat_some he hp KN.out)
        clear he hr hok hel
        rw [hp] at hc0
        clear hp
        generalize eCells e = E at *
        go_wp2_with (first | (rw [at_load 56 (.tmp 18)]; refine at_op ?_; refine wpList_load_mid rfl 56 _ rfl g (o + k * 36) rfl E _ KR.out Trym.underlying56 rfl I1.out ?_) | (rw [at_store 56 (.tmp 7) (.tmp 19)]; refine at_op ?_; refine wpList_store_row rfl 56 _ _ rfl wr.heap.size E.toArray rfl rfl 56 zs36 (heap_alloc_new _ _) I2.out Z1.out O1.out ?_; rw [World.setRow_alloc_new]) | (rw [at_load 56 (.tmp 7)]; refine at_op ?_; refine wpList_load_row rfl 56 _ rfl wr.heap.size rfl 56 E.toArray (0, 0) _ KX.out Trym.underlying56 rfl I2.out ?_) | (rw [at_store 56 (.tmp 4) (.tmp 24)]; refine at_op ?_; refine wpList_store_row rfl 56 _ _ rfl w.heap.size E.toArray rfl rfl 56 zs36 KY.out I2.out Z1.out O1.out ?_))
        refine bodyPost_ret (v := .tuple #[.agg E.toArray, .bool true]) (results_cell_slot rfl _ _ w.heap.size 56 E.toArray (0, 0) _ _ rfl rfl (setRow_heap _ w.heap.size zs36 E.toArray 56 _ KY.out) Trym.underlying56 rfl I2.out) rfl ?_
        exact ⟨KS.out, below_setRow KBA.out (Nat.le_refl _) _⟩
      · have KN2 := keep (noTo_succ KN.out he hp)
        clear he hr hok hel
        have hpe : (e.p == pos) = false := by simpa using hp
        generalize e.p = ep at *
        generalize eCells e = E at *
        go_wp2_with (first | (rw [at_load 56 (.tmp 18)]; refine at_op ?_; refine wpList_load_mid rfl 56 _ rfl g (o + k * 36) rfl E _ KR.out Trym.underlying56 rfl I1.out ?_) | (rw [at_store 56 (.tmp 7) (.tmp 19)]; refine at_op ?_; refine wpList_store_row rfl 56 _ _ rfl wr.heap.size E.toArray rfl rfl 56 zs36 (heap_alloc_new _ _) I2.out Z1.out O1.out ?_; rw [World.setRow_alloc_new]))
        go_roundw
        case rel => exact ⟨k + 1, by omega, by go_num, KBA.out, KY.out, KN2.out⟩
        case measure => simp [intOf]; omega
    · obtain rfl : k = n := by omega
      have KS := keep (rat_none S.out.1 KN.out)
      go_wp2_with (first | (refine wpList_build_to rfl 56 _ rfl zs36 ?hb ?_) | (rw [at_store 56 (.tmp 4) (.tmp 26)]; refine at_op ?_; refine wpList_store_row rfl 56 _ _ rfl w.heap.size zs36 rfl rfl 56 zs36 KZ.out KJ.out rfl zs36_one ?_))
      case hb => exact built56z
      refine bodyPost_ret (v := .tuple #[.agg zs36, .bool false]) (results_cell_slot rfl _ _ w.heap.size 56 zs36 (0, 0) _ _ rfl rfl (setRow_heap _ w.heap.size zs36 zs36 56 _ KZ.out) Trym.underlying56 rfl KJ.out) rfl ?_
      exact ⟨KS.out, below_setRow KB.out (Nat.le_refl _) _⟩

theorem built88 (q : Option Addr) (n c : Nat) : Trym.prog.built 88 [(0, .slice q n c)] = some #[.slice q n c] := by kernel_rfl

set_option maxRecDepth 100000 in
set_option maxHeartbeats 2000000 in
theorem atNil18 (pos : Int) (w : World) : Calls Trym.prog 18 #[.int .u64 pos] w fun e w' => e = .returned (.tuple #[.agg zs36, .bool false]) ∧ Below w.heap.size w w' := by
  have KJ := keep (show Option.map (fun x => x.size) (Trym.prog.info? 56) = some zs36.size from info56s)
  have KW := keep (heap_alloc_new w (.cells zs36 56))
  have KB := keep (below_alloc w (.cells zs36 56))
  have KL := keep (show w.heap.size < (w.alloc (.cells zs36 56)).heap.size by simp)
  go_enter Trym.func18, Trym.ntmps18
  go_wp2_with fail
  refine (at32_nil pos (w.alloc (.cells zs36 56))).mono ?_
  rintro e w1 ⟨rfl, hbl⟩
  have KW1 := keep ((hbl.block _ KL.out).trans KW.out)
  have KB1 := keep (KB.out.trans (hbl.mono KB.out.size))
  clear hbl
  go_wp2_with (rw [at_store 56 (.tmp 2) (.tmp 8)]; refine at_op ?_; refine wpList_store_row rfl 56 _ _ rfl w.heap.size zs36 rfl rfl 56 zs36 KW1.out KJ.out rfl zs36_one ?_)
  refine bodyPost_ret (v := .tuple #[.agg zs36, .bool false]) (results_cell_slot rfl _ _ w.heap.size 56 zs36 (0, 0) _ _ rfl rfl (setRow_heap _ w.heap.size zs36 zs36 56 _ KW1.out) Trym.underlying56 rfl KJ.out) rfl ?_
  exact ⟨rfl, below_setRow KB1.out (Nat.le_refl _) _⟩

/-- the cells that an answer bears: 36, each one cell -/
theorem rat_cells {I : Nat → Prop} {w : World} {es : List REnt} {pos : Int} {v : Value} {q : Option Addr} {n : Nat} (s : RV I w q n es) (h : RAt es pos v) : ∃ D b, v = .tuple #[.agg D, .bool b] ∧ D.size = 36 ∧ D.all (·.oneCell') = true := by
  rcases h with ⟨rfl, _⟩ | ⟨j, e, he, _, _, rfl⟩
  · exact ⟨_, _, rfl, rfl, zs36_one⟩
  · exact ⟨_, _, rfl, by rw [List.size_toArray]; exact eCells_len (s.2 j e he).2.1, all_oneCell_toArray (eCells_one e)⟩

set_option maxRecDepth 100000 in
set_option maxHeartbeats 2000000 in
theorem at21 (pos : Int) (q : Option Addr) (n c : Nat) (es : List REnt) (w : World) (s : RV (fun g => g < w.heap.size) w q n es) (hn : n ≤ 1048576) :
    Calls Trym.prog 21 #[.slice q n c, .int .u64 pos] w fun e w' => RAtSaid es pos e ∧ Below w.heap.size w w' := by
  have KW := keep (heap_alloc2_old w (.cells zs36 56) (.cells #[.slice q n c] 88))
  have KB := keep (((Below.refl w.heap.size w).alloc (Nat.le_refl _) (.cells zs36 56)).alloc (by simp) (.cells #[.slice q n c] 88))
  have KL := keep (show w.heap.size < ((w.alloc (.cells zs36 56)).alloc (.cells #[.slice q n c] 88)).heap.size by simp; omega)
  have KL2 := keep (show w.heap.size + 1 < ((w.alloc (.cells zs36 56)).alloc (.cells #[.slice q n c] 88)).heap.size by simp)
  have KC := keep (show ((w.alloc (.cells zs36 56)).alloc (.cells #[.slice q n c] 88)).cell? ⟨w.heap.size + 1, 0, none⟩ = some (.slice q n c) by rw [cell_of_row _ _ 0 _ 88 (0, 0) (heap_alloc2_new w _ _)]; rfl)
  have S := keep (s.of_same (J := fun g => g < ((w.alloc (.cells zs36 56)).alloc (.cells #[.slice q n c] 88)).heap.size) (fun g hg => ⟨Nat.lt_of_lt_of_le hg KB.out.size, KB.out.block g hg⟩))
  clear s
  go_enter Trym.func21, Trym.ntmps21
  go_wp2_with (refine wpList_build_to rfl 88 _ rfl #[.slice q n c] ?hb ?_)
  case hb => exact built88 q n c
  refine (at32_some (w.heap.size + 1) pos q n c es ((w.alloc (.cells zs36 56)).alloc (.cells #[.slice q n c] 88)) KL2.out KC.out S.out hn).mono ?_
  rintro e w1 ⟨⟨v, rfl, hat⟩, hbl⟩
  obtain ⟨D, b, rfl, hD, hD1⟩ := rat_cells S.out hat
  have KA := keep hat
  have KJ := keep (show Option.map (fun x => x.size) (Trym.prog.info? 56) = some D.size by rw [hD]; exact info56s)
  have KZ := keep (show zs36.size = D.size by rw [hD]; rfl)
  have KO := keep hD1
  have KW1 := keep ((hbl.block _ KL.out).trans KW.out)
  have KB1 := keep (KB.out.trans (hbl.mono KB.out.size))
  clear hbl hat hD hD1
  go_wp2_with (rw [at_store 56 (.tmp 4) (.tmp 13)]; refine at_op ?_; refine wpList_store_row rfl 56 _ _ rfl w.heap.size D rfl rfl 56 zs36 KW1.out KJ.out KZ.out KO.out ?_)
  refine bodyPost_ret (v := .tuple #[.agg D, .bool b]) (results_cell_slot rfl _ _ w.heap.size 56 D (0, 0) _ _ rfl rfl (setRow_heap _ w.heap.size zs36 D 56 _ KW1.out) Trym.underlying56 rfl KJ.out) rfl ?_
  exact ⟨⟨_, rfl, KA.out⟩, below_setRow KB1.out (Nat.le_refl _) _⟩
end Go.Proofs.Qxb6601530aMods
