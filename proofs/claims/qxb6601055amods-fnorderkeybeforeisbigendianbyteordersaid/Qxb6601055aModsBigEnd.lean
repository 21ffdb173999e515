import Derived.Test.Qxb6601055aModsLex
import Derived.Deep.WholeRow
namespace Go.Proofs.Qxb6601055aMods
open Go.RowKit

theorem grown_row {W w' : World} (h : Grown W w') {i : Nat} {c : Array Value} {t : TypeId} {fr : Nat × Nat} (hc : W.heap[i]? = some (.cells c t fr)) : w'.heap[i]? = some (.cells c t fr) := by
  have hi : i < W.heap.size := (Array.getElem?_eq_some_iff.1 hc).1
  have h3 := h.1.2.2 i hi
  rw [hc] at h3
  cases hq : w'.heap[i]? with
  | none => rw [hq] at h3; cases h3
  | some o =>
    rw [hq] at h3
    cases o with
    | cells c' t' fr' =>
      obtain ⟨rfl, rfl, hs, hj⟩ := h3
      have : c' = c := Array.ext_getElem? fun j => hj j (fun f => f)
      rw [this]
    | _ => cases h3

set_option maxHeartbeats 400000 in
theorem bigend_walk (a0 a1 a2 a3 a4 b0 b1 b2 b3 b4 : Int) (w : World) (g0 : 0 ≤ a0 ∧ a0 ≤ 18446744073709551615) (g1 : 0 ≤ a1 ∧ a1 ≤ 18446744073709551615) (g2 : 0 ≤ a2 ∧ a2 ≤ 18446744073709551615) (g3 : 0 ≤ a3 ∧ a3 ≤ 18446744073709551615) (g4 : 0 ≤ a4 ∧ a4 ≤ 18446744073709551615)
    (f0 : 0 ≤ b0 ∧ b0 ≤ 18446744073709551615) (f1 : 0 ≤ b1 ∧ b1 ≤ 18446744073709551615) (f2 : 0 ≤ b2 ∧ b2 ≤ 18446744073709551615) (f3 : 0 ≤ b3 ∧ b3 ≤ 18446744073709551615) (f4 : 0 ≤ b4 ∧ b4 ≤ 18446744073709551615) :
    Calls Trym.prog 3 #[.int .u64 a0, .int .u64 a1, .int .u64 a2, .int .u64 a3, .int .u64 a4, .int .u64 b0, .int .u64 b1, .int .u64 b2, .int .u64 b3, .int .u64 b4] w
      fun e w' => e = .returned (.bool true) ∧ Grown w w' := by
  have H1 := tuck (zzbefore_any a0 a1 a2 a3 a4 b0 b1 b2 b3 b4)
  have H2 := tuck (fun w => enc_any a0 a1 a2 a3 a4 w g0 g1 g2 g3 g4)
  have H3 := tuck (fun w => enc_any b0 b1 b2 b3 b4 w f0 f1 f2 f3 f4)
  have H4 := tuck (fun w => less_any (encL a0 a1 a2 a3 a4) (encL b0 b1 b2 b3 b4) w rfl rfl)
  rw [lexB_bef a0 a1 a2 a3 a4 b0 b1 b2 b3 b4 g0 g1 g2 g3 g4 f0 f1 f2 f3 f4, ← encArr_eq, ← encArr_eq] at H4
  have sA := encArr_size a0 a1 a2 a3 a4
  have oA := encArr_one a0 a1 a2 a3 a4
  have sB := encArr_size b0 b1 b2 b3 b4
  have oB := encArr_one b0 b1 b2 b3 b4
  generalize encArr a0 a1 a2 a3 a4 = A at *
  generalize encArr b0 b1 b2 b3 b4 = B at *
  generalize bef a0 a1 a2 a3 a4 b0 b1 b2 b3 b4 = x at *
  clear g0 g1 g2 g3 g4 f0 f1 f2 f3 f4
  have IA := tuck (show Option.map (fun x => x.size) (Trym.prog.info? 24) = some A.size by rw [sA]; kernel_rfl)
  have IB := tuck (show Option.map (fun x => x.size) (Trym.prog.info? 24) = some B.size by rw [sB]; kernel_rfl)
  go_enter Trym.func3, Trym.ntmps3
  go_wp2_with fail
  refine (H1.out _).mono ?_
  rintro e w1 ⟨rfl, hg1⟩
  go_wp2_with fail
  refine (H2.out _).mono ?_
  rintro e w2 ⟨rfl, hg2⟩
  go_wp2_with (refine wpList_store_row rfl 24 _ _ rfl w2.heap.size A rfl rfl 24 zs40 (heap_alloc_new _ _) IA.out (by rw [sA]; rfl) oA ?_; rw [World.setRow_alloc_new])
  refine (H3.out _).mono ?_
  rintro e w3 ⟨rfl, hg3⟩
  have hA : w3.heap[w2.heap.size]? = some (.cells A 24) := grown_row hg3 (heap_alloc_new _ _)
  have hA' : (w3.alloc (.cells B 24)).heap[w2.heap.size]? = some (.cells A 24) := by
    exact (Below.heap_alloc _ _ _ (by have := hg3.2.2; simp at this; omega)).trans hA
  have HA := tuck hA'
  clear hA hA'
  go_wp2_with (first | (refine wpList_store_row rfl 24 _ _ rfl w3.heap.size B rfl rfl 24 zs40 (heap_alloc_new _ _) IB.out (by rw [sB]; rfl) oB ?_; rw [World.setRow_alloc_new]) | (refine wpList_load_row rfl 24 _ rfl w2.heap.size rfl 24 A (0, 0) _ HA.out Trym.underlying24 rfl IA.out ?_) | (refine wpList_load_row rfl 24 _ rfl w3.heap.size rfl 24 B (0, 0) _ (heap_alloc_new _ _) Trym.underlying24 rfl IB.out ?_))
  refine (H4.out _).mono ?_
  rintro e w4 ⟨rfl, hg4⟩
  go_wp2
  go_ret
  refine ⟨ret_bool (by simp), ?_⟩
  exact grown_trans (grown_trans hg1 (grown_trans hg2 ((Grown.refl _).alloc _ _))) (grown_trans (grown_trans hg3 ((Grown.refl _).alloc _ _)) hg4)
end Go.Proofs.Qxb6601055aMods
