import Derived.Test.Qxb6601055aModsRows
import Derived.WalkKit
import Derived.ProofKit
import Derived.OpenShut
import Derived.ShutString
namespace Go.Proofs.Qxb6601055aMods
open Go.RowKit
/-- the order of two keys, field by field -/
def bef (a0 a1 a2 a3 a4 b0 b1 b2 b3 b4 : Int) : Bool :=
  if (a0 != b0) = true then decide (a0 < b0) else if (a1 != b1) = true then decide (a1 < b1) else if (a2 != b2) = true then decide (a2 < b2) else if (a3 != b3) = true then decide (a3 < b3) else decide (a4 < b4)

section
variable {a0 a1 a2 a3 a4 b0 b1 b2 b3 b4 : Int}
theorem bef1 (h0 : (a0 != b0) = true) : decide (a0 < b0) = bef a0 a1 a2 a3 a4 b0 b1 b2 b3 b4 := by simp only [bef, h0, if_true]
theorem bef2 (h0 : (a0 != b0) = false) (h1 : (a1 != b1) = true) : decide (a1 < b1) = bef a0 a1 a2 a3 a4 b0 b1 b2 b3 b4 := by simp [bef, h0, h1]
theorem bef3 (h0 : (a0 != b0) = false) (h1 : (a1 != b1) = false) (h2 : (a2 != b2) = true) : decide (a2 < b2) = bef a0 a1 a2 a3 a4 b0 b1 b2 b3 b4 := by simp [bef, h0, h1, h2]
theorem bef4 (h0 : (a0 != b0) = false) (h1 : (a1 != b1) = false) (h2 : (a2 != b2) = false) (h3 : (a3 != b3) = true) : decide (a3 < b3) = bef a0 a1 a2 a3 a4 b0 b1 b2 b3 b4 := by simp [bef, h0, h1, h2, h3]
theorem bef5 (h0 : (a0 != b0) = false) (h1 : (a1 != b1) = false) (h2 : (a2 != b2) = false) (h3 : (a3 != b3) = false) : decide (a4 < b4) = bef a0 a1 a2 a3 a4 b0 b1 b2 b3 b4 := by simp [bef, h0, h1, h2, h3]
end

theorem ret_bool {a b : Bool} (h : a = b) : Ending.returned (.bool a) = .returned (.bool b) := by rw [h]

set_option maxHeartbeats 400000 in
theorem before_any (a0 a1 a2 a3 a4 b0 b1 b2 b3 b4 : Int) (w : World) :
    Calls Trym.prog 19 #[.agg #[.int .u64 a0, .int .u64 a1, .int .u64 a2, .int .u64 a3, .int .u64 a4], .agg #[.int .u64 b0, .int .u64 b1, .int .u64 b2, .int .u64 b3, .int .u64 b4]] w
      fun e w' => e = .returned (.bool (bef a0 a1 a2 a3 a4 b0 b1 b2 b3 b4)) ∧ Grown w w' := by
  go_enter Trym.func19, Trym.ntmps19
  go_wp2
  all_goals go_ret
  · exact ⟨ret_bool (bef1 ‹_›), by repeat (first | exact Grown.refl _ | apply Grown.drew | apply Grown.alloc)⟩
  · exact ⟨ret_bool (bef2 ‹_› ‹_›), by repeat (first | exact Grown.refl _ | apply Grown.drew | apply Grown.alloc)⟩
  · exact ⟨ret_bool (bef3 ‹_› ‹_› ‹_›), by repeat (first | exact Grown.refl _ | apply Grown.drew | apply Grown.alloc)⟩
  · exact ⟨ret_bool (bef4 ‹_› ‹_› ‹_› ‹_›), by repeat (first | exact Grown.refl _ | apply Grown.drew | apply Grown.alloc)⟩
  · exact ⟨ret_bool (bef5 ‹_› ‹_› ‹_› ‹_›), by repeat (first | exact Grown.refl _ | apply Grown.drew | apply Grown.alloc)⟩

theorem grown_trans {a b c : World} (h1 : Grown a b) (h2 : Grown b c) : Grown a c :=
  ⟨World.keptBut_trans h1.1 h2.1, fun x => (h2.2.1 x).trans (h1.2.1 x), Nat.le_trans h1.2.2 h2.2.2⟩

set_option maxHeartbeats 400000 in
theorem zzbefore_any (a0 a1 a2 a3 a4 b0 b1 b2 b3 b4 : Int) (w : World) :
    Calls Trym.prog 8 #[.int .u64 a0, .int .u64 a1, .int .u64 a2, .int .u64 a3, .int .u64 a4, .int .u64 b0, .int .u64 b1, .int .u64 b2, .int .u64 b3, .int .u64 b4] w
      fun e w' => e = .returned (.bool (bef a0 a1 a2 a3 a4 b0 b1 b2 b3 b4)) ∧ Grown w w' := by
  go_enter Trym.func8, Trym.ntmps8
  go_wp2_with fail
  refine (before_any _ _ _ _ _ _ _ _ _ _ _).mono ?_
  rintro e w' ⟨rfl, hg⟩
  go_wp2
  go_ret
  exact ⟨rfl, grown_trans (by repeat (first | exact Grown.refl _ | apply Grown.drew | apply Grown.alloc)) hg⟩
end Go.Proofs.Qxb6601055aMods
