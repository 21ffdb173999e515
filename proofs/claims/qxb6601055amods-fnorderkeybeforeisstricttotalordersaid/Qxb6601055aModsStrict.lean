import Derived.Test.Qxb6601055aModsOrder
namespace Go.Proofs.Qxb6601055aMods
open Go.RowKit

theorem hide {p : Prop} (h : p) : Hid p := h

theorem trich (a0 a1 a2 a3 a4 b0 b1 b2 b3 b4 : Int) :
    (bef a0 a1 a2 a3 a4 b0 b1 b2 b3 b4 = true ∧ bef b0 b1 b2 b3 b4 a0 a1 a2 a3 a4 = false ∧ ¬ (a0 = b0 ∧ a1 = b1 ∧ a2 = b2 ∧ a3 = b3 ∧ a4 = b4))
    ∨ (bef a0 a1 a2 a3 a4 b0 b1 b2 b3 b4 = false ∧ bef b0 b1 b2 b3 b4 a0 a1 a2 a3 a4 = true ∧ ¬ (a0 = b0 ∧ a1 = b1 ∧ a2 = b2 ∧ a3 = b3 ∧ a4 = b4))
    ∨ (bef a0 a1 a2 a3 a4 b0 b1 b2 b3 b4 = false ∧ bef b0 b1 b2 b3 b4 a0 a1 a2 a3 a4 = false ∧ a0 = b0 ∧ a1 = b1 ∧ a2 = b2 ∧ a3 = b3 ∧ a4 = b4) := by
  by_cases h0 : a0 = b0
  · subst h0
    by_cases h1 : a1 = b1
    · subst h1
      by_cases h2 : a2 = b2
      · subst h2
        by_cases h3 : a3 = b3
        · subst h3
          simp [bef]; omega
        · have h3' : ¬ b3 = a3 := fun h => h3 h.symm
          simp [bef, h3, h3']; omega
      · have h2' : ¬ b2 = a2 := fun h => h2 h.symm
        simp [bef, h2, h2']; omega
    · have h1' : ¬ b1 = a1 := fun h => h1 h.symm
      simp [bef, h1, h1']; omega
  · have h0' : ¬ b0 = a0 := fun h => h0 h.symm
    simp [bef, h0, h0']; omega

set_option maxHeartbeats 400000 in
theorem strict_walk (a0 a1 a2 a3 a4 b0 b1 b2 b3 b4 : Int) (w : World) :
    Calls Trym.prog 4 #[.int .u64 a0, .int .u64 a1, .int .u64 a2, .int .u64 a3, .int .u64 a4, .int .u64 b0, .int .u64 b1, .int .u64 b2, .int .u64 b3, .int .u64 b4] w
      fun e w' => e = .returned (.bool true) ∧ Grown w w' := by
  have ht := trich a0 a1 a2 a3 a4 b0 b1 b2 b3 b4
  have H1 := zzbefore_any a0 a1 a2 a3 a4 b0 b1 b2 b3 b4
  have H2 := zzbefore_any b0 b1 b2 b3 b4 a0 a1 a2 a3 a4
  generalize bef a0 a1 a2 a3 a4 b0 b1 b2 b3 b4 = x at *
  generalize bef b0 b1 b2 b3 b4 a0 a1 a2 a3 a4 = y at *
  have K1 := hide H1
  have K2 := hide H2
  clear H1 H2
  rcases ht with ⟨rfl, rfl, hn⟩ | ⟨rfl, rfl, hn⟩ | ⟨rfl, rfl, rfl, rfl, rfl, rfl, rfl⟩
  · have HN : Hid (¬ (a0 = b0 ∧ a1 = b1 ∧ a2 = b2 ∧ a3 = b3 ∧ a4 = b4)) := hn
    clear hn
    go_enter Trym.func4, Trym.ntmps4
    go_wp2_with fail
    refine (K1.out _).mono ?_
    rintro e w1 ⟨rfl, hg1⟩
    go_wp2_with fail
    refine (K2.out _).mono ?_
    rintro e w2 ⟨rfl, hg2⟩
    go_wp2
    · exact absurd ⟨‹_›, ‹_›, ‹_›, ‹_›, beq_iff_eq.1 ‹_›⟩ HN.out
    all_goals (go_ret; exact ⟨rfl, grown_trans hg1 hg2⟩)
  · have HN : Hid (¬ (a0 = b0 ∧ a1 = b1 ∧ a2 = b2 ∧ a3 = b3 ∧ a4 = b4)) := hn
    clear hn
    go_enter Trym.func4, Trym.ntmps4
    go_wp2_with fail
    refine (K1.out _).mono ?_
    rintro e w1 ⟨rfl, hg1⟩
    go_wp2_with fail
    refine (K2.out _).mono ?_
    rintro e w2 ⟨rfl, hg2⟩
    go_wp2
    · exact absurd ⟨‹_›, ‹_›, ‹_›, ‹_›, beq_iff_eq.1 ‹_›⟩ HN.out
    all_goals (go_ret; exact ⟨rfl, grown_trans hg1 hg2⟩)
  · go_enter Trym.func4, Trym.ntmps4
    go_wp2_with fail
    refine (K1.out _).mono ?_
    rintro e w1 ⟨rfl, hg1⟩
    go_wp2_with fail
    refine (K2.out _).mono ?_
    rintro e w2 ⟨rfl, hg2⟩
    go_wp2
    go_ret
    exact ⟨rfl, grown_trans hg1 hg2⟩
end Go.Proofs.Qxb6601055aMods
