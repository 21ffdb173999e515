import Derived.Test.Qxb6601427aModsSizes
import Derived.Laws.BytesArg
namespace Go.Proofs.Qxb6601427aMods
open Go.RowKit

theorem conv_zero (w : World) (p : Option Addr) (c : Nat) : (convert 33 9 (.slice p 0 c)).run Trym.prog w = .ok (.string (strOfNums [])) w := by
  rw [run_convert_bytes_string w 33 9 5 _ 0 c Trym.underlying33 Trym.underlying5 Trym.underlying9]
  cases p with
  | none => simp [Conv.bytesToString]; rfl
  | some a =>
    rw [run_bytesToString w a 0 c [] (by simp [loadCells, loadCellsFrom])]
    rfl

theorem conv_sv {B : Nat} {w : World} {q : Option Addr} {n c : Nat} {xs : List Int} (h : SV B w q n (xs.map (Value.int .u8))) : (convert 33 9 (.slice q n c)).run Trym.prog w = .ok (.string (strOfNums xs)) w := by
  have hl : xs.length = n := by have := h.1; simpa using this
  by_cases hn : n = 0
  · subst hn
    have hx : xs = [] := List.length_eq_zero_iff.1 hl
    subst hx
    exact conv_zero w q c
  · obtain ⟨g, o, x, _, hq, _, _⟩ := h.at 0 (by omega)
    subst hq
    refine run_convert_bytes_arg (P := Trym.prog) w 33 5 Trym.underlying33 Trym.underlying5 g o n c xs hl (fun i hi => ?_) 9 Trym.underlying9
    obtain ⟨g', o', y, hy, hq', _, hc⟩ := h.at i hi
    injection hq' with hq'
    injection hq' with e1 e2
    subst e1 e2
    rw [hc]
    simp [hy]

/-- the two texts are one -/
def eqS (xs ys : List Int) : Bool := (strOfNums xs).toList == (strOfNums ys).toList
theorem eqS_refl (xs : List Int) : eqS xs xs = true := by simp [eqS]
theorem eqS_symm (xs ys : List Int) : eqS xs ys = eqS ys xs := by simp only [eqS]; rw [Bool.eq_iff_iff]; simp only [beq_iff_eq]; exact eq_comm

set_option maxHeartbeats 400000 in
theorem equal_any {B : Nat} (w : World) (q1 q2 : Option Addr) (n1 n2 c1 c2 : Nat) (xs ys : List Int) (s1 : SV B w q1 n1 (xs.map (Value.int .u8))) (s2 : SV B w q2 n2 (ys.map (Value.int .u8))) :
    Calls Trym.prog 32 #[.slice q1 n1 c1, .slice q2 n2 c2] w fun e w' => e = .returned (.bool (eqS xs ys)) ∧ w' = w := by
  have k1 := conv_sv (c := c1) s1
  have k2 := conv_sv (c := c2) s2
  clear s1 s2
  go_enter Trym.func32, Trym.ntmps32
  go_wp2
  go_ret
  exact ⟨rfl, rfl⟩
end Go.Proofs.Qxb6601427aMods
