import Derived.Test.Qxb6601055aModsOnBits
import Derived.Deep.QuietTactic
import Derived.BigQuiet
namespace Go.Proofs.Qxb6601055aMods
open Go.RowKit

set_option maxHeartbeats 400000 in
theorem zzBytes11 (q0 q1 q2 : Option Addr) (n0 n1 n2 c0 c1 c2 : Nat) (w : World) :
    Calls Trym.prog 11 #[.slice q0 n0 c0, .slice q1 n1 c1, .slice q2 n2 c2] w fun e w' => ∃ b, e = .returned (.bool b) ∧ w' = w := by
  go_enter Trym.func11, Trym.ntmps11
  go_wp2
  all_goals go_ret
  all_goals exact ⟨_, rfl, rfl⟩

set_option maxHeartbeats 400000 in
theorem on_early (q0 q1 q2 : Option Addr) (n0 n1 n2 c0 c1 c2 : Nat) (w : World) (h : 262144 < n0 ∨ 262144 < n1 ∨ 262144 < n2 ∨ n1 ≠ n2) :
    Calls Trym.prog 5 #[.slice q0 n0 c0, .slice q1 n1 c1, .slice q2 n2 c2] w fun e w' => e = .returned (.bool true) ∧ w' = w := by
  go_enter Trym.func5, Trym.ntmps5
  go_wp2_with fail
  refine (zzBytes11 q0 q1 q2 n0 n1 n2 c0 c1 c2 w).mono ?_
  rintro e w1 ⟨b, rfl, rfl⟩
  go_wp2_with fail
  all_goals (go_ret; exact ⟨rfl, rfl⟩)

theorem no_off {xs : List Int} {os : List Bool} {j l : Nat} (h : ∀ a x, a < l → xs[a]? = some x → os[a]? = some true → bitB x j = false) (hb : os[l]? = some false) :
    ∀ a x, a < l + 1 → xs[a]? = some x → os[a]? = some true → bitB x j = false := by
  intro a x ha h1 h2
  by_cases e : a = l
  · subst e; rw [hb] at h2; cases h2
  · exact h a x (by omega) h1 h2

theorem no_bit {xs : List Int} {os : List Bool} {j l : Nat} {y : Int} (h : ∀ a x, a < l → xs[a]? = some x → os[a]? = some true → bitB x j = false) (hy : xs[l]? = some y) (hb : bitB y j = false) :
    ∀ a x, a < l + 1 → xs[a]? = some x → os[a]? = some true → bitB x j = false := by
  intro a x ha h1 h2
  by_cases e : a = l
  · subst e; rw [hy] at h1; injection h1 with h1; subst h1; exact hb
  · exact h a x (by omega) h1 h2

set_option maxHeartbeats 1000000 in
theorem on_main (q0 q1 q2 : Option Addr) (n m c0 c1 c2 : Nat) (ys xs : List Int) (os : List Bool) (w : World) (hn : n ≤ 262144) (hm : m ≤ 262144)
    (hx : ∀ x ∈ xs, 0 ≤ x ∧ x ≤ 255)
    (s0 : SV w.heap.size w q0 n (ys.map (Value.int .u8))) (s1 : SV w.heap.size w q1 m (xs.map (Value.int .u8))) (s2 : SV w.heap.size w q2 m (os.map Value.bool))
    (e0 : q0 = none → n = 0 ∧ c0 = 0) (e1 : q1 = none → m = 0 ∧ c1 = 0) (e2 : q2 = none → m = 0 ∧ c2 = 0) :
    Calls Trym.prog 5 #[.slice q0 n c0, .slice q1 m c1, .slice q2 m c2] w fun e w' => e = .returned (.bool true) ∧ Below w.heap.size w w' := by
  have S0 := keep s0
  have S1 := keep s1
  have S2 := keep s2
  have E0 := keep e0
  have E1 := keep e1
  have E2 := keep e2
  have HX := keep hx
  clear s0 s1 s2 e0 e1 e2 hx
  go_enter Trym.func5, Trym.ntmps5
  go_wp2_with fail
  refine (zzBytes11 q0 q1 q2 n m m c0 c1 c2 w).mono ?_
  rintro e w1 ⟨b, rfl, hw⟩
  subst hw
  cases b
  · go_wp2
    go_ret
    exact ⟨rfl, Below.refl _ _⟩
  go_wp2_with fail
  refine (clone12_any q0 n c0 ys w1 S0.out E0.out (by omega)).mono ?_
  rintro e w2 ⟨p0, d0, rfl, B1, O1, _⟩
  have S0' := keep (SV.of_owns O1)
  have B1' := keep B1
  have T1 := keep (S1.out.below B1 (Nat.le_refl _))
  have T2 := keep (S2.out.below B1 (Nat.le_refl _))
  have z1 := B1.size
  clear B1 O1 S0 S1 S2 E0
  go_wp2_with fail
  refine (clone12_any q1 m c1 xs w2 (T1.out.mono z1) E1.out (by omega)).mono ?_
  rintro e w3 ⟨p1, d1, rfl, B2, O2, _⟩
  have S1' := keep (SV.of_owns O2)
  have R0 := keep (S0'.out.2.1.below B2 (Nat.le_refl _))
  have B2' := keep (B1'.out.trans (B2.mono z1))
  have U2 := keep (T2.out.below B2 z1)
  have z2 := B2.size
  clear B2 O2 T1 T2 E1 B1'
  go_wp2_with fail
  refine (clone13_any q2 m c2 os w3 (U2.out.mono (by omega)) E2.out (by omega)).mono ?_
  rintro e w4 ⟨p2, d2, rfl, B3, O3, _⟩
  have S2' := keep (SV.of_owns O3)
  have R0' := keep (R0.out.below B3 z2)
  have R1 := keep (S1'.out.2.1.below B3 (Nat.le_refl _))
  have B3' := keep (B2'.out.trans (B3.mono (by omega)))
  have z3 := B3.size
  clear B3 O3 U2 E2 B2' R0
  go_wp2_with fail
  refine (clone12_any p0 n d0 ys w4 (R0'.out.mono (by omega)) S0'.out.2.2 (by omega)).mono ?_
  rintro e w5 ⟨p3, d3, rfl, B4, O4, _⟩
  have R0'' := keep (R0'.out.below B4 (by omega))
  have R1' := keep (R1.out.below B4 (by omega))
  have R2 := keep (S2'.out.2.1.below B4 (Nat.le_refl _))
  have B4' := keep (B3'.out.trans (B4.mono (by omega)))
  have z4 := B4.size
  have O4' := keep O4
  clear B4 O4 R0' R1 S2' B3' S0' S1'
  go_wp2_with fail
  refine (zzAppend_any w4.heap.size _ n ys p1 p2 m d1 d2 xs os w5 (by omega) (by omega) (R1'.out.mono (by omega)) (R2.out.mono (by omega)) O4'.out z4).mono ?_
  rintro e w6 ⟨p4, d4, rfl, B5, O5⟩
  have G0 := keep (R0''.out.below B5 (by omega))
  have G1 := keep (R1'.out.below B5 (by omega))
  have G2 := keep (R2.out.below B5 (by omega))
  have G3 := keep (SV.of_owns O5).2.1
  have BB := keep (B4'.out.trans (B5.mono (by omega)))
  have z5 := B5.size
  clear B5 O5 R0'' R1' R2 B4' O4'
  go_wp2_with fail
  have gd : decide ((262144 : Int) < (n : Int)) = false := by simp; omega
  have gm : decide ((262144 : Int) < (m : Int)) = false := by simp; omega
  simp only [gd, gm]
  clear gd gm
  go_loopw [9] (fun i wr => ∃ k nq : Nat, k ≤ n ∧ i = .int .i64 k ∧ wr = w6.drewN nq) (fun i _ => n - (intOf i).toNat)
  case atStart => exact ⟨0, 0, Nat.zero_le _, rfl, rfl⟩
  case round =>
    obtain ⟨k, nq, hk, rfl, rfl⟩ := hrel
    by_cases hlt : k < n
    · obtain ⟨g0, o0, y, hy, rfl, hg0, cy⟩ := G0.out.at k hlt
      obtain ⟨g3, o3, y', hy', rfl, hg3, cy'⟩ := G3.out.at k (by omega)
      obtain rfl : y' = y := by
        rw [List.getElem?_append_left (by have := G0.out.1; simp at this; omega), hy] at hy'
        injection hy' with h; exact h.symm
      have hlti : (k : Int) < (n : Int) := by omega
      have hlti' : (k : Int) < (n : Int) + 1 := by omega
      clear hy hy'
      go_wp2
      go_quiet (fail)
      go_wp2
      go_roundw
      case rel => exact ⟨k + 1, _, by omega, by go_num, rfl⟩
      case measure => simp [intOf]; omega
    · obtain rfl : k = n := by omega
      obtain ⟨g3, o3, y', hy', rfl, hg3, cy'⟩ := G3.out.at k (by omega)
      obtain rfl : y' = orTo xs os m := by
        have hl : ys.length = k := by have := G0.out.1; simpa using this
        rw [List.getElem?_append_right (by omega), hl, Nat.sub_self] at hy'
        simpa using hy'.symm
      have LB := keep (orTo_bit xs os HX.out m)
      have lb := orTo_bd xs os HX.out m
      generalize orTo xs os m = last at *
      clear hy'
      go_wp2_with fail
      go_loop [11] (fun t => ∃ j : Nat, j ≤ 8 ∧ t = .int .i64 j) (fun t => 8 - (intOf t).toNat)
      case atStart => exact ⟨0, by omega, rfl⟩
      case round =>
        obtain ⟨j, hj, rfl⟩ := hrel
        by_cases hj8 : j < 8
        · go_wp2_with fail
          go_loop [12, 13] (fun t i => ∃ l : Nat, l ≤ m ∧ i = .int .i64 l ∧ t = .bool false ∧ ∀ a x, a < l → xs[a]? = some x → os[a]? = some true → bitB x j = false) (fun _ i => m - (intOf i).toNat)
          case atStart => exact ⟨0, by omega, rfl, rfl, fun a x h => by omega⟩
          case round =>
            obtain ⟨l, hl, rfl, rfl, hno⟩ := hrel
            have HN := keep hno
            clear hno
            by_cases hlm : l < m
            · obtain ⟨g1, o1, x, hx, rfl, hg1, cx⟩ := G1.out.at l hlm
              obtain ⟨g2, o2, b, hb, rfl, hg2, cb⟩ := G2.out.at l hlm
              have HXl := keep hx
              have HBl := keep hb
              have hlmi : (l : Int) < (m : Int) := by omega
              clear hx hb
              cases b with
              | false =>
                go_wp2
                go_round
                case rel => exact ⟨l + 1, by omega, by go_num, rfl, no_off HN.out HBl.out⟩
                case measure => simp [intOf]; omega
              | true =>
                cases hbit : bitB x j with
                | false =>
                  have KB := keep hbit
                  have hraw : (bits BinOp.and IntKind.u8 (x / 2 ^ j) 1 == 1) = false := hbit
                  clear hbit
                  go_wp2
                  go_round
                  case rel => exact ⟨l + 1, by omega, by go_num, rfl, no_bit HN.out HXl.out KB.out⟩
                  case measure => simp [intOf]; omega
                | true =>
                  have hraw : (bits BinOp.and IntKind.u8 (x / 2 ^ j) 1 == 1) = true := hbit
                  have hlast : (bits BinOp.and IntKind.u8 (last / 2 ^ j) 1 == 1) = true := (LB.out j).2 ⟨l, x, hlm, HXl.out, HBl.out, hbit⟩
                  clear hbit
                  go_wp2
                  go_round
                  case rel => exact ⟨j + 1, by omega, by go_num⟩
                  case measure => simp [intOf]; omega
            · obtain rfl : l = m := by omega
              have hlast : (bits BinOp.and IntKind.u8 (last / 2 ^ j) 1 == 1) = false := by
                cases hc : bitB last j with
                | false => exact hc
                | true =>
                  obtain ⟨a, x, h1, h2, h3, h4⟩ := (LB.out j).1 hc
                  rw [HN.out a x h1 h2 h3] at h4
                  cases h4
              go_wp2
              go_round
              case rel => exact ⟨j + 1, by omega, by go_num⟩
              case measure => simp [intOf]; omega
        · obtain rfl : j = 8 := by omega
          go_wp2
          go_ret
          exact ⟨rfl, below_drewN BB.out nq⟩
end Go.Proofs.Qxb6601055aMods
