import Derived.Test.Qxb6601427aModsDatas
namespace Go.Proofs.Qxb6601427aMods
open Go.RowKit

/-- it returns a bool -/
def AnyBool (e : Ending) : Prop := ∃ b, e = .returned (.bool b)

set_option maxHeartbeats 1000000 in
theorem zzBytes24 (ia ib : Value) (q1 q2 q3 q5 q6 q7 : Option Addr) (n1 n2 n3 n5 n6 n7 c1 c2 c3 c5 c6 c7 : Nat) (ss ts : List ByteArray) (ds es : List (List Int)) (w : World) (ha : ∃ A, ia = .agg A) (hb : ∃ B, ib = .agg B)
    (s1 : SV w.heap.size w q1 n1 (ss.map Value.string)) (s2 : DV w.heap.size w q2 n2 ds) (s5 : SV w.heap.size w q5 n5 (ts.map Value.string)) (s6 : DV w.heap.size w q6 n6 es) :
    Calls Trym.prog 24 #[ia, .slice q1 n1 c1, .slice q2 n2 c2, .slice q3 n3 c3, ib, .slice q5 n5 c5, .slice q6 n6 c6, .slice q7 n7 c7] w fun e w' => AnyBool e ∧ Below w.heap.size w w' := by
  obtain ⟨A, rfl⟩ := ha
  obtain ⟨B, rfl⟩ := hb
  have hbel := ((Below.refl w.heap.size w).alloc (Nat.le_refl _) (.cells A 30)).alloc (by simp) (.cells B 30)
  have S1 := keep (s1.below hbel (Nat.le_refl _))
  have S2 := keep (s2.below hbel (Nat.le_refl _))
  have S5 := keep (s5.below hbel (Nat.le_refl _))
  have S6 := keep (s6.below hbel (Nat.le_refl _))
  have KB := keep hbel
  clear s1 s2 s5 s6 hbel
  go_enter Trym.func24, Trym.ntmps24
  go_wp2
  all_goals first | (go_ret; exact ⟨⟨_, rfl⟩, KB.out⟩) | skip
  go_loop [17, 18] (fun t i => ∃ (k : Nat) (z : Int), k ≤ n1 ∧ i = .int .i64 k ∧ t = .int .i64 z) (fun _ i => n1 - (intOf i).toNat)
  case atStart => exact ⟨0, _, Nat.zero_le _, rfl, rfl⟩
  case round =>
    obtain ⟨k, z, hk, rfl, rfl⟩ := hrel
    by_cases hlt : k < n1
    · obtain ⟨g, o, x, hx, rfl, hg, cx⟩ := S1.out.at k hlt
      have hlti : (k : Int) < (n1 : Int) := by omega
      go_wp2
      all_goals first | (go_ret; exact ⟨⟨_, rfl⟩, KB.out⟩) | skip
      go_round
      case rel => exact ⟨k + 1, _, by omega, by go_num, rfl⟩
      case measure => simp [intOf]; omega
    · obtain rfl : k = n1 := by omega
      go_wp2
      all_goals first | (go_ret; exact ⟨⟨_, rfl⟩, KB.out⟩) | skip
      go_loop [17, 19] (fun t i => ∃ (k : Nat) (z : Int), k ≤ n2 ∧ i = .int .i64 k ∧ t = .int .i64 z) (fun _ i => n2 - (intOf i).toNat)
      case atStart => exact ⟨0, _, Nat.zero_le _, rfl, rfl⟩
      case round =>
        obtain ⟨k, z, hk, rfl, rfl⟩ := hrel
        by_cases hlt : k < n2
        · obtain ⟨d, g, o, p, cc, hdk, rfl, hg, cx, hs, hp⟩ := S2.out.at k hlt
          clear hdk hs hp
          have hlti : (k : Int) < (n2 : Int) := by omega
          go_wp2
          all_goals first | (go_ret; exact ⟨⟨_, rfl⟩, KB.out⟩) | skip
          go_round
          case rel => exact ⟨k + 1, _, by omega, by go_num, rfl⟩
          case measure => simp [intOf]; omega
        · obtain rfl : k = n2 := by omega
          go_wp2
          all_goals first | (go_ret; exact ⟨⟨_, rfl⟩, KB.out⟩) | skip
          go_loop [17, 20] (fun t i => ∃ (k : Nat) (z : Int), k ≤ n5 ∧ i = .int .i64 k ∧ t = .int .i64 z) (fun _ i => n5 - (intOf i).toNat)
          case atStart => exact ⟨0, _, Nat.zero_le _, rfl, rfl⟩
          case round =>
            obtain ⟨k, z, hk, rfl, rfl⟩ := hrel
            by_cases hlt : k < n5
            · obtain ⟨g, o, x, hx, rfl, hg, cx⟩ := S5.out.at k hlt
              have hlti : (k : Int) < (n5 : Int) := by omega
              go_wp2
              all_goals first | (go_ret; exact ⟨⟨_, rfl⟩, KB.out⟩) | skip
              go_round
              case rel => exact ⟨k + 1, _, by omega, by go_num, rfl⟩
              case measure => simp [intOf]; omega
            · obtain rfl : k = n5 := by omega
              go_wp2
              all_goals first | (go_ret; exact ⟨⟨_, rfl⟩, KB.out⟩) | skip
              go_loop [17, 21] (fun t i => ∃ (k : Nat) (z : Int), k ≤ n6 ∧ i = .int .i64 k ∧ t = .int .i64 z) (fun _ i => n6 - (intOf i).toNat)
              case atStart => exact ⟨0, _, Nat.zero_le _, rfl, rfl⟩
              case round =>
                obtain ⟨k, z, hk, rfl, rfl⟩ := hrel
                by_cases hlt : k < n6
                · obtain ⟨d, g, o, p, cc, hdk, rfl, hg, cx, hs, hp⟩ := S6.out.at k hlt
                  clear hdk hs hp
                  have hlti : (k : Int) < (n6 : Int) := by omega
                  go_wp2
                  all_goals first | (go_ret; exact ⟨⟨_, rfl⟩, KB.out⟩) | skip
                  go_round
                  case rel => exact ⟨k + 1, _, by omega, by go_num, rfl⟩
                  case measure => simp [intOf]; omega
                · obtain rfl : k = n6 := by omega
                  go_wp2
                  all_goals (go_ret; exact ⟨⟨_, rfl⟩, KB.out⟩)

/-- what dischargeSize answers -/
def SizeSaid (ds : List (List Int)) (n1 n2 n3 : Nat) (e : Ending) : Prop :=
  ∃ r : Int, e = .returned (.int .i64 r) ∧ 0 ≤ r ∧ r ≤ 1048577 ∧ (r ≤ 1048576 → n1 ≤ 1048576 ∧ n2 ≤ 1048576 ∧ n3 ≤ 1048576 ∧ ∀ d ∈ ds, d.length ≤ 1048576)

theorem said_over (ds : List (List Int)) (n1 n2 n3 : Nat) : SizeSaid ds n1 n2 n3 (.returned (.int .i64 1048577)) := ⟨_, rfl, by omega, by omega, fun h => by omega⟩

/-- the first k are short -/
def ShortTo (ds : List (List Int)) (k : Nat) : Prop := ∀ j d, j < k → ds[j]? = some d → d.length ≤ 1048576

theorem short_succ {ds : List (List Int)} {k : Nat} {d : List Int} (h : ShortTo ds k) (hd : ds[k]? = some d) (hl : d.length ≤ 1048576) : ShortTo ds (k + 1) := by
  intro j e hj he
  by_cases hjk : j = k
  · subst hjk; rw [hd] at he; injection he with he; subst he; exact hl
  · exact h j e (by omega) he

theorem short_all {ds : List (List Int)} {n : Nat} (hn : ds.length = n) (h : ShortTo ds n) : ∀ d ∈ ds, d.length ≤ 1048576 := by
  intro d hd
  obtain ⟨j, hj, rfl⟩ := List.getElem_of_mem hd
  exact h j _ (by omega) (List.getElem?_eq_getElem hj)

set_option maxHeartbeats 1000000 in
theorem size16 (q1 q2 q3 : Option Addr) (n1 n2 n3 c1 c2 c3 : Nat) (ss : List ByteArray) (ds : List (List Int)) (w : World)
    (s1 : SV w.heap.size w q1 n1 (ss.map Value.string)) (s2 : DV w.heap.size w q2 n2 ds) :
    Calls Trym.prog 16 #[.slice q1 n1 c1, .slice q2 n2 c2, .slice q3 n3 c3] w fun e w' => SizeSaid ds n1 n2 n3 e ∧ w' = w := by
  have S1 := keep s1
  have S2 := keep s2
  have KO := keep (said_over ds n1 n2 n3)
  clear s1 s2
  by_cases h1 : 1048576 < n1
  · go_enter Trym.func16, Trym.ntmps16
    go_wp2
    go_ret
    exact ⟨KO.out, rfl⟩
  by_cases h2 : 1048576 < n2
  · go_enter Trym.func16, Trym.ntmps16
    go_wp2
    go_ret
    exact ⟨KO.out, rfl⟩
  by_cases h3 : 1048576 < n3
  · go_enter Trym.func16, Trym.ntmps16
    go_wp2
    go_ret
    exact ⟨KO.out, rfl⟩
  by_cases h4 : 1048576 < 16 + n3 + 16 * n1 + 24 * n2
  · go_enter Trym.func16, Trym.ntmps16
    go_wp2
    go_ret
    exact ⟨KO.out, rfl⟩
  go_enter Trym.func16, Trym.ntmps16
  go_wp2
  go_loop [7, 8] (fun t i => ∃ (k : Nat) (z : Int), k ≤ n1 ∧ 0 ≤ z ∧ z ≤ 1048576 ∧ i = .int .i64 k ∧ t = .int .i64 z) (fun _ i => n1 - (intOf i).toNat)
  case atStart => exact ⟨0, _, Nat.zero_le _, by omega, by omega, rfl, rfl⟩
  case round =>
    obtain ⟨k, z, hk, hz0, hz1, rfl, rfl⟩ := hrel
    by_cases hlt : k < n1
    · obtain ⟨g, o, x, hx, rfl, hg, cx⟩ := S1.out.at k hlt
      have hlti : (k : Int) < (n1 : Int) := by omega
      by_cases hx1 : (1048576 : Int) - z < x.size
      · go_wp2
        go_ret
        exact ⟨KO.out, rfl⟩
      · go_wp2
        go_round
        case rel => exact ⟨k + 1, _, by omega, by omega, by omega, by go_num, rfl⟩
        case measure => simp [intOf]; omega
    · obtain rfl : k = n1 := by omega
      go_wp2
      go_loop [7, 9] (fun t i => ∃ (l : Nat) (y : Int), l ≤ n2 ∧ 0 ≤ y ∧ y ≤ 1048576 ∧ i = .int .i64 l ∧ t = .int .i64 y ∧ ShortTo ds l) (fun _ i => n2 - (intOf i).toNat)
      case atStart => exact ⟨0, _, Nat.zero_le _, hz0, hz1, rfl, rfl, fun j d hj => by omega⟩
      case round =>
        obtain ⟨l, y, hl, hy0, hy1, rfl, rfl, hsh⟩ := hrel
        have KH := keep hsh
        clear hsh
        by_cases hlt2 : l < n2
        · obtain ⟨d, g, o, p, cc, hdk, rfl, hg, cx, hs, hp⟩ := S2.out.at l hlt2
          have KD := keep hdk
          clear hdk hs hp
          have hlti : (l : Int) < (n2 : Int) := by omega
          by_cases hx1 : (1048576 : Int) - y < d.length
          · go_wp2
            go_ret
            exact ⟨KO.out, rfl⟩
          · go_wp2
            go_round
            case rel => exact ⟨l + 1, _, by omega, by omega, by omega, by go_num, rfl, short_succ KH.out KD.out (by omega)⟩
            case measure => simp [intOf]; omega
        · obtain rfl : l = n2 := by omega
          have KS := keep (short_all S2.out.1 KH.out)
          go_wp2
          go_ret
          exact ⟨⟨_, rfl, by omega, by omega, fun _ => ⟨by omega, by omega, by omega, KS.out⟩⟩, rfl⟩
end Go.Proofs.Qxb6601427aMods
