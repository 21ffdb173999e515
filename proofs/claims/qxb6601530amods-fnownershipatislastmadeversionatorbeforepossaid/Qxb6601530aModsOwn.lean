import Derived.Test.Qxb6601530aModsAt
import Derived.LaidEqlPtr
import Derived.Deep.QuietTactic
import Derived.BigQuiet
namespace Go.Proofs.Qxb6601530aMods
open Go.RowKit

def Since (w0 w : World) : Prop := Below w0.heap.size w0 w
theorem Since.next {w0 w w' : World} (h : Since w0 w) (hb : Below w.heap.size w w') : Since w0 w' := Below.trans h (hb.mono (Below.size h))

theorem lastIx_found {es : List (Int × Int)} {pos : Int} {n j : Nat} {p v : Int} (hn : es.length = n) (hj : es[j]? = some (p, v)) (hp : p ≤ pos) (hno : ∀ (i : Nat) (e : Int × Int), j < i → es[i]? = some e → ¬ e.1 ≤ pos) : ∀ k, j < k → k ≤ n → lastIx es pos k = some j
  | 0, h, _ => by omega
  | k + 1, h, hk => by
    by_cases e : k = j
    · subst e; exact lastIx_yes hj hp
    · have hl : k < es.length := by omega
      rw [lastIx_no (p := es[k].1) (v := es[k].2) (List.getElem?_eq_getElem hl) (hno k es[k] (by omega) (List.getElem?_eq_getElem hl))]
      exact lastIx_found hn hj hp hno k (by omega) (by omega)

theorem lastIx_none {es : List (Int × Int)} {pos : Int} {n : Nat} (hn : es.length = n) (hno : ∀ (i : Nat) (e : Int × Int), es[i]? = some e → ¬ e.1 ≤ pos) : ∀ k, k ≤ n → lastIx es pos k = none
  | 0, _ => rfl
  | k + 1, hk => by
    have hl : k < es.length := by omega
    rw [lastIx_no (p := es[k].1) (v := es[k].2) (List.getElem?_eq_getElem hl) (hno k es[k] (List.getElem?_eq_getElem hl))]
    exact lastIx_none hn hno k (by omega)

theorem atV_found {es : List (Int × Int)} {pos : Int} {init : Option Int} {n j : Nat} {p v : Int} (hn : es.length = n) (hj : es[j]? = some (p, v)) (hp : p ≤ pos) (hno : ∀ (i : Nat) (e : Int × Int), j < i → es[i]? = some e → ¬ e.1 ≤ pos) : atV es pos init n = some v := by
  have hl : j < n := by have := (List.getElem?_eq_some_iff.1 hj).1; omega
  simp [atV, lastIx_found hn hj hp hno n hl (Nat.le_refl _), hj]
theorem atV_none {es : List (Int × Int)} {pos : Int} {init : Option Int} {n : Nat} (hn : es.length = n) (hno : ∀ (i : Nat) (e : Int × Int), es[i]? = some e → ¬ e.1 ≤ pos) : atV es pos init n = init := by
  simp [atV, lastIx_none hn hno n (Nat.le_refl _)]

theorem neq_ptr (w : World) {b b1 : Nat} {v v1 : Int} (hne : b ≠ b1) (h : w.heap[b]? = some (.cells #[.int .u32 v] 41 (0, 0))) (h1 : w.heap[b1]? = some (.cells #[.int .u32 v1] 41 (0, 0))) :
    (binOp .eql 68 (.pointer (some ⟨b, 0, none⟩)) (.pointer (some ⟨b1, 0, none⟩))).run Trym.prog w = .ok (.bool false) w := by
  have hi : (Trym.prog.info? 41).map (·.size) = some 1 := by kernel_rfl
  obtain ⟨i, hi, hs⟩ := Option.map_eq_some_iff.1 hi
  exact run_eql_ptr_other w Trym.underlying68 hi (by omega) (fun e => hne (by injection e)) h h1

/-- the pointer that came in: nil, or a cell that holds a number -/
def Came (w : World) (gp : Option Addr) (init : Option Int) : Prop := (gp = none ∧ init = none) ∨ ∃ b o v, gp = some ⟨b, o, none⟩ ∧ init = some v ∧ b < w.heap.size ∧ w.cell? ⟨b, o, none⟩ = some (.int .u32 v)

theorem ptr26_any (gp : Option Addr) (init : Option Int) (w : World) (h : Came w gp init) : Calls Trym.prog 26 #[.pointer gp] w fun e w' => AtSaid w init e w' := by
  rcases h with ⟨rfl, rfl⟩ | ⟨b, o, v, rfl, rfl, hb, hc⟩
  · refine (ptr26_nil w).mono ?_
    rintro e w' ⟨rfl, rfl⟩
    exact atSaid_of (Below.refl _ _) (.inl ⟨rfl, rfl⟩)
  · refine (ptr26_some b o v w hc).mono ?_
    rintro e w' ⟨rfl, rfl⟩
    exact atSaid_of (below_alloc _ _) (ptr_box v (Nat.le_refl _))

theorem PtrAt.came {L : Nat} {w : World} {p : Option Addr} {x : Option Int} (h : PtrAt L w p x) : Came w p x := by
  rcases h with h | ⟨b, v, h1, h2, h3, h4⟩
  · exact .inl h
  · exact .inr ⟨b, 0, v, h1, h2, (Array.getElem?_eq_some_iff.1 h4).1, by rw [cell_of_row w b 0 _ 41 (0, 0) h4]; rfl⟩

/-- from l on no entry lies at or before pos -/
def NoFrom (es : List (Int × Int)) (pos : Int) (l : Nat) : Prop := ∀ (i : Nat) (e : Int × Int), l ≤ i → es[i]? = some e → ¬ e.1 ≤ pos
theorem noFrom_top {es : List (Int × Int)} {pos : Int} {n : Nat} (h : es.length = n) : NoFrom es pos n := fun i e hi he => by have := (List.getElem?_eq_some_iff.1 he).1; omega
theorem NoFrom.none {es : List (Int × Int)} {pos : Int} (h : NoFrom es pos 0) : ∀ (i : Nat) (e : Int × Int), es[i]? = some e → ¬ e.1 ≤ pos := fun i e he => h i e (Nat.zero_le _) he
theorem NoFrom.after {es : List (Int × Int)} {pos : Int} {j : Nat} (h : NoFrom es pos (j + 1)) : ∀ (i : Nat) (e : Int × Int), j < i → es[i]? = some e → ¬ e.1 ≤ pos := fun i e hi he => h i e hi he
theorem NoFrom.step {es : List (Int × Int)} {pos : Int} {j : Nat} {p v : Int} (h : NoFrom es pos (j + 1)) (hj : es[j]? = some (p, v)) (hp : ¬ p ≤ pos) : NoFrom es pos j := fun i e hi he => by
  by_cases hij : i = j
  · subst hij; rw [hj] at he; injection he with he; subst he; exact hp
  · exact h i e (by omega) he

theorem PtrAt.lt {L : Nat} {w : World} {p : Option Addr} {x : Option Int} (h : PtrAt L w p x) : ∀ a, p = some a → a.block < w.heap.size := by
  rcases h with ⟨h, _⟩ | ⟨b, v, h1, h2, h3, h4⟩
  · intro a ha; rw [h] at ha; cases ha
  · intro a ha; rw [h1] at ha; injection ha with ha; subst ha; exact (Array.getElem?_eq_some_iff.1 h4).1

theorem retb {a b : Bool} (h : a = b) : Ending.returned (.bool a) = .returned (.bool b) := by rw [h]

set_option maxHeartbeats 2000000 in
theorem own5 (r pos : Int) (gp : Option Addr) (init : Option Int) (q : Option Addr) (n c : Nat) (es : List (Int × Int)) (w : World) (hg : Came w gp init) (s : EV w.heap.size w q n es) (hq : q = none → n = 0 ∧ c = 0) :
    Calls Trym.prog 5 #[.int .u64 r, .pointer gp, .slice q n c, .int .u64 pos] w fun e w' => e = .returned (.bool true) ∧ Below w.heap.size w w' := by
  have HG := keep hg
  have S2 := keep s
  have HQ := keep hq
  clear hg s hq
  by_cases hn : 1048576 < n
  · go_enter Trym.func5, Trym.ntmps5
    go_wp2_with fail
    refine (zzBytes24_no r pos _ q n c w hn).mono ?_
    rintro e w1 ⟨rfl, rfl⟩
    go_wp2
    go_ret
    exact ⟨rfl, Below.refl _ _⟩
  have hn' : n ≤ 1048576 := by omega
  clear hn
  by_cases h16 : 65536 < n
  · go_enter Trym.func5, Trym.ntmps5
    go_wp2_with fail
    refine (zzBytes24 r pos _ q n c w hn').mono ?_
    rintro e w1 ⟨rfl, rfl⟩
    go_wp2_with fail
    refine (size25 q n c w1 hn').mono ?_
    rintro e w2 ⟨rfl, rfl⟩
    go_wp2
    go_ret
    exact ⟨rfl, Below.refl _ _⟩
  have HW := keep (show Since w w from Below.refl _ _)
  go_enter Trym.func5, Trym.ntmps5
  go_wp2_with fail
  refine (zzBytes24 r pos _ q n c w hn').mono ?_
  rintro e w0 ⟨rfl, hw⟩
  subst hw
  go_wp2_with fail
  refine (size25 q n c w0 hn').mono ?_
  rintro e w1 ⟨rfl, hw⟩
  subst hw
  go_wp2_with fail
  refine (ptr26_any gp init w1 HG.out).mono ?_
  rintro e w2 ⟨p1, rfl, hbl, hp⟩
  have PG := keep hp
  replace HW := keep (HW.out.next hbl)
  replace S2 := keep (S2.out.next hbl)
  clear hbl hp HG
  go_wp2_with fail
  refine (clone27_any q n c es w2 S2.out HQ.out hn').mono ?_
  rintro e w3 ⟨p2, d2, rfl, hbl, hs, hq2, _⟩
  replace S2 := keep hs
  replace HQ := keep hq2
  replace HW := keep (HW.out.next hbl)
  replace PG := keep (PG.out.next hbl)
  clear hbl hs hq2
  go_wp2_with fail
  refine (proto12_any p2 n d2 es w3 S2.out HQ.out hn').mono ?_
  rintro e w4 ⟨p3, d3, rfl, hbl, hs, hq3, _⟩
  have S3 := keep hs
  replace S2 := keep (S2.out.next hbl)
  replace HW := keep (HW.out.next hbl)
  replace PG := keep (PG.out.next hbl)
  clear hbl hs hq3
  go_wp2_with fail
  have gd : decide ((1048576 : Int) < 16 * (n : Int)) = false := by simp; omega
  simp only [gd]
  clear gd
  go_loop [10, 11] (fun t i => ∃ l : Nat, l ≤ n ∧ t = .int .i64 (-1) ∧ i = .int .i64 ((l : Int) - 1) ∧ NoFrom es pos l) (fun _ i => (intOf i + 1).toNat)
  case atStart => exact ⟨n, Nat.le_refl _, rfl, rfl, noFrom_top S2.out.1⟩
  case round =>
    obtain ⟨l, hl, rfl, rfl, hno⟩ := hrel
    have HN := keep hno
    clear hno
    cases l with
    | zero =>
      have NO := keep (HN.out.none)
      rw [show (((0 : Nat) : Int) - 1) = -1 from rfl]
      have KL := keep (atV_none (init := init) S2.out.1 NO.out)
      go_wp2_with fail
      refine (zzAt28 r pos p1 init p3 n d3 es w4 hn' S3.out PG.out.came).mono ?_
      rintro e w5 ⟨pg, rfl, hbl, hp⟩
      rw [KL.out] at hp
      have KW := keep (HW.out.next hbl)
      have K2 := keep (S2.out.next hbl)
      have KG := keep (PG.out.next hbl)
      have KR := keep (PG.out.lt)
      clear hbl
      rcases PG.out with ⟨rfl, rfl⟩ | ⟨b1, v1, rfl, rfl, hb1, hrow1⟩
      · rcases hp with ⟨rfl, _⟩ | ⟨b, v', rfl, hx, hb, hrow⟩
        · go_wp2
          go_ret
          exact ⟨rfl, KW.out⟩
        · cases hx
      · rcases hp with ⟨_, hx⟩ | ⟨b, v', rfl, hx, hb, hrow⟩
        · cases hx
        injection hx with hx
        subst hx
        rcases KG.out with ⟨hz, _⟩ | ⟨b2, v2, hz, hz2, _, hrow2⟩
        · cases hz
        injection hz with hz
        injection hz with hz
        subst hz
        injection hz2 with hz2
        subst hz2
        have cb : w5.cell? ⟨b, 0, none⟩ = some (.int .u32 v1) := by rw [cell_of_row w5 b 0 _ 41 (0, 0) hrow]; rfl
        have cb1 : w5.cell? ⟨b1, 0, none⟩ = some (.int .u32 v1) := by rw [cell_of_row w5 b1 0 _ 41 (0, 0) hrow2]; rfl
        have hne : b ≠ b1 := by have : b1 < w4.heap.size := KR.out _ rfl; omega
        have heq := neq_ptr w5 hne hrow hrow2
        clear hrow hrow1 hrow2
        go_wp2
        go_quiet (fail)
        go_wp2
        go_ret
        exact ⟨retb (by simp), below_drewN KW.out _⟩
    | succ j =>
      have hjn : j < n := by omega
      have hji : (j : Int) < (n : Int) := by omega
      rw [show (((j + 1 : Nat) : Int) - 1) = (j : Int) by omega]
      obtain ⟨p, v, g, oo, he, rfl, hg, c1, c2⟩ := S2.out.at j hjn
      by_cases hp : p ≤ pos
      · have NO := keep (HN.out.after)
        have KL := keep (atV_found (init := init) S2.out.1 he hp NO.out)
        go_wp2_with fail
        refine (zzAt28 r pos p1 init p3 n d3 es w4 hn' S3.out PG.out.came).mono ?_
        rintro e w5 ⟨pg, rfl, hbl, hp'⟩
        rw [KL.out] at hp'
        have KW := keep (HW.out.next hbl)
        have K2 := keep (S2.out.next hbl)
        have KG := keep (PG.out.next hbl)
        have KR := keep (PG.out.lt)
        clear hbl
        obtain ⟨pp2, vv2, g2, oo2, he2, hqq, hg2, cc1, cc2⟩ := K2.out.at j hjn
        injection hqq with hqq
        injection hqq with hq1 hq2
        subst hq1 hq2
        rw [he] at he2
        injection he2 with he2
        injection he2 with e1 e2
        subst e1 e2
        rcases hp' with ⟨_, hx⟩ | ⟨b, v', rfl, hx, hb, hrow⟩
        · cases hx
        injection hx with hx
        subst hx
        have cb : w5.cell? ⟨b, 0, none⟩ = some (.int .u32 v) := by rw [cell_of_row w5 b 0 _ 41 (0, 0) hrow]; rfl
        have KR2 := keep hrow
        rcases KG.out with ⟨rfl, hi⟩ | ⟨b1, v1, rfl, hi, hb1, hrow1⟩
        · clear he hrow
          go_wp2
          go_quiet (fail)
          go_wp2
          go_ret
          exact ⟨retb (by simp), below_drewN KW.out _⟩
        · have hne : b ≠ b1 := by have : b1 < w4.heap.size := KR.out _ rfl; omega
          have heq := neq_ptr w5 hne hrow hrow1
          clear he hrow hrow1 hi
          go_wp2
          go_quiet (fail)
          go_wp2
          go_ret
          exact ⟨retb (by simp), below_drewN KW.out _⟩
      · have KN := keep (HN.out.step he hp)
        clear he
        go_wp2
        go_round
        case rel => exact ⟨j, by omega, rfl, by go_num, KN.out⟩
        case measure => simp [intOf]
end Go.Proofs.Qxb6601530aMods
