import Derived.Test.Qxb6601530aModsRec1
namespace Go.Proofs.Qxb6601530aMods
open Go.RowKit
open Extern.Stop (cell)

/-- an entry, as it lies in 36 cells -/
structure REnt where
  p : Int
  ts : Int
  root : List UInt8
  sz : Int
  q : Option Addr
  m : Nat
  c : Nat

def eCells (e : REnt) : List Value := .int .u64 e.p :: .int .u64 e.ts :: (hCells e.root ++ [.int .u64 e.sz, .slice e.q e.m e.c])

/-- an entry whose parts are sound: the root is 32 long, the slice of hashes reads -/
def EOk (I : Nat → Prop) (w : World) (e : REnt) : Prop :=
  e.root.length = 32 ∧ (e.q = none → e.m = 0 ∧ e.c = 0) ∧ ∃ hs, HVp I w e.q e.m hs

theorem EOk.of_same {I J : Nat → Prop} {w w' : World} {e : REnt} (h : EOk I w e) (hI : ∀ g, I g → J g ∧ w'.heap[g]? = w.heap[g]?) : EOk J w' e := by
  obtain ⟨h1, h2, hs, h3⟩ := h
  exact ⟨h1, h2, hs, h3.of_same hI⟩

theorem eCells_len {e : REnt} (h : e.root.length = 32) : (eCells e).length = 36 := by simp [eCells, hCells_len h]
theorem eCells_one (e : REnt) : ∀ v ∈ eCells e, v.oneCell' = true := by
  intro v hv
  simp only [eCells, List.mem_cons, List.mem_append, List.not_mem_nil, or_false] at hv
  rcases hv with rfl | rfl | hv | rfl | rfl
  · rfl
  · rfl
  · exact hCells_one _ v hv
  · rfl
  · rfl

/-- the slice of entries at q, n long, reads as es; the blocks are those of I -/
def RV (I : Nat → Prop) (w : World) (q : Option Addr) (n : Nat) (es : List REnt) : Prop :=
  es.length = n ∧ ∀ k e, es[k]? = some e → (∃ g o, q = some ⟨g, o, none⟩ ∧ I g ∧ w.rangeAt g (o + k * 36) (eCells e)) ∧ EOk I w e

theorem RV.of_same {I J : Nat → Prop} {w w' : World} {q : Option Addr} {n : Nat} {es : List REnt} (h : RV I w q n es) (hI : ∀ g, I g → J g ∧ w'.heap[g]? = w.heap[g]?) : RV J w' q n es :=
  ⟨h.1, fun k e he => by
    obtain ⟨⟨g, o, hq, hg, hr⟩, hk⟩ := h.2 k e he
    exact ⟨⟨g, o, hq, (hI g hg).1, range_same hr (hI g hg).2⟩, hk.of_same hI⟩⟩

theorem RV.at {I : Nat → Prop} {w : World} {q : Option Addr} {n : Nat} {es : List REnt} (h : RV I w q n es) (k : Nat) (hk : k < n) :
    ∃ e g o, es[k]? = some e ∧ q = some ⟨g, o, none⟩ ∧ I g ∧ w.rangeAt g (o + k * 36) (eCells e) ∧ EOk I w e := by
  have hl : k < es.length := by have := h.1; omega
  obtain ⟨⟨g, o, h2, h3, h4⟩, h5⟩ := h.2 k es[k] (List.getElem?_eq_getElem hl)
  exact ⟨es[k], g, o, List.getElem?_eq_getElem hl, h2, h3, h4, h5⟩

section
variable {w : World} {g o : Nat} {e : REnt}
theorem ent_p (h : w.rangeAt g o (eCells e)) : w.cell? ⟨g, o, none⟩ = some (.int .u64 e.p) := h 0 _ rfl
theorem ent_ts (h : w.rangeAt g o (eCells e)) : w.cell? ⟨g, o + 1, none⟩ = some (.int .u64 e.ts) := h 1 _ rfl
theorem ent_root (h : w.rangeAt g o (eCells e)) : w.rangeAt g (o + 2) (hCells e.root) := fun j v hj => by
  have hjl := (List.getElem?_eq_some_iff.1 hj).1
  have := h (j + 2) v (by
    show (hCells e.root ++ [.int .u64 e.sz, .slice e.q e.m e.c])[j]? = some v
    rw [List.getElem?_append_left hjl]
    exact hj)
  rwa [show o + (j + 2) = o + 2 + j by omega] at this
theorem ent_sz (h : w.rangeAt g o (eCells e)) (hl : e.root.length = 32) : w.cell? ⟨g, o + 34, none⟩ = some (.int .u64 e.sz) := by
  have hh := hCells_len hl
  refine h 34 _ ?_
  show (hCells e.root ++ [.int .u64 e.sz, .slice e.q e.m e.c])[32]? = _
  rw [List.getElem?_append_right (by omega), hh]
  rfl
theorem ent_v (h : w.rangeAt g o (eCells e)) (hl : e.root.length = 32) : w.cell? ⟨g, o + 35, none⟩ = some (.slice e.q e.m e.c) := by
  have hh := hCells_len hl
  refine h 35 _ ?_
  show (hCells e.root ++ [.int .u64 e.sz, .slice e.q e.m e.c])[33]? = _
  rw [List.getElem?_append_right (by omega), hh]
  rfl
end

/-- it returns a bool -/
def AnyBool (e : Ending) : Prop := ∃ b, e = .returned (.bool b)

set_option maxHeartbeats 1000000 in
theorem zzBytes15 (b : Bool) (pos : Int) (q : Option Addr) (n c : Nat) (es : List REnt) (I : Nat → Prop) (w : World) (s : RV I w q n es) :
    Calls Trym.prog 15 #[.bool b, .slice q n c, .int .u64 pos] w fun e w' => AnyBool e ∧ w' = w := by
  have S := keep s
  clear s
  by_cases hn : 1048576 < n
  · go_enter Trym.func15, Trym.ntmps15
    go_wp2
    go_ret
    exact ⟨⟨_, rfl⟩, rfl⟩
  go_enter Trym.func15, Trym.ntmps15
  go_wp2
  go_loop [7, 8] (fun t i => ∃ (k : Nat) (z : Int), k ≤ n ∧ 0 ≤ z ∧ z ≤ 1048576 ∧ i = .int .i64 k ∧ t = .int .i64 z) (fun _ i => n - (intOf i).toNat)
  case atStart => exact ⟨0, n, Nat.zero_le _, by omega, by omega, rfl, by go_num⟩
  case round =>
    obtain ⟨k, z, hk, hz, hz1, rfl, rfl⟩ := hrel
    by_cases hlt : k < n
    · obtain ⟨e, g, o, he, rfl, hg, hr, hok⟩ := S.out.at k hlt
      have cv := ent_v hr hok.1
      have hlti : (k : Int) < (n : Int) := by omega
      clear hr he
      obtain ⟨p, ts, root, sz, q, m, c'⟩ := e
      have hk' := keep hok
      clear hok
      simp only at cv
      by_cases hm : 1048576 < m
      · go_wp2
        all_goals (go_ret; exact ⟨⟨_, rfl⟩, rfl⟩)
      go_wp2
      all_goals first | (go_ret; exact ⟨⟨_, rfl⟩, rfl⟩) | skip
      go_loop [7, 9] (fun t i => ∃ (l : Nat) (y : Int), l ≤ m ∧ 0 ≤ y ∧ y ≤ 1048576 ∧ i = .int .i64 l ∧ t = .int .i64 y) (fun _ i => m - (intOf i).toNat)
      case atStart => exact ⟨0, z + 32 + m, Nat.zero_le _, by omega, by omega, rfl, by go_num⟩
      case round =>
        obtain ⟨l, y, hl, hy, hy1, rfl, rfl⟩ := hrel
        by_cases hlm : l < m
        · have hlmi : (l : Int) < (m : Int) := by omega
          go_wp2
          all_goals first | (go_ret; exact ⟨⟨_, rfl⟩, rfl⟩) | skip
          go_round
          case rel => exact ⟨l + 1, y + 32, by omega, by omega, by omega, by go_num, by go_num⟩
          case measure => simp [intOf]; omega
        · obtain rfl : l = m := by omega
          go_wp2
          all_goals first | (go_ret; exact ⟨⟨_, rfl⟩, rfl⟩) | skip
          go_round
          case rel => exact ⟨k + 1, _, by omega, by omega, by omega, by go_num, rfl⟩
          case measure => simp [intOf]; omega
    · obtain rfl : k = n := by omega
      go_wp2
      all_goals (go_ret; exact ⟨⟨_, rfl⟩, rfl⟩)

/-- what recentBytes answers -/
def SizeSaid (es : List REnt) (n : Nat) (e : Ending) : Prop :=
  ∃ r : Int, e = .returned (.int .i64 r) ∧ 0 ≤ r ∧ r ≤ 1048577 ∧ (r ≤ 1048576 → n ≤ 1048576 ∧ ∀ (k : Nat) (e : REnt), es[k]? = some e → e.m ≤ 1048576)
theorem said_over (es : List REnt) (n : Nat) : SizeSaid es n (.returned (.int .i64 1048577)) := ⟨_, rfl, by omega, by omega, fun h => by omega⟩
/-- the first k are short -/
def ShortTo (es : List REnt) (k : Nat) : Prop := ∀ (j : Nat) (e : REnt), j < k → es[j]? = some e → e.m ≤ 1048576
theorem short_succ {es : List REnt} {k : Nat} {e : REnt} (h : ShortTo es k) (hd : es[k]? = some e) (hl : e.m ≤ 1048576) : ShortTo es (k + 1) := by
  intro j e' hj he
  by_cases hjk : j = k
  · subst hjk; rw [hd] at he; injection he with he; subst he; exact hl
  · exact h j e' (by omega) he
theorem said_all {es : List REnt} {n : Nat} {z : Int} (hn : n ≤ 1048576) (hl : es.length = n) (h : ShortTo es n) (h0 : 0 ≤ z) (h1 : z ≤ 1048576) : SizeSaid es n (.returned (.int .i64 z)) :=
  ⟨z, rfl, h0, by omega, fun _ => ⟨hn, fun k e he => h k e (by have := (List.getElem?_eq_some_iff.1 he).1; omega) he⟩⟩

set_option maxHeartbeats 1000000 in
theorem size16 (q : Option Addr) (n c : Nat) (es : List REnt) (I : Nat → Prop) (w : World) (s : RV I w q n es) :
    Calls Trym.prog 16 #[.slice q n c] w fun e w' => SizeSaid es n e ∧ w' = w := by
  have S := keep s
  have KO := keep (said_over es n)
  clear s
  by_cases hn : 1048576 < n
  · go_enter Trym.func16, Trym.ntmps16
    go_wp2
    go_ret
    exact ⟨KO.out, rfl⟩
  go_enter Trym.func16, Trym.ntmps16
  go_wp2
  go_loop [3, 4] (fun t i => ∃ (k : Nat) (z : Int), k ≤ n ∧ 0 ≤ z ∧ z ≤ 1048576 ∧ i = .int .i64 k ∧ t = .int .i64 z ∧ ShortTo es k) (fun _ i => n - (intOf i).toNat)
  case atStart => exact ⟨0, 0, Nat.zero_le _, by omega, by omega, rfl, rfl, fun j e hj => by omega⟩
  case round =>
    obtain ⟨k, z, hk, hz, hz1, rfl, rfl, hsh⟩ := hrel
    have KS := keep hsh
    clear hsh
    by_cases hlt : k < n
    · obtain ⟨e, g, o, he, rfl, hg, hr, hok⟩ := S.out.at k hlt
      have cv := ent_v hr hok.1
      have hlti : (k : Int) < (n : Int) := by omega
      have KN := keep (fun hm => short_succ KS.out he hm)
      clear hr he hok
      obtain ⟨p, ts, root, sz, q, m, c'⟩ := e
      simp only at cv
      by_cases hm : 1048576 < m
      · go_wp2
        all_goals (go_ret; exact ⟨KO.out, rfl⟩)
      have hm' : m ≤ 1048576 := by omega
      go_wp2
      all_goals first | (go_ret; exact ⟨KO.out, rfl⟩) | skip
      go_round
      case rel => exact ⟨k + 1, z + (80 + 32 * m), by omega, by omega, by omega, by go_num, by go_num, KN.out hm'⟩
      case measure => simp [intOf]; omega
    · obtain rfl : k = n := by omega
      have KA := keep (said_all (by omega) S.out.1 KS.out hz hz1)
      go_wp2
      go_ret
      exact ⟨KA.out, rfl⟩
end Go.Proofs.Qxb6601530aMods
