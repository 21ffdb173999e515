import Derived.Test.Qxb6601530aModsRows
import Derived.WalkKit
import Derived.ProofKit
import Derived.OpenShut
import Derived.WalkSpells
import Derived.WalkLawsBesides
import Derived.Laws.OwnMore
import Derived.Deep.OwnRows
import Derived.BigRegion
import Derived.RegionTactic
import Derived.Deep.Draws
import Derived.Laws.CopyOwn
namespace Go.Proofs.Qxb6601530aMods
open Go.RowKit

theorem keep {p : Prop} (h : p) : Hid p := h
theorem below_alloc (w : World) (o : Obj) : Below w.heap.size w (w.alloc o) := (Below.refl _ _).alloc (Nat.le_refl _) o

/-- the slice of entries at q, n long, reads as es (position, version); its block lies below B -/
def EV (B : Nat) (w : World) (q : Option Addr) (n : Nat) (es : List (Int × Int)) : Prop :=
  es.length = n ∧ ∀ k e, es[k]? = some e → ∃ g o, q = some ⟨g, o, none⟩ ∧ g < B ∧ w.cell? ⟨g, o + k * 2, none⟩ = some (.int .u64 e.1) ∧ w.cell? ⟨g, o + k * 2 + 1, none⟩ = some (.int .u32 e.2)

theorem EV.next {w w' : World} {q : Option Addr} {n : Nat} {es : List (Int × Int)} (h : EV w.heap.size w q n es) (hb : Below w.heap.size w w') : EV w'.heap.size w' q n es :=
  ⟨h.1, fun k e hk => by
    obtain ⟨g, o, h1, h2, h3, h4⟩ := h.2 k e hk
    exact ⟨g, o, h1, Nat.lt_of_lt_of_le h2 hb.size, (hb.cell (p := ⟨g, o + k * 2, none⟩) h2).trans h3, (hb.cell (p := ⟨g, o + k * 2 + 1, none⟩) h2).trans h4⟩⟩

theorem EV.at {B : Nat} {w : World} {q : Option Addr} {n : Nat} {es : List (Int × Int)} (h : EV B w q n es) (k : Nat) (hk : k < n) :
    ∃ p v g o, es[k]? = some (p, v) ∧ q = some ⟨g, o, none⟩ ∧ g < B ∧ w.cell? ⟨g, o + k * 2, none⟩ = some (.int .u64 p) ∧ w.cell? ⟨g, o + k * 2 + 1, none⟩ = some (.int .u32 v) := by
  have hl : k < es.length := by have := h.1; omega
  obtain ⟨g, o, h1, h2, h3, h4⟩ := h.2 k es[k] (List.getElem?_eq_getElem hl)
  exact ⟨es[k].1, es[k].2, g, o, List.getElem?_eq_getElem hl, h1, h2, h3, h4⟩

/-- the first k entries of the new row are laid -/
def Laid (n k : Nat) (es : List (Int × Int)) (fl : Array Value) : Prop :=
  fl.size = n * 2 ∧ ∀ j e, j < k → es[j]? = some e → fl[j * 2]? = some (.int .u64 e.1) ∧ fl[j * 2 + 1]? = some (.int .u32 e.2)

theorem laid_succ {n k : Nat} {es : List (Int × Int)} {fl : Array Value} {p v : Int} (h : Laid n k es fl) (hk : k < n) (he : es[k]? = some (p, v)) :
    Laid n (k + 1) es ((fl.setIfInBounds (k * 2) (.int .u64 p)).setIfInBounds (k * 2 + 1) (.int .u32 v)) := by
  refine ⟨by simp [h.1], fun j e hj hje => ?_⟩
  have hz := h.1
  simp only [Array.getElem?_setIfInBounds, Array.size_setIfInBounds]
  by_cases hjk : j = k
  · subst hjk
    rw [he] at hje
    injection hje with hje
    subst hje
    rw [if_neg (by omega), if_pos rfl, if_pos (by omega), if_pos rfl, if_pos (by omega)]
    exact ⟨rfl, rfl⟩
  · obtain ⟨h1, h2⟩ := h.2 j e (by omega) hje
    rw [if_neg (by omega), if_neg (by omega), if_neg (by omega), if_neg (by omega)]
    exact ⟨h1, h2⟩

/-- what a copy hands back -/
def Copied (w : World) (q : Option Addr) (n : Nat) (es : List (Int × Int)) (en : Ending) (w' : World) : Prop :=
  ∃ q' c', en = .returned (.slice q' n c') ∧ Below w.heap.size w w' ∧ EV w'.heap.size w' q' n es ∧ (q' = none → n = 0 ∧ c' = 0) ∧ (q' = none ↔ q = none)

theorem copied_of {w : World} {a : Addr} {n nq : Nat} {es : List (Int × Int)} {fl : Array Value} (t : TypeId) (hl : es.length = n) (h : Laid n n es fl) :
    Copied w (some a) n es (.returned (.slice (some ⟨w.heap.size, 0, none⟩) n n)) ((w.alloc (.cells fl t)).drewN nq) := by
  refine ⟨_, _, rfl, below_drewN (below_alloc w _) nq, ⟨hl, fun k e hk => ?_⟩, fun h => (by cases h), by simp⟩
  have hkn : k < n := by have := (List.getElem?_eq_some_iff.1 hk).1; omega
  obtain ⟨h1, h2⟩ := h.2 k e hkn hk
  refine ⟨w.heap.size, 0, rfl, by simp, ?_, ?_⟩
  · rw [Nat.zero_add, World.cell?_drewN, World.cell?_alloc_at _ _ _ _ rfl]; exact h1
  · rw [Nat.zero_add, World.cell?_drewN, World.cell?_alloc_at _ _ _ _ rfl]; exact h2

theorem Trym.info44 : (Trym.prog.info? 44).map (fun i => (i.zero, i.size, i.bytes)) = some (some (.agg #[.int .u64 0, .int .u32 0]), 2, 16) := by kernel_rfl
theorem Trym.info43 : (Trym.prog.info? 43).map (fun i => (i.zero, i.size, i.bytes)) = some (some (.agg #[.int .u64 0, .int .u32 0]), 2, 16) := by kernel_rfl

theorem make29 (n : Nat) (hn : n ≤ 1048576) (W : World) : (Instr.makeSlice 29 (.int .i64 (n : Int)) (.int .i64 (n : Int))).run Trym.prog W = .ok (.slice (some ⟨W.heap.size, 0, none⟩) n n) (W.alloc (.cells (madeCells #[.int .u64 0, .int .u32 0] (n * 2)) 44)) := by
  obtain ⟨i, hi, hzz⟩ := Option.map_eq_some_iff.1 Trym.info44
  simp only [Prod.mk.injEq] at hzz
  obtain ⟨hz, hs, hb⟩ := hzz
  have h := run_make (P := Trym.prog) W 29 44 i _ Trym.underlying29 hi hz .i64 .i64 n n (by omega) (Int.le_refl _) (by rw [hb]; omega) (by omega)
  rw [h, hs]
  rfl
theorem make32 (n : Nat) (hn : n ≤ 1048576) (W : World) : (Instr.makeSlice 32 (.int .i64 (n : Int)) (.int .i64 (n : Int))).run Trym.prog W = .ok (.slice (some ⟨W.heap.size, 0, none⟩) n n) (W.alloc (.cells (madeCells #[.int .u64 0, .int .u32 0] (n * 2)) 43)) := by
  obtain ⟨i, hi, hzz⟩ := Option.map_eq_some_iff.1 Trym.info43
  simp only [Prod.mk.injEq] at hzz
  obtain ⟨hz, hs, hb⟩ := hzz
  have h := run_make (P := Trym.prog) W 32 43 i _ Trym.underlying32 hi hz .i64 .i64 n n (by omega) (Int.le_refl _) (by rw [hb]; omega) (by omega)
  rw [h, hs]
  rfl

theorem set2 (w : World) (cc : Array Value) (t : TypeId) (nq i j : Nat) (u v : Value) (b : Nat) (hb : b = w.heap.size) : (((w.alloc (.cells cc t)).drewN nq).setCell ⟨b, i, none⟩ u).setCell ⟨b, j, none⟩ v = (w.alloc (.cells ((cc.setIfInBounds i u).setIfInBounds j v) t)).drewN nq := by
  subst hb
  rw [← World.setCell_alloc_at (cc.setIfInBounds i u) t _ j v rfl, ← World.setCell_alloc_at cc t _ i u rfl]
  rfl

set_option maxHeartbeats 400000 in
theorem clone27_nil (w : World) : Calls Trym.prog 27 #[.slice none 0 0] w fun e w' => e = .returned (.slice none 0 0) ∧ w' = w := by
  have hnil : ∀ W, (binOp .eql 29 (.slice none 0 0) (.slice none 0 0)).run Trym.prog W = .ok (.bool true) W := fun W => Lib.run_eql_slice_nil W 29 44 none 0 0 0 0 Trym.underlying29
  go_enter Trym.func27, Trym.ntmps27
  go_wp2
  go_ret
  exact ⟨rfl, rfl⟩

set_option maxHeartbeats 400000 in
theorem proto12_nil (w : World) : Calls Trym.prog 12 #[.slice none 0 0] w fun e w' => e = .returned (.slice none 0 0) ∧ w' = w := by
  have hnil : ∀ W, (binOp .eql 29 (.slice none 0 0) (.slice none 0 0)).run Trym.prog W = .ok (.bool true) W := fun W => Lib.run_eql_slice_nil W 29 44 none 0 0 0 0 Trym.underlying29
  go_enter Trym.func12, Trym.ntmps12
  go_wp2
  go_ret
  exact ⟨rfl, rfl⟩

set_option maxHeartbeats 400000 in
theorem clone27_some (ad : Addr) (n c : Nat) (es : List (Int × Int)) (w : World) (h : EV w.heap.size w (some ad) n es) (hn : n ≤ 1048576) :
    Calls Trym.prog 27 #[.slice (some ad) n c] w fun e w' => Copied w (some ad) n es e w' := by
  have hnil : ∀ W, (binOp .eql 29 (.slice (some ad) n c) (.slice none 0 0)).run Trym.prog W = .ok (.bool false) W := fun W => Lib.run_eql_slice_nil W 29 44 (some ad) n c 0 0 Trym.underlying29
  have hmk := make29 n hn
  have hmz := size_madeCells #[.int .u64 0, .int .u32 0] (n * 2)
  have hl := keep h.1
  have KS := keep h
  clear h
  go_enter Trym.func27, Trym.ntmps27
  go_wp2
  generalize madeCells #[.int .u64 0, .int .u32 0] (n * 2) = z at *
  clear hmk hnil
  go_loopw [4] (fun i wr => ∃ (k : Nat) (fl : Array Value), k ≤ n ∧ i = .int .i64 k ∧ wr = w.alloc (.cells fl 44) ∧ Laid n k es fl) (fun i _ => n - (intOf i).toNat)
  case atStart => exact ⟨0, z, Nat.zero_le _, rfl, rfl, hmz, fun j e hj => by omega⟩
  case round =>
    obtain ⟨k, fl, hk, rfl, rfl, hL⟩ := hrel
    have KL := keep hL
    have hfs := hL.1
    clear hL
    by_cases hlt : k < n
    · obtain ⟨p, v, g, o, he, hq, hg, c1, c2⟩ := KS.out.at k hlt
      injection hq with hq
      subst hq
      have KN := keep (laid_succ KL.out hlt he)
      obtain ⟨u0, hu0⟩ : ∃ u, fl[k * 2]? = some u := ⟨_, Array.getElem?_eq_getElem (by omega)⟩
      obtain ⟨u1, hu1⟩ : ∃ u, fl[k * 2 + 1]? = some u := ⟨_, Array.getElem?_eq_getElem (by omega)⟩
      have hlti : (k : Int) < (n : Int) := by omega
      clear he
      go_wp2
      go_roundw
      case rel => exact ⟨k + 1, _, by omega, by go_num, rfl, KN.out⟩
      case measure => simp [intOf]; omega
    · obtain rfl : k = n := by omega
      have KC := keep (copied_of (w := w) (a := ad) (nq := 0) 44 hl.out KL.out)
      go_wp2
      go_ret
      exact KC.out

set_option maxHeartbeats 400000 in
theorem proto12_some (ad : Addr) (n c : Nat) (es : List (Int × Int)) (w : World) (h : EV w.heap.size w (some ad) n es) (hn : n ≤ 1048576) :
    Calls Trym.prog 12 #[.slice (some ad) n c] w fun e w' => Copied w (some ad) n es e w' := by
  have hnil : ∀ W, (binOp .eql 29 (.slice (some ad) n c) (.slice none 0 0)).run Trym.prog W = .ok (.bool false) W := fun W => Lib.run_eql_slice_nil W 29 44 (some ad) n c 0 0 Trym.underlying29
  have hmk := make32 n hn
  have hmz := size_madeCells #[.int .u64 0, .int .u32 0] (n * 2)
  have hl := keep h.1
  have KS := keep h
  clear h
  go_enter Trym.func12, Trym.ntmps12
  go_wp2
  generalize madeCells #[.int .u64 0, .int .u32 0] (n * 2) = z at *
  clear hmk hnil
  go_loopw [4] (fun i wr => ∃ (k nq : Nat) (fl : Array Value), k ≤ n ∧ i = .int .i64 k ∧ wr = (w.alloc (.cells fl 43)).drewN nq ∧ Laid n k es fl) (fun i _ => n - (intOf i).toNat)
  case atStart => exact ⟨0, 0, z, Nat.zero_le _, rfl, rfl, hmz, fun j e hj => by omega⟩
  case round =>
    obtain ⟨k, nq, fl, hk, rfl, rfl, hL⟩ := hrel
    have KL := keep hL
    have hfs := hL.1
    clear hL
    by_cases hlt : k < n
    · obtain ⟨p, v, g, o, he, hq, hg, c1, c2⟩ := KS.out.at k hlt
      injection hq with hq
      subst hq
      have KN := keep (laid_succ KL.out hlt he)
      obtain ⟨u0, hu0⟩ : ∃ u, fl[k * 2]? = some u := ⟨_, Array.getElem?_eq_getElem (by omega)⟩
      obtain ⟨u1, hu1⟩ : ∃ u, fl[k * 2 + 1]? = some u := ⟨_, Array.getElem?_eq_getElem (by omega)⟩
      have hlti : (k : Int) < (n : Int) := by omega
      clear he
      go_wp2
      go_region
      go_wp2
      go_roundw
      case rel => exact ⟨k + 1, nq + 1, _, by omega, by go_num, set2 _ _ _ _ _ _ _ _ _ (by simp), KN.out⟩
      case measure => simp [intOf]; omega
    · obtain rfl : k = n := by omega
      have KC := keep (copied_of (w := w) (a := ad) (nq := nq) 43 hl.out KL.out)
      go_wp2
      go_ret
      exact KC.out

theorem copied_nil (w : World) (es : List (Int × Int)) (h : es.length = 0) : Copied w none 0 es (.returned (.slice none 0 0)) w :=
  ⟨none, 0, rfl, Below.refl _ _, ⟨h, fun k e hk => by have := (List.getElem?_eq_some_iff.1 hk).1; omega⟩, fun _ => ⟨rfl, rfl⟩, by simp⟩

theorem clone27_any (q : Option Addr) (n c : Nat) (es : List (Int × Int)) (w : World) (h : EV w.heap.size w q n es) (hq : q = none → n = 0 ∧ c = 0) (hn : n ≤ 1048576) :
    Calls Trym.prog 27 #[.slice q n c] w fun e w' => Copied w q n es e w' := by
  cases q with
  | some ad => exact clone27_some ad n c es w h hn
  | none =>
    obtain ⟨rfl, rfl⟩ := hq rfl
    refine (clone27_nil w).mono ?_
    rintro e w' ⟨rfl, rfl⟩
    exact copied_nil _ _ h.1

theorem proto12_any (q : Option Addr) (n c : Nat) (es : List (Int × Int)) (w : World) (h : EV w.heap.size w q n es) (hq : q = none → n = 0 ∧ c = 0) (hn : n ≤ 1048576) :
    Calls Trym.prog 12 #[.slice q n c] w fun e w' => Copied w q n es e w' := by
  cases q with
  | some ad => exact proto12_some ad n c es w h hn
  | none =>
    obtain ⟨rfl, rfl⟩ := hq rfl
    refine (proto12_nil w).mono ?_
    rintro e w' ⟨rfl, rfl⟩
    exact copied_nil _ _ h.1

/-! ### The pointer -/
/-- p is nil, or leads to a new cell of its own that holds x; its block lies from L on -/
def PtrAt (L : Nat) (w : World) (p : Option Addr) (x : Option Int) : Prop :=
  (p = none ∧ x = none) ∨ ∃ b v, p = some ⟨b, 0, none⟩ ∧ x = some v ∧ L ≤ b ∧ w.heap[b]? = some (.cells #[.int .u32 v] 41 (0, 0))

theorem PtrAt.next {L : Nat} {w w' : World} {p : Option Addr} {x : Option Int} (h : PtrAt L w p x) (hb : Below w.heap.size w w') : PtrAt L w' p x := by
  rcases h with h | ⟨b, v, h1, h2, h3, h4⟩
  · exact .inl h
  · exact .inr ⟨b, v, h1, h2, h3, (hb.block b (Array.getElem?_eq_some_iff.1 h4).1).trans h4⟩

set_option maxHeartbeats 400000 in
theorem ptr26_nil (w : World) : Calls Trym.prog 26 #[.pointer none] w fun e w' => e = .returned (.pointer none) ∧ w' = w := by
  go_enter Trym.func26, Trym.ntmps26
  go_wp2
  go_ret
  exact ⟨rfl, rfl⟩

set_option maxHeartbeats 400000 in
theorem ptr26_some (b o : Nat) (v : Int) (w : World) (h : w.cell? ⟨b, o, none⟩ = some (.int .u32 v)) : Calls Trym.prog 26 #[.pointer (some ⟨b, o, none⟩)] w fun e w' => e = .returned (.pointer (some ⟨w.heap.size, 0, none⟩)) ∧ w' = w.alloc (.cells #[.int .u32 v] 41) := by
  go_enter Trym.func26, Trym.ntmps26
  go_wp2
  go_ret
  exact ⟨rfl, rfl⟩

theorem zzBytes24 (a d : Int) (p : Value) (q : Option Addr) (n c : Nat) (w : World) (hn : n ≤ 1048576) :
    Calls Trym.prog 24 #[.int .u64 a, p, .slice q n c, .int .u64 d] w fun e w' => e = .returned (.bool true) ∧ w' = w := by
  go_enter Trym.func24, Trym.ntmps24
  go_wp2
  go_ret
  exact ⟨rfl, rfl⟩
theorem zzBytes24_no (a d : Int) (p : Value) (q : Option Addr) (n c : Nat) (w : World) (hn : 1048576 < n) :
    Calls Trym.prog 24 #[.int .u64 a, p, .slice q n c, .int .u64 d] w fun e w' => e = .returned (.bool false) ∧ w' = w := by
  go_enter Trym.func24, Trym.ntmps24
  go_wp2
  go_ret
  exact ⟨rfl, rfl⟩
theorem size25 (q : Option Addr) (n c : Nat) (w : World) (hn : n ≤ 1048576) :
    Calls Trym.prog 25 #[.slice q n c] w fun e w' => e = .returned (.int .i64 (16 * n)) ∧ w' = w := by
  go_enter Trym.func25, Trym.ntmps25
  go_wp2
  go_ret
  exact ⟨rfl, rfl⟩
end Go.Proofs.Qxb6601530aMods
