import Derived.Test.Qxb6601427aModsRows
import Derived.WalkKit
import Derived.ProofKit
import Derived.OpenShut
import Derived.WalkSpells
import Derived.WalkLawsBesides
import Derived.Laws.OwnMore
import Derived.Deep.OwnRows
namespace Go.Proofs.Qxb6601427aMods
open Go.RowKit

theorem keep {p : Prop} (h : p) : Hid p := h

/-- the slice at q, n long, reads as the cells xs; its block is one of I -/
def SVp (I : Nat → Prop) (w : World) (q : Option Addr) (n : Nat) (xs : List Value) : Prop :=
  xs.length = n ∧ ∀ j u, xs[j]? = some u → ∃ g o, q = some ⟨g, o, none⟩ ∧ I g ∧ w.cell? ⟨g, o + j, none⟩ = some u
/-- the same; its block lies below B -/
def SV (B : Nat) (w : World) (q : Option Addr) (n : Nat) (xs : List Value) : Prop := SVp (fun g => g < B) w q n xs

theorem SVp.of_same {I J : Nat → Prop} {w w' : World} {q : Option Addr} {n : Nat} {xs : List Value} (h : SVp I w q n xs) (hI : ∀ g, I g → J g ∧ w'.heap[g]? = w.heap[g]?) : SVp J w' q n xs :=
  ⟨h.1, fun j u hj => by
    obtain ⟨g, o, hq, hg, hc⟩ := h.2 j u hj
    exact ⟨g, o, hq, (hI g hg).1, (World.cell?_of_block (a := ⟨g, o + j, none⟩) (hI g hg).2).trans hc⟩⟩

theorem SV.below {B B' : Nat} {w w' : World} {q : Option Addr} {n : Nat} {xs : List Value} (h : SV B w q n xs) (hb : Below B' w w') (hB : B ≤ B') : SV B w' q n xs :=
  ⟨h.1, fun j u hj => by
    obtain ⟨g, o, hq, hg, hc⟩ := h.2 j u hj
    exact ⟨g, o, hq, hg, (hb.cell (p := ⟨g, o + j, none⟩) (Nat.lt_of_lt_of_le hg hB)).trans hc⟩⟩

theorem SV.mono {B B' : Nat} {w : World} {q : Option Addr} {n : Nat} {xs : List Value} (h : SV B w q n xs) (hB : B ≤ B') : SV B' w q n xs :=
  ⟨h.1, fun j u hj => by
    obtain ⟨g, o, hq, hg, hc⟩ := h.2 j u hj
    exact ⟨g, o, hq, Nat.lt_of_lt_of_le hg hB, hc⟩⟩

theorem SV.at {B : Nat} {w : World} {q : Option Addr} {n : Nat} {α : Type} {f : α → Value} {xs : List α} (h : SV B w q n (xs.map f)) (k : Nat) (hk : k < n) :
    ∃ g o x, xs[k]? = some x ∧ q = some ⟨g, o, none⟩ ∧ g < B ∧ w.cell? ⟨g, o + k, none⟩ = some (f x) := by
  have hl : k < xs.length := by have := h.1; simp at this; omega
  obtain ⟨g, o, h1, h2, h3⟩ := h.2 k (f xs[k]) (by simp [hl])
  exact ⟨g, o, xs[k], List.getElem?_eq_getElem hl, h1, h2, h3⟩

/-- what the call owns, read as a slice -/
theorem SV.of_owns {base : Nat} {w : World} {e : TypeId} {q : Option Addr} {n c m : Nat} {xs : List Value} (h : w.ownsRow base e 1 (.slice q n c) m xs) : m = n ∧ SV w.heap.size w q n xs ∧ (q = none → n = 0 ∧ c = 0) := by
  obtain ⟨hl, h2⟩ := h
  rw [Nat.mul_one] at hl
  rcases h2 with ⟨hv, rfl⟩ | ⟨g, cap, cur, hv, hg, hc, h3, h4, h5, h6⟩
  · injection hv with h1 h2 h3
    subst h1 h2 h3
    refine ⟨rfl, ⟨hl, fun j u hj => ?_⟩, fun _ => ⟨rfl, rfl⟩⟩
    have : j < xs.length := (List.getElem?_eq_some_iff.1 hj).1
    omega
  · injection hv with e1 e2 e3
    subst e1 e2 e3
    refine ⟨rfl, ⟨hl, fun j u hj => ⟨g, 0, rfl, (Array.getElem?_eq_some_iff.1 hc).1, ?_⟩⟩, fun h => by cases h⟩
    rw [cell_of_row w g (0 + j) cur e (0, 0) hc]
    rw [← h6, List.getElem?_take] at hj
    rw [Nat.zero_add]
    split at hj
    · simpa using hj
    · cases hj

theorem SVp.of_owns {base : Nat} {w : World} {e : TypeId} {q : Option Addr} {n c m : Nat} {xs : List Value} (h : w.ownsRow base e 1 (.slice q n c) m xs) : SVp (fun g => base ≤ g ∧ g < w.heap.size) w q n xs := by
  obtain ⟨hl, h2⟩ := h
  rw [Nat.mul_one] at hl
  rcases h2 with ⟨hv, rfl⟩ | ⟨g, cap, cur, hv, hg, hc, h3, h4, h5, h6⟩
  · injection hv with h1 h2 h3
    subst h1 h2 h3
    refine ⟨hl, fun j u hj => ?_⟩
    have : j < xs.length := (List.getElem?_eq_some_iff.1 hj).1
    omega
  · injection hv with e1 e2 e3
    subst e1 e2 e3
    refine ⟨hl, fun j u hj => ⟨g, 0, rfl, ⟨hg, (Array.getElem?_eq_some_iff.1 hc).1⟩, ?_⟩⟩
    rw [cell_of_row w g (0 + j) cur e (0, 0) hc]
    rw [← h6, List.getElem?_take] at hj
    rw [Nat.zero_add]
    split at hj
    · simpa using hj
    · cases hj

/-- the first k cells of the new row are those of xs -/
def fillTo (z : Array Value) (xs : List Value) : Nat → Array Value
  | 0 => z
  | k + 1 => match xs[k]? with
    | some u => (fillTo z xs k).setIfInBounds k u
    | none => fillTo z xs k

theorem fillTo_succ (z : Array Value) (xs : List Value) (k : Nat) (u : Value) (h : xs[k]? = some u) : fillTo z xs (k + 1) = (fillTo z xs k).setIfInBounds k u := by
  simp [fillTo, h]

theorem fillTo_size (z : Array Value) (xs : List Value) (k : Nat) : (fillTo z xs k).size = z.size := by
  induction k with
  | zero => rfl
  | succ k ih => simp only [fillTo]; split <;> simp [ih]

theorem fillTo_at (z : Array Value) (xs : List Value) (hz : z.size = xs.length) (k j : Nat) (hk : k ≤ xs.length) (hj : j < k) : (fillTo z xs k)[j]? = xs[j]? := by
  induction k with
  | zero => omega
  | succ k ih =>
    have hl : k < xs.length := by omega
    rw [fillTo_succ z xs k xs[k] (List.getElem?_eq_getElem hl), Array.getElem?_setIfInBounds]
    by_cases h : k = j
    · subst h
      rw [if_pos rfl, if_pos (by rw [fillTo_size]; omega), List.getElem?_eq_getElem hl]
    · rw [if_neg h]; exact ih (by omega) (by omega)

theorem fillTo_all (z : Array Value) (xs : List Value) (hz : z.size = xs.length) : fillTo z xs xs.length = xs.toArray := by
  apply Array.ext_getElem?
  intro j
  by_cases hj : j < xs.length
  · rw [fillTo_at z xs hz _ j (Nat.le_refl _) hj]; simp
  · rw [Array.getElem?_eq_none (by rw [fillTo_size]; omega), Array.getElem?_eq_none (by simp; omega)]

/-- what a copy hands back -/
def Copied (w : World) (e : TypeId) (q : Option Addr) (n : Nat) (xs : List Value) (en : Ending) (w' : World) : Prop :=
  ∃ q' c', en = .returned (.slice q' n c') ∧ Below w.heap.size w w' ∧ w'.ownsRow w.heap.size e 1 (.slice q' n c') n xs ∧ (q' = none ↔ q = none)

theorem copied_made (w : World) (e : TypeId) (q : Option Addr) (n : Nat) (xs : List Value) (hl : xs.length = n) (hn : n ≤ maxLen) (hq : q ≠ none) :
    Copied w e q n xs (.returned (.slice (some ⟨w.heap.size, 0, none⟩) n n)) (w.alloc (.cells xs.toArray e)) :=
  ⟨_, _, rfl, (Below.refl _ _).alloc (Nat.le_refl _) _, ⟨by omega, .inr ⟨w.heap.size, n, xs.toArray, rfl, Nat.le_refl _, heap_alloc_new w _, Nat.le_refl _, hn, by simp [hl], by rw [List.take_of_length_le (by simp; omega)]⟩⟩, by simp [hq]⟩

theorem copied_nil (w : World) (e : TypeId) (n : Nat) (hn : n = 0) : Copied w e none n [] (.returned (.slice none 0 0)) w := by
  subst hn
  exact ⟨none, 0, rfl, Below.refl _ _, World.ownsRow_nil _ _ _ _, by simp⟩
end Go.Proofs.Qxb6601427aMods
