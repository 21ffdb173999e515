import Derived.Test.Qxb6601055aModsZz
import Derived.Laws.BitsLemmas
namespace Go.Proofs.Qxb6601055aMods
open Go.RowKit

/-- bit j of x, as the text asks it -/
def bitB (x : Int) (j : Nat) : Bool := bits .and .u8 (x / 2 ^ j) 1 == 1

theorem bitB_nat (a j : Nat) (ha : a < 256) : bitB (a : Int) j = a.testBit j := by
  have e : ((a : Int) / 2 ^ j) = ((a / 2 ^ j : Nat) : Int) := by
    rw [Int.natCast_ediv]; simp
  have hlt : a / 2 ^ j < 2 ^ 8 := Nat.lt_of_le_of_lt (Nat.div_le_self _ _) (by omega)
  have h := (bits_nat .u8 8 (by decide) wraps_u8 (a / 2 ^ j) 1 hlt (by decide)).1
  unfold bitB
  rw [e]
  have e1 : (1 : Int) = ((1 : Nat) : Int) := rfl
  rw [e1, h, Nat.testBit_eq_decide_div_mod_eq, Nat.and_one_is_mod]
  rw [Bool.eq_iff_iff]
  simp
  omega

theorem or_nat (a b : Nat) (ha : a < 256) (hb : b < 256) : bits .or .u8 (a : Int) (b : Int) = ((a ||| b : Nat) : Int) ∧ a ||| b < 256 :=
  ⟨(bits_nat .u8 8 (by decide) wraps_u8 a b (by omega) (by omega)).2, Nat.or_lt_two_pow (n := 8) ha hb⟩

theorem orTo_nat (xs : List Int) (os : List Bool) (hx : ∀ x ∈ xs, 0 ≤ x ∧ x ≤ 255) (k : Nat) :
    ∃ a : Nat, a < 256 ∧ orTo xs os k = (a : Int) ∧ ∀ j, a.testBit j = true ↔ ∃ i x, i < k ∧ xs[i]? = some x ∧ os[i]? = some true ∧ bitB x j = true := by
  induction k with
  | zero =>
    refine ⟨0, by decide, rfl, fun j => ?_⟩
    rw [Nat.zero_testBit]
    constructor
    · intro h; cases h
    · rintro ⟨i, x, h, _⟩; omega
  | succ k ih =>
    obtain ⟨a, ha, he, ht⟩ := ih
    by_cases ho : os[k]? = some true
    · cases hxk : xs[k]? with
      | none =>
        have h0 := or_nat a 0 ha (by decide)
        refine ⟨a ||| 0, h0.2, ?_, fun j => ?_⟩
        · simp only [orTo, ho, hxk, Option.getD_some, Option.getD_none, if_true, he]
          exact h0.1
        · rw [Nat.or_zero, ht j]
          constructor
          · rintro ⟨i, x, h, hr⟩; exact ⟨i, x, by omega, hr⟩
          · rintro ⟨i, x, h, h1, hr⟩
            refine ⟨i, x, ?_, h1, hr⟩
            have : i ≠ k := fun e => by subst e; rw [hxk] at h1; cases h1
            omega
      | some y =>
        have hy := hx y (List.mem_of_getElem? hxk)
        obtain ⟨b, rfl⟩ := Int.eq_ofNat_of_zero_le hy.1
        have hb : b < 256 := by omega
        have h0 := or_nat a b ha hb
        refine ⟨a ||| b, h0.2, ?_, fun j => ?_⟩
        · rw [orTo_on hxk ho, he]; exact h0.1
        · rw [Nat.testBit_or, Bool.or_eq_true, ht j]
          constructor
          · rintro (⟨i, x, h, hr⟩ | h)
            · exact ⟨i, x, by omega, hr⟩
            · exact ⟨k, _, by omega, hxk, ho, by rw [bitB_nat b j hb]; exact h⟩
          · rintro ⟨i, x, h, h1, h2, h3⟩
            by_cases e : i = k
            · subst e
              rw [hxk] at h1
              injection h1 with h1
              subst h1
              exact .inr (by rw [bitB_nat b j hb] at h3; exact h3)
            · exact .inl ⟨i, x, by omega, h1, h2, h3⟩
    · refine ⟨a, ha, ?_, fun j => ?_⟩
      · have : os[k]?.getD false = false := by
          cases hq : os[k]? with
          | none => rfl
          | some b => cases b with
            | true => exact absurd hq ho
            | false => rfl
        simp only [orTo, this]
        exact he
      · rw [ht j]
        constructor
        · rintro ⟨i, x, h, hr⟩; exact ⟨i, x, by omega, hr⟩
        · rintro ⟨i, x, h, h1, h2, hr⟩
          refine ⟨i, x, ?_, h1, h2, hr⟩
          have : i ≠ k := fun e => by subst e; exact ho h2
          omega

theorem orTo_bd (xs : List Int) (os : List Bool) (hx : ∀ x ∈ xs, 0 ≤ x ∧ x ≤ 255) (k : Nat) : 0 ≤ orTo xs os k ∧ orTo xs os k ≤ 255 := by
  obtain ⟨a, ha, he, _⟩ := orTo_nat xs os hx k
  omega

/-- the law: bit j of the byte is on just when some flag that is on has it -/
theorem orTo_bit (xs : List Int) (os : List Bool) (hx : ∀ x ∈ xs, 0 ≤ x ∧ x ≤ 255) (k j : Nat) :
    bitB (orTo xs os k) j = true ↔ ∃ i x, i < k ∧ xs[i]? = some x ∧ os[i]? = some true ∧ bitB x j = true := by
  obtain ⟨a, ha, he, ht⟩ := orTo_nat xs os hx k
  rw [he, bitB_nat a j ha]
  exact ht j
end Go.Proofs.Qxb6601055aMods
