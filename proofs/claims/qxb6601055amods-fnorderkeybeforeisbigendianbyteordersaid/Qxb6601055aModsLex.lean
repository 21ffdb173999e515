import Derived.Test.Qxb6601055aModsBytes
import Derived.Deep.QuietTactic
import Derived.BigQuiet
namespace Go.Proofs.Qxb6601055aMods
open Go.RowKit

/-- byte by byte -/
def lexB : List Int → List Int → Bool
  | x :: xs, y :: ys => if (x != y) = true then decide (x < y) else lexB xs ys
  | _, _ => false

theorem lexB_ne (xs ys : List Int) (k : Nat) (x y : Int) (hx : xs[k]? = some x) (hy : ys[k]? = some y) (h : (x != y) = true) : lexB (xs.drop k) (ys.drop k) = decide (x < y) := by
  obtain ⟨h1, rfl⟩ := List.getElem?_eq_some_iff.1 hx
  obtain ⟨h2, rfl⟩ := List.getElem?_eq_some_iff.1 hy
  rw [List.drop_eq_getElem_cons h1, List.drop_eq_getElem_cons h2, lexB, if_pos h]

theorem lexB_eq (xs ys : List Int) (k : Nat) (x y : Int) (hx : xs[k]? = some x) (hy : ys[k]? = some y) (h : (x != y) = false) : lexB (xs.drop k) (ys.drop k) = lexB (xs.drop (k + 1)) (ys.drop (k + 1)) := by
  obtain ⟨h1, rfl⟩ := List.getElem?_eq_some_iff.1 hx
  obtain ⟨h2, rfl⟩ := List.getElem?_eq_some_iff.1 hy
  rw [List.drop_eq_getElem_cons h1, List.drop_eq_getElem_cons h2, lexB, if_neg (by rw [h]; decide)]

/-- the cells of a row of bytes -/
def cellsU8 (xs : List Int) : Array Value := (xs.map (Value.int .u8)).toArray

theorem cellsU8_at (xs : List Int) (k : Nat) (x : Int) (h : xs[k]? = some x) : (cellsU8 xs)[k]? = some (.int .u8 x) := by
  simp [cellsU8, h]

theorem grown_drewN {W w' : World} (h : Grown W w') (n : Nat) : Grown W (w'.drewN n) := h
theorem grown_2 (w : World) (a b : Array Value) (n : Nat) : Grown w (((w.alloc (.cells a 24)).alloc (.cells b 24)).drewN n) :=
  grown_drewN (((Grown.refl w).alloc a 24).alloc b 24) n

set_option maxHeartbeats 400000 in
theorem less_any (xs ys : List Int) (w : World) (hx : xs.length = 40) (hy : ys.length = 40) :
    Calls Trym.prog 10 #[.agg (cellsU8 xs), .agg (cellsU8 ys)] w fun e w' => e = .returned (.bool (lexB xs ys)) ∧ Grown w w' := by
  go_enter Trym.func10, Trym.ntmps10
  go_wp2
  go_loopw [5] (fun i wr => ∃ k nq : Nat, k ≤ 40 ∧ i = .int .i64 k ∧ lexB xs ys = lexB (xs.drop k) (ys.drop k) ∧ wr = ((w.alloc (.cells (cellsU8 xs) 24)).alloc (.cells (cellsU8 ys) 24)).drewN nq) (fun i _ => 40 - (intOf i).toNat)
  case atStart => exact ⟨0, 0, Nat.zero_le _, rfl, rfl, rfl⟩
  case round =>
    obtain ⟨k, nq, hk, rfl, hl, rfl⟩ := hrel
    have HL := tuck hl
    clear hl
    by_cases hlt : k < 40
    · have hlti : (k : Int) < 40 := by omega
      obtain ⟨x, hxk⟩ : ∃ x, xs[k]? = some x := ⟨_, List.getElem?_eq_getElem (by omega)⟩
      obtain ⟨y, hyk⟩ : ∃ y, ys[k]? = some y := ⟨_, List.getElem?_eq_getElem (by omega)⟩
      have HN := tuck (lexB_ne xs ys k x y hxk hyk)
      have HE := tuck (lexB_eq xs ys k x y hxk hyk)
      have cx := cellsU8_at xs k x hxk
      have cy := cellsU8_at ys k y hyk
      clear hxk hyk
      go_wp2
      go_quiet (fail)
      go_wp2
      · go_quiet (fail)
        go_wp2
        go_ret
        exact ⟨ret_bool (by rw [HL.out, HN.out ‹_›]), grown_drewN (grown_drewN (grown_2 _ _ _ _) _) _⟩
      · go_roundw
        case rel => exact ⟨k + 1, _, by omega, by go_num, by rw [HL.out, HE.out ‹_›], rfl⟩
        case measure => simp [intOf]; omega
    · obtain rfl : k = 40 := by omega
      have HZ : Hid (lexB (xs.drop 40) (ys.drop 40) = false) := by
        rw [List.drop_of_length_le (by omega)]; rfl
      go_wp2
      go_ret
      exact ⟨ret_bool (by rw [HL.out, HZ.out]), grown_2 _ _ _ _⟩

/-! ### The plain law -/
/-- n bytes of v, big-endian -/
def beN : Nat → Int → List Int
  | 0, _ => []
  | n + 1, v => beN n (v / 256) ++ [v % 256]

theorem lexB_beN (n : Nat) (a b : Int) (s t : List Int) (ha : 0 ≤ a ∧ a < 256 ^ n) (hb : 0 ≤ b ∧ b < 256 ^ n) :
    lexB (beN n a ++ s) (beN n b ++ t) = if (a != b) = true then decide (a < b) else lexB s t := by
  induction n generalizing a b s t with
  | zero =>
    have h1 : a = 0 := by have := ha.2; simp at this; omega
    have h2 : b = 0 := by have := hb.2; simp at this; omega
    subst h1 h2
    simp [beN]
  | succ n ih =>
    have e : (256 : Int) ^ (n + 1) = 256 ^ n * 256 := Int.pow_succ ..
    rw [e] at ha hb
    simp only [beN, List.append_assoc, List.cons_append, List.nil_append]
    rw [ih (a / 256) (b / 256) (a % 256 :: s) (b % 256 :: t) (by omega) (by omega)]
    by_cases h : a = b
    · subst h; simp [lexB]
    · have h' : (a != b) = true := by simpa using h
      rw [if_pos h']
      by_cases hq : a / 256 = b / 256
      · have : a % 256 ≠ b % 256 := by omega
        simp only [lexB]
        rw [if_neg (by simp [hq]), if_pos (by simpa using this)]
        rw [decide_eq_decide]; omega
      · rw [if_pos (by simpa using hq)]
        rw [decide_eq_decide]; omega

/-- eight bytes of v, big-endian, written out -/
def be8 (v : Int) : List Int := [v / 256 ^ 7 % 256, v / 256 ^ 6 % 256, v / 256 ^ 5 % 256, v / 256 ^ 4 % 256, v / 256 ^ 3 % 256, v / 256 ^ 2 % 256, v / 256 ^ 1 % 256, v / 256 ^ 0 % 256]

theorem be8_eq (v : Int) : be8 v = beN 8 v := by
  simp [be8, beN]
  omega

def encL (a0 a1 a2 a3 a4 : Int) : List Int := be8 a0 ++ (be8 a1 ++ (be8 a2 ++ (be8 a3 ++ (be8 a4 ++ []))))

theorem encL_len (a0 a1 a2 a3 a4 : Int) : (encL a0 a1 a2 a3 a4).length = 40 := rfl

theorem encArr_eq (a0 a1 a2 a3 a4 : Int) : encArr a0 a1 a2 a3 a4 = cellsU8 (encL a0 a1 a2 a3 a4) := by
  kernel_rfl

theorem lexB_bef (a0 a1 a2 a3 a4 b0 b1 b2 b3 b4 : Int) (g0 : 0 ≤ a0 ∧ a0 ≤ 18446744073709551615) (g1 : 0 ≤ a1 ∧ a1 ≤ 18446744073709551615) (g2 : 0 ≤ a2 ∧ a2 ≤ 18446744073709551615) (g3 : 0 ≤ a3 ∧ a3 ≤ 18446744073709551615) (g4 : 0 ≤ a4 ∧ a4 ≤ 18446744073709551615)
    (f0 : 0 ≤ b0 ∧ b0 ≤ 18446744073709551615) (f1 : 0 ≤ b1 ∧ b1 ≤ 18446744073709551615) (f2 : 0 ≤ b2 ∧ b2 ≤ 18446744073709551615) (f3 : 0 ≤ b3 ∧ b3 ≤ 18446744073709551615) (f4 : 0 ≤ b4 ∧ b4 ≤ 18446744073709551615) :
    lexB (encL a0 a1 a2 a3 a4) (encL b0 b1 b2 b3 b4) = bef a0 a1 a2 a3 a4 b0 b1 b2 b3 b4 := by
  have e : (256 : Int) ^ 8 = 18446744073709551616 := by decide
  have hb : ∀ x : Int, (0 ≤ x ∧ x ≤ 18446744073709551615) → 0 ≤ x ∧ x < 256 ^ 8 := fun x h => by rw [e]; omega
  simp only [encL, be8_eq]
  rw [lexB_beN 8 a0 b0 _ _ (hb _ g0) (hb _ f0), lexB_beN 8 a1 b1 _ _ (hb _ g1) (hb _ f1), lexB_beN 8 a2 b2 _ _ (hb _ g2) (hb _ f2), lexB_beN 8 a3 b3 _ _ (hb _ g3) (hb _ f3), lexB_beN 8 a4 b4 _ _ (hb _ g4) (hb _ f4)]
  simp only [bef]
  by_cases h : a4 = b4
  · subst h; simp [lexB]
  · rw [if_pos (show (a4 != b4) = true by simpa using h)]
end Go.Proofs.Qxb6601055aMods
