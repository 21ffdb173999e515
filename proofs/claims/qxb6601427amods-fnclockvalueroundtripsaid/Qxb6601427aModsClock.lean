import Derived.Test.Qxb6601427aModsRows
import Derived.WalkKit
import Derived.ProofKit
import Derived.OpenShut
import Derived.ShutString
import Derived.WalkSpells
import Derived.WalkLawsBesides
import Derived.Laws.BytesArg
import Derived.Laws.Concat
import Derived.Deep.QuietTactic
import Derived.BigQuiet
namespace Go.Proofs.Qxb6601427aMods
open Go.RowKit

theorem tuck {p : Prop} (h : p) : Hid p := h

theorem grown_trans {a b c : World} (h1 : Grown a b) (h2 : Grown b c) : Grown a c :=
  ⟨World.keptBut_trans h1.1 h2.1, fun x => (h2.2.1 x).trans (h1.2.1 x), Nat.le_trans h1.2.2 h2.2.2⟩
theorem grown_drewN {W w' : World} (h : Grown W w') (n : Nat) : Grown W (w'.drewN n) := h

/-- two digits -/
def two (n : Int) : ByteArray := strOfNums [48 + n / 10, 48 + n % 10]

set_option maxHeartbeats 400000 in
theorem two_any (n : Int) (h0 : 0 ≤ n) (h1 : n < 100) (w : World) :
    Calls Trym.prog 27 #[.int .i64 n] w fun e w' => e = .returned (.string (two n)) ∧ Grown w w' := by
  have hmk : ∀ W, (Instr.makeSlice 33 (.int .i64 2) (.int .i64 2)).run Trym.prog W = .ok (.slice (some ⟨W.heap.size, 0, none⟩) 2 2) (W.alloc (.cells #[.int .u8 0, .int .u8 0] 5)) := fun _ => by kernel_rfl
  have hcv := run_convert_bytes_arg (P := Trym.prog) (w.alloc (.cells #[.int .u8 (48 + n / 10), .int .u8 (48 + n % 10)] 5)) 33 5 Trym.underlying33 Trym.underlying5 w.heap.size 0 2 2 [48 + n / 10, 48 + n % 10] rfl (by
    intro i hi
    rw [World.cell?_alloc_at _ _ _ _ rfl]
    match i, hi with
    | 0, _ => rfl
    | 1, _ => rfl) 9 Trym.underlying9
  change _ = Result.ok (Value.string (two n)) _ at hcv
  generalize two n = s at *
  go_enter Trym.func27, Trym.ntmps27
  go_wp2
  go_ret
  exact ⟨rfl, by repeat (first | exact Grown.refl _ | apply Grown.drew | apply Grown.alloc)⟩

theorem two_size (n : Int) : (two n).size = 2 := rfl

/-- the text of a time of day -/
def hms (v : Int) : ByteArray := two (v / 3600) ++ ⟨#[58]⟩ ++ two (v / 60 % 60) ++ ⟨#[58]⟩ ++ two (v % 60)

set_option maxHeartbeats 400000 in
theorem text_any (v : Int) (h0 : 0 ≤ v) (h1 : v < 86400) (w : World) :
    Calls Trym.prog 11 #[.int .i64 v] w fun e w' => e = .returned (.string (hms v)) ∧ Grown w w' := by
  have K1 := tuck (fun w => two_any (v / 3600) (by omega) (by omega) w)
  have K2 := tuck (fun w => two_any (v / 60 % 60) (by omega) (by omega) w)
  have K3 := tuck (fun w => two_any (v % 60) (by omega) (by omega) w)
  have KH := tuck (show hms v = two (v / 3600) ++ ⟨#[58]⟩ ++ two (v / 60 % 60) ++ ⟨#[58]⟩ ++ two (v % 60) from rfl)
  have s1 := two_size (v / 3600)
  have s2 := two_size (v / 60 % 60)
  have s3 := two_size (v % 60)
  generalize two (v / 3600) = a at *
  generalize two (v / 60 % 60) = b at *
  generalize two (v % 60) = c at *
  go_enter Trym.func11, Trym.ntmps11
  go_wp2_with fail
  refine (K1.out _).mono ?_
  rintro e w1 ⟨rfl, hg1⟩
  go_wp2_with fail
  refine (K2.out _).mono ?_
  rintro e w2 ⟨rfl, hg2⟩
  go_wp2_with fail
  refine (K3.out _).mono ?_
  rintro e w3 ⟨rfl, hg3⟩
  go_wp2
  go_ret
  exact ⟨by rw [KH.out]; rfl, grown_trans hg1 (grown_trans hg2 hg3)⟩

theorem ret_two {a b : Int} {c : Bool} (h : a = b) : Ending.returned (.tuple #[.int .i64 a, .bool c]) = .returned (.tuple #[.int .i64 b, .bool c]) := by rw [h]
theorem ret_b {a b : Bool} (h : a = b) : Ending.returned (.bool a) = .returned (.bool b) := by rw [h]

set_option maxHeartbeats 1000000 in
theorem value_any (s : ByteArray) (a b c d e f : Int) (hs : s.size = 8)
    (x0 : ((s[0]'(by omega)).toNat : Int) = 48 + a) (x1 : ((s[1]'(by omega)).toNat : Int) = 48 + b) (x2 : ((s[2]'(by omega)).toNat : Int) = 58)
    (x3 : ((s[3]'(by omega)).toNat : Int) = 48 + c) (x4 : ((s[4]'(by omega)).toNat : Int) = 48 + d) (x5 : ((s[5]'(by omega)).toNat : Int) = 58)
    (x6 : ((s[6]'(by omega)).toNat : Int) = 48 + e) (x7 : ((s[7]'(by omega)).toNat : Int) = 48 + f)
    (ha : 0 ≤ a ∧ a ≤ 9) (hb : 0 ≤ b ∧ b ≤ 9) (hc : 0 ≤ c ∧ c ≤ 9) (hd : 0 ≤ d ∧ d ≤ 9) (he : 0 ≤ e ∧ e ≤ 9) (hf : 0 ≤ f ∧ f ≤ 9)
    (h24 : a * 10 + b < 24) (h60 : c * 10 + d < 60) (g60 : e * 10 + f < 60) (w : World) :
    Calls Trym.prog 25 #[.string s] w fun en w' => en = .returned (.tuple #[.int .i64 ((a * 10 + b) * 3600 + (c * 10 + d) * 60 + (e * 10 + f)), .bool true]) ∧ Grown w w' := by
  go_enter Trym.func25, Trym.ntmps25
  go_wp2
  go_loopw [4, 25] (fun t i wr => ∃ nq : Nat, wr = (w.alloc (.cells #[.int .i64 24, .int .i64 60, .int .i64 60] 3)).drewN nq ∧ ((i = .int .i64 0 ∧ t = .int .i64 0) ∨ (i = .int .i64 1 ∧ t = .int .i64 (a * 10 + b)) ∨ (i = .int .i64 2 ∧ t = .int .i64 ((a * 10 + b) * 60 + (c * 10 + d))) ∨ (i = .int .i64 3 ∧ t = .int .i64 (((a * 10 + b) * 60 + (c * 10 + d)) * 60 + (e * 10 + f))))) (fun _ i _ => 3 - (intOf i).toNat)
  case atStart => exact ⟨0, rfl, .inl ⟨rfl, rfl⟩⟩
  case round =>
    obtain ⟨nq, rfl, hcase⟩ := hrel
    rcases hcase with ⟨rfl, rfl⟩ | ⟨rfl, rfl⟩ | ⟨rfl, rfl⟩ | ⟨rfl, rfl⟩
    · go_wp2
      go_quiet (fail)
      go_wp2
      go_roundw
      case rel => exact ⟨_, rfl, .inr (.inl ⟨rfl, by go_num⟩)⟩
      case measure => simp [intOf]
    · go_wp2
      go_quiet (fail)
      go_wp2
      go_roundw
      case rel => exact ⟨_, rfl, .inr (.inr (.inl ⟨rfl, by go_num⟩))⟩
      case measure => simp [intOf]
    · go_wp2
      go_quiet (fail)
      go_wp2
      go_roundw
      case rel => exact ⟨_, rfl, .inr (.inr (.inr ⟨rfl, by go_num⟩))⟩
      case measure => simp [intOf]
    · go_wp2
      go_ret2
      exact ⟨ret_two (by omega), grown_drewN ((Grown.refl _).alloc _ _) _⟩

set_option maxHeartbeats 400000 in
theorem zzvalue_any (s : ByteArray) (v : Int) (w : World) (K : ∀ w, Calls Trym.prog 25 #[.string s] w fun en w' => en = .returned (.tuple #[.int .i64 v, .bool true]) ∧ Grown w w') :
    Calls Trym.prog 9 #[.string s] w fun en w' => en = .returned (.tuple #[.int .i64 v, .bool true]) ∧ Grown w w' := by
  have KH := tuck K
  clear K
  go_enter Trym.func9, Trym.ntmps9
  go_wp2_with fail
  refine (KH.out _).mono ?_
  rintro e w1 ⟨rfl, hg⟩
  go_wp2
  go_ret2
  exact ⟨rfl, hg⟩

/-- byte j of a text of numbers -/
theorem num_at (xs : List Int) (j : Nat) (x : Int) (h : xs[j]? = some x) (hb : 0 ≤ x ∧ x ≤ 255) (hj : j < (strOfNums xs).size) : (((strOfNums xs)[j]'hj).toNat : Int) = x := by
  have e : (strOfNums xs)[j]'hj = UInt8.ofNat x.toNat := by
    have : (strOfNums xs).data.toList[j]? = some (UInt8.ofNat x.toNat) := by rw [strOfNums_data, List.getElem?_map, h]; rfl
    have h2 : (strOfNums xs)[j]'hj = (strOfNums xs).data.toList[j]'hj := rfl
    rw [h2]
    exact (List.getElem?_eq_some_iff.1 this).2
  rw [e, UInt8.toNat_ofNat']
  omega

theorem hms_nums (v : Int) : hms v = strOfNums [48 + v / 3600 / 10, 48 + v / 3600 % 10, 58, 48 + v / 60 % 60 / 10, 48 + v / 60 % 60 % 10, 58, 48 + v % 60 / 10, 48 + v % 60 % 10] := by
  apply ByteArray.ext
  simp only [hms, two, ByteArray.data_append]
  rfl

set_option maxHeartbeats 400000 in
theorem clock_walk (v : Int) (w : World) : Calls Trym.prog 4 #[.int .i64 v] w fun e w' => e = .returned (.bool true) ∧ Grown w w' := by
  by_cases h0 : v < 0
  · go_enter Trym.func4, Trym.ntmps4
    go_wp2
    go_ret
    exact ⟨rfl, Grown.refl _⟩
  by_cases h1 : 86400 ≤ v
  · go_enter Trym.func4, Trym.ntmps4
    go_wp2
    go_ret
    exact ⟨rfl, Grown.refl _⟩
  have KT := tuck (fun w => text_any v (by omega) (by omega) w)
  have KV := tuck (fun w => zzvalue_any (hms v) v w (fun w => by
    have hv := value_any (hms v) (v / 3600 / 10) (v / 3600 % 10) (v / 60 % 60 / 10) (v / 60 % 60 % 10) (v % 60 / 10) (v % 60 % 10) (by rw [hms_nums]; rfl)
      (by simp only [hms_nums]; exact num_at _ 0 _ rfl (by omega) _) (by simp only [hms_nums]; exact num_at _ 1 _ rfl (by omega) _) (by simp only [hms_nums]; exact num_at _ 2 _ rfl (by omega) _)
      (by simp only [hms_nums]; exact num_at _ 3 _ rfl (by omega) _) (by simp only [hms_nums]; exact num_at _ 4 _ rfl (by omega) _) (by simp only [hms_nums]; exact num_at _ 5 _ rfl (by omega) _)
      (by simp only [hms_nums]; exact num_at _ 6 _ rfl (by omega) _) (by simp only [hms_nums]; exact num_at _ 7 _ rfl (by omega) _)
      (by omega) (by omega) (by omega) (by omega) (by omega) (by omega) (by omega) (by omega) (by omega) w
    rw [show (v / 3600 / 10 * 10 + v / 3600 % 10) * 3600 + (v / 60 % 60 / 10 * 10 + v / 60 % 60 % 10) * 60 + (v % 60 / 10 * 10 + v % 60 % 10) = v by omega] at hv
    exact hv))
  generalize hms v = s at *
  go_enter Trym.func4, Trym.ntmps4
  go_wp2_with fail
  refine (KT.out _).mono ?_
  rintro e w1 ⟨rfl, hg1⟩
  go_wp2_with fail
  refine (KV.out _).mono ?_
  rintro e w2 ⟨rfl, hg2⟩
  go_wp2
  go_ret
  exact ⟨ret_b (by simp), grown_trans hg1 hg2⟩
end Go.Proofs.Qxb6601427aMods
