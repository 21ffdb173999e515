import Derived.Test.Qxb6602069aModsRows
import Derived.WalkKit
import Derived.ProofKit
import Derived.OpenShut
import Derived.ShutString
import Derived.WalkSpells
import Derived.WalkLawsBesides
import Derived.Laws.BytesArg
namespace Go.Proofs.Qxb6602069aMods
open Go.RowKit

theorem tuck {p : Prop} (h : p) : Hid p := h
theorem grown_trans {a b c : World} (h1 : Grown a b) (h2 : Grown b c) : Grown a c :=
  ⟨World.keptBut_trans h1.1 h2.1, fun x => (h2.2.1 x).trans (h1.2.1 x), Nat.le_trans h1.2.2 h2.2.2⟩
theorem ret_u {a b : Int} (h : a = b) : Ending.returned (.int .u32 a) = .returned (.int .u32 b) := by rw [h]
theorem ret_b {a b : Bool} (h : a = b) : Ending.returned (.bool a) = .returned (.bool b) := by rw [h]

/-- the bytes of a day's text -/
def dayNums (n : Int) : List Int := [48 + n / 10000 / 1000, 48 + n / 10000 / 100 % 10, 48 + n / 10000 / 10 % 10, 48 + n / 10000 % 10, 45, 48 + n / 100 % 100 / 10, 48 + n / 100 % 10, 45, 48 + n % 100 / 10, 48 + n % 10]
def dayText (n : Int) : ByteArray := strOfNums (dayNums n)

set_option maxHeartbeats 1000000 in
theorem format_any (n : Int) (h0 : 0 ≤ n) (h1 : n < 100000000) (w : World) :
    Calls Trym.prog 20 #[.int .u32 n] w fun e w' => e = .returned (.string (dayText n)) ∧ Grown w w' := by
  have hmk : ∀ W, (Instr.makeSlice 22 (.int .i64 10) (.int .i64 10)).run Trym.prog W = .ok (.slice (some ⟨W.heap.size, 0, none⟩) 10 10) (W.alloc (.cells #[.int .u8 0, .int .u8 0, .int .u8 0, .int .u8 0, .int .u8 0, .int .u8 0, .int .u8 0, .int .u8 0, .int .u8 0, .int .u8 0] 5)) := fun _ => by kernel_rfl
  have hcv := run_convert_bytes_arg (P := Trym.prog) (w.alloc (.cells #[.int .u8 (48 + n / 10000 / 1000), .int .u8 (48 + n / 10000 / 100 % 10), .int .u8 (48 + n / 10000 / 10 % 10), .int .u8 (48 + n / 10000 % 10), .int .u8 45, .int .u8 (48 + n / 100 % 100 / 10), .int .u8 (48 + n / 100 % 10), .int .u8 45, .int .u8 (48 + n % 100 / 10), .int .u8 (48 + n % 10)] 5)) 22 5 Trym.underlying22 Trym.underlying5 w.heap.size 0 10 10 (dayNums n) rfl (by
    intro i hi
    rw [World.cell?_alloc_at _ _ _ _ rfl]
    match i, hi with
    | 0, _ => rfl
    | 1, _ => rfl
    | 2, _ => rfl
    | 3, _ => rfl
    | 4, _ => rfl
    | 5, _ => rfl
    | 6, _ => rfl
    | 7, _ => rfl
    | 8, _ => rfl
    | 9, _ => rfl) 9 Trym.underlying9
  change _ = Result.ok (Value.string (dayText n)) _ at hcv
  generalize dayText n = s at *
  go_enter Trym.func20, Trym.ntmps20
  go_wp2
  go_ret
  exact ⟨rfl, by repeat (first | exact Grown.refl _ | apply Grown.drew | apply Grown.alloc)⟩

set_option maxHeartbeats 2000000 in
theorem dayOf_any (s : ByteArray) (a b c d e f g h : Int) (hs : s.size = 10) (x0 : ((s[0]'(by omega)).toNat : Int) = 48 + a) (x1 : ((s[1]'(by omega)).toNat : Int) = 48 + b) (x2 : ((s[2]'(by omega)).toNat : Int) = 48 + c) (x3 : ((s[3]'(by omega)).toNat : Int) = 48 + d) (x4 : ((s[4]'(by omega)).toNat : Int) = 45) (x5 : ((s[5]'(by omega)).toNat : Int) = 48 + e) (x6 : ((s[6]'(by omega)).toNat : Int) = 48 + f) (x7 : ((s[7]'(by omega)).toNat : Int) = 45) (x8 : ((s[8]'(by omega)).toNat : Int) = 48 + g) (x9 : ((s[9]'(by omega)).toNat : Int) = 48 + h)
    (ha : 0 ≤ a ∧ a ≤ 9) (hb : 0 ≤ b ∧ b ≤ 9) (hc : 0 ≤ c ∧ c ≤ 9) (hd : 0 ≤ d ∧ d ≤ 9) (he : 0 ≤ e ∧ e ≤ 9) (hf : 0 ≤ f ∧ f ≤ 9) (hg : 0 ≤ g ∧ g ≤ 9) (hh : 0 ≤ h ∧ h ≤ 9) (w : World) :
    Calls Trym.prog 22 #[.string s] w fun en w' => en = .returned (.int .u32 (10 * (10 * (10 * (10 * (10 * (10 * (10 * (10 * 0 + a) + b) + c) + d) + e) + f) + g) + h)) ∧ w' = w := by
  go_enter Trym.func22, Trym.ntmps22
  go_wp2
  go_loop [3, 4] (fun t i => (i = .int .i64 0 ∧ t = .int .u32 0) ∨ (i = .int .i64 1 ∧ t = .int .u32 (10 * 0 + a)) ∨ (i = .int .i64 2 ∧ t = .int .u32 (10 * (10 * 0 + a) + b)) ∨ (i = .int .i64 3 ∧ t = .int .u32 (10 * (10 * (10 * 0 + a) + b) + c)) ∨ (i = .int .i64 4 ∧ t = .int .u32 (10 * (10 * (10 * (10 * 0 + a) + b) + c) + d)) ∨ (i = .int .i64 5 ∧ t = .int .u32 (10 * (10 * (10 * (10 * 0 + a) + b) + c) + d)) ∨ (i = .int .i64 6 ∧ t = .int .u32 (10 * (10 * (10 * (10 * (10 * 0 + a) + b) + c) + d) + e)) ∨ (i = .int .i64 7 ∧ t = .int .u32 (10 * (10 * (10 * (10 * (10 * (10 * 0 + a) + b) + c) + d) + e) + f)) ∨ (i = .int .i64 8 ∧ t = .int .u32 (10 * (10 * (10 * (10 * (10 * (10 * 0 + a) + b) + c) + d) + e) + f)) ∨ (i = .int .i64 9 ∧ t = .int .u32 (10 * (10 * (10 * (10 * (10 * (10 * (10 * 0 + a) + b) + c) + d) + e) + f) + g)) ∨ (i = .int .i64 10 ∧ t = .int .u32 (10 * (10 * (10 * (10 * (10 * (10 * (10 * (10 * 0 + a) + b) + c) + d) + e) + f) + g) + h))) (fun _ i => 10 - (intOf i).toNat)
  case atStart => exact .inl ⟨rfl, rfl⟩
  case round =>
    rcases hrel with ⟨rfl, rfl⟩ | ⟨rfl, rfl⟩ | ⟨rfl, rfl⟩ | ⟨rfl, rfl⟩ | ⟨rfl, rfl⟩ | ⟨rfl, rfl⟩ | ⟨rfl, rfl⟩ | ⟨rfl, rfl⟩ | ⟨rfl, rfl⟩ | ⟨rfl, rfl⟩ | ⟨rfl, rfl⟩
    · go_wp2
      go_round
      case rel => exact .inr (.inl ⟨rfl, by go_num⟩)
      case measure => simp [intOf]
    · go_wp2
      go_round
      case rel => exact .inr (.inr (.inl ⟨rfl, by go_num⟩))
      case measure => simp [intOf]
    · go_wp2
      go_round
      case rel => exact .inr (.inr (.inr (.inl ⟨rfl, by go_num⟩)))
      case measure => simp [intOf]
    · go_wp2
      go_round
      case rel => exact .inr (.inr (.inr (.inr (.inl ⟨rfl, by go_num⟩))))
      case measure => simp [intOf]
    · go_wp2
      go_round
      case rel => exact .inr (.inr (.inr (.inr (.inr (.inl ⟨rfl, by go_num⟩)))))
      case measure => simp [intOf]
    · go_wp2
      go_round
      case rel => exact .inr (.inr (.inr (.inr (.inr (.inr (.inl ⟨rfl, by go_num⟩))))))
      case measure => simp [intOf]
    · go_wp2
      go_round
      case rel => exact .inr (.inr (.inr (.inr (.inr (.inr (.inr (.inl ⟨rfl, by go_num⟩)))))))
      case measure => simp [intOf]
    · go_wp2
      go_round
      case rel => exact .inr (.inr (.inr (.inr (.inr (.inr (.inr (.inr (.inl ⟨rfl, by go_num⟩))))))))
      case measure => simp [intOf]
    · go_wp2
      go_round
      case rel => exact .inr (.inr (.inr (.inr (.inr (.inr (.inr (.inr (.inr (.inl ⟨rfl, by go_num⟩)))))))))
      case measure => simp [intOf]
    · go_wp2
      go_round
      case rel => exact .inr (.inr (.inr (.inr (.inr (.inr (.inr (.inr (.inr (.inr (⟨rfl, by go_num⟩))))))))))
      case measure => simp [intOf]
    · go_wp2
      go_ret
      exact ⟨rfl, rfl⟩

set_option maxHeartbeats 400000 in
theorem zzday_any (s : ByteArray) (v : Int) (w : World) (K : ∀ w, Calls Trym.prog 22 #[.string s] w fun en w' => en = .returned (.int .u32 v) ∧ w' = w) :
    Calls Trym.prog 16 #[.string s] w fun en w' => en = .returned (.int .u32 v) ∧ w' = w := by
  have KH := tuck K
  clear K
  go_enter Trym.func16, Trym.ntmps16
  go_wp2_with fail
  refine (KH.out _).mono ?_
  rintro e w1 ⟨rfl, rfl⟩
  go_wp2
  go_ret
  exact ⟨rfl, rfl⟩

/-- byte j of a text of numbers -/
theorem num_at (xs : List Int) (j : Nat) (x : Int) (h : xs[j]? = some x) (hb : 0 ≤ x ∧ x ≤ 255) (hj : j < (strOfNums xs).size) : (((strOfNums xs)[j]'hj).toNat : Int) = x := by
  have e : (strOfNums xs)[j]'hj = UInt8.ofNat x.toNat := by
    have : (strOfNums xs).data.toList[j]? = some (UInt8.ofNat x.toNat) := by rw [strOfNums_data, List.getElem?_map, h]; rfl
    have h2 : (strOfNums xs)[j]'hj = (strOfNums xs).data.toList[j]'hj := rfl
    rw [h2]
    exact (List.getElem?_eq_some_iff.1 this).2
  rw [e, UInt8.toNat_ofNat']
  omega

set_option maxHeartbeats 400000 in
theorem day_walk (n : Int) (h0 : 0 ≤ n) (w : World) : Calls Trym.prog 8 #[.int .u32 n] w fun e w' => e = .returned (.bool true) ∧ Grown w w' := by
  by_cases h1 : 100000000 ≤ n
  · go_enter Trym.func8, Trym.ntmps8
    go_wp2
    go_ret
    exact ⟨rfl, Grown.refl _⟩
  have KT := tuck (fun w => format_any n h0 (by omega) w)
  have KV := tuck (fun w => zzday_any (dayText n) n w (fun w => by
    have hv := dayOf_any (dayText n) (n / 10000 / 1000) (n / 10000 / 100 % 10) (n / 10000 / 10 % 10) (n / 10000 % 10) (n / 100 % 100 / 10) (n / 100 % 10) (n % 100 / 10) (n % 10) rfl
      (num_at _ 0 _ rfl (by omega) _) (num_at _ 1 _ rfl (by omega) _) (num_at _ 2 _ rfl (by omega) _) (num_at _ 3 _ rfl (by omega) _) (num_at _ 4 _ rfl (by omega) _) (num_at _ 5 _ rfl (by omega) _) (num_at _ 6 _ rfl (by omega) _) (num_at _ 7 _ rfl (by omega) _) (num_at _ 8 _ rfl (by omega) _) (num_at _ 9 _ rfl (by omega) _)
      (by omega) (by omega) (by omega) (by omega) (by omega) (by omega) (by omega) (by omega) w
    refine hv.mono ?_
    rintro e w' ⟨rfl, rfl⟩
    exact ⟨ret_u (by omega), rfl⟩))
  generalize dayText n = s at *
  go_enter Trym.func8, Trym.ntmps8
  go_wp2_with fail
  refine (KT.out _).mono ?_
  rintro e w1 ⟨rfl, hg1⟩
  go_wp2_with fail
  refine (KV.out _).mono ?_
  rintro e w2 ⟨rfl, hw⟩
  subst hw
  go_wp2
  go_ret
  exact ⟨ret_b (by simp), hg1⟩
end Go.Proofs.Qxb6602069aMods
