import Derived.Test.Qxb6601427aModsSv
namespace Go.Proofs.Qxb6601427aMods
open Go.RowKit

theorem Trym.info9 : (Trym.prog.info? 9).map (fun i => (i.zero, i.size, i.bytes)) = some (some (.string ByteArray.empty), 1, 16) := by kernel_rfl

set_option maxHeartbeats 400000 in
theorem clone17_nil (w : World) : Calls Trym.prog 17 #[.slice none 0 0] w fun e w' => e = .returned (.slice none 0 0) ∧ w' = w := by
  have hnil : ∀ W, (binOp .eql 31 (.slice none 0 0) (.slice none 0 0)).run Trym.prog W = .ok (.bool true) W := fun W => Lib.run_eql_slice_nil W 31 9 none 0 0 0 0 Trym.underlying31
  go_enter Trym.func17, Trym.ntmps17
  go_wp2
  go_ret
  exact ⟨rfl, rfl⟩

set_option maxHeartbeats 400000 in
theorem clone17_some (ad : Addr) (n c : Nat) (xs : List ByteArray) (w : World) (h : SV w.heap.size w (some ad) n (xs.map (Value.string))) (hn : n ≤ 1048576) :
    Calls Trym.prog 17 #[.slice (some ad) n c] w fun e w' => Copied w 9 (some ad) n (xs.map (Value.string)) e w' := by
  have hl : (xs.map (Value.string)).length = n := h.1
  have hnil : ∀ W, (binOp .eql 31 (.slice (some ad) n c) (.slice none 0 0)).run Trym.prog W = .ok (.bool false) W := fun W => Lib.run_eql_slice_nil W 31 9 (some ad) n c 0 0 Trym.underlying31
  have hmk := fun W => run_make_row' (P := Trym.prog) 31 9 (.string ByteArray.empty) 16 Trym.underlying31 Trym.info9 rfl .i64 .i64 n (by omega) (by omega) W
  have hmz := size_madeCells #[.string ByteArray.empty] n
  have KC := keep (copied_made w 9 (some ad) n (xs.map (Value.string)) hl (by unfold maxLen; omega) (by simp))
  have KF := keep (fillTo_all (madeCells #[.string ByteArray.empty] n) (xs.map (Value.string)) (by rw [hmz, hl]))
  have KS := keep h
  rw [hl] at KF
  clear h
  go_enter Trym.func17, Trym.ntmps17
  go_wp2
  generalize madeCells #[.string ByteArray.empty] n = z at *
  clear hmk hnil
  go_loopw [4] (fun i wr => ∃ k : Nat, k ≤ n ∧ i = .int .i64 k ∧ wr = w.alloc (.cells (fillTo z (xs.map (Value.string)) k) 9)) (fun i _ => n - (intOf i).toNat)
  case atStart => exact ⟨0, Nat.zero_le _, rfl, rfl⟩
  case round =>
    obtain ⟨k, hk, rfl, rfl⟩ := hrel
    by_cases hlt : k < n
    · obtain ⟨g, o, x, hx, hq, hg, hc⟩ := KS.out.at k hlt
      injection hq with hq
      subst hq
      have H1 := keep (fillTo_succ z (xs.map (Value.string)) k (.string x) (by simp [hx]))
      have hfs := fillTo_size z (xs.map (Value.string)) k
      rw [hmz] at hfs
      generalize fillTo z (xs.map (Value.string)) k = cc at *
      obtain ⟨old, hold⟩ : ∃ old, cc[k]? = some old := ⟨_, Array.getElem?_eq_getElem (by omega)⟩
      clear hx
      go_wp2
      go_roundw
      case rel => exact ⟨k + 1, by omega, by go_num, by rw [H1.out]⟩
      case measure => simp [intOf]; omega
    · obtain rfl : k = n := by omega
      rw [KF.out]
      have KC' := KC
      generalize (xs.map (Value.string)).toArray = arr at *
      go_wp2
      go_ret
      exact KC'.out

theorem clone17_any (q : Option Addr) (n c : Nat) (xs : List ByteArray) (w : World) (h : SV w.heap.size w q n (xs.map (Value.string))) (hq : q = none → n = 0 ∧ c = 0) (hn : n ≤ 1048576) :
    Calls Trym.prog 17 #[.slice q n c] w fun e w' => Copied w 9 q n (xs.map (Value.string)) e w' := by
  cases q with
  | some ad => exact clone17_some ad n c xs w h hn
  | none =>
    obtain ⟨rfl, rfl⟩ := hq rfl
    have hx : xs = [] := by have := h.1; simpa using this
    subst hx
    refine (clone17_nil w).mono ?_
    rintro e w' ⟨rfl, rfl⟩
    exact copied_nil _ _ _ rfl

theorem Trym.info5 : (Trym.prog.info? 5).map (fun i => (i.zero, i.size, i.bytes)) = some (some (.int .u8 0), 1, 1) := by kernel_rfl

set_option maxHeartbeats 400000 in
theorem clone19_nil (w : World) : Calls Trym.prog 19 #[.slice none 0 0] w fun e w' => e = .returned (.slice none 0 0) ∧ w' = w := by
  have hnil : ∀ W, (binOp .eql 33 (.slice none 0 0) (.slice none 0 0)).run Trym.prog W = .ok (.bool true) W := fun W => Lib.run_eql_slice_nil W 33 5 none 0 0 0 0 Trym.underlying33
  go_enter Trym.func19, Trym.ntmps19
  go_wp2
  go_ret
  exact ⟨rfl, rfl⟩

set_option maxHeartbeats 400000 in
theorem clone19_some (ad : Addr) (n c : Nat) (xs : List Int) (w : World) (h : SV w.heap.size w (some ad) n (xs.map (Value.int .u8))) (hn : n ≤ 1048576) :
    Calls Trym.prog 19 #[.slice (some ad) n c] w fun e w' => Copied w 5 (some ad) n (xs.map (Value.int .u8)) e w' := by
  have hl : (xs.map (Value.int .u8)).length = n := h.1
  have hnil : ∀ W, (binOp .eql 33 (.slice (some ad) n c) (.slice none 0 0)).run Trym.prog W = .ok (.bool false) W := fun W => Lib.run_eql_slice_nil W 33 5 (some ad) n c 0 0 Trym.underlying33
  have hmk := fun W => run_make_row' (P := Trym.prog) 33 5 (.int .u8 0) 1 Trym.underlying33 Trym.info5 rfl .i64 .i64 n (by omega) (by omega) W
  have hmz := size_madeCells #[.int .u8 0] n
  have KC := keep (copied_made w 5 (some ad) n (xs.map (Value.int .u8)) hl (by unfold maxLen; omega) (by simp))
  have KF := keep (fillTo_all (madeCells #[.int .u8 0] n) (xs.map (Value.int .u8)) (by rw [hmz, hl]))
  have KS := keep h
  rw [hl] at KF
  clear h
  go_enter Trym.func19, Trym.ntmps19
  go_wp2
  generalize madeCells #[.int .u8 0] n = z at *
  clear hmk hnil
  go_loopw [4] (fun i wr => ∃ k : Nat, k ≤ n ∧ i = .int .i64 k ∧ wr = w.alloc (.cells (fillTo z (xs.map (Value.int .u8)) k) 5)) (fun i _ => n - (intOf i).toNat)
  case atStart => exact ⟨0, Nat.zero_le _, rfl, rfl⟩
  case round =>
    obtain ⟨k, hk, rfl, rfl⟩ := hrel
    by_cases hlt : k < n
    · obtain ⟨g, o, x, hx, hq, hg, hc⟩ := KS.out.at k hlt
      injection hq with hq
      subst hq
      have H1 := keep (fillTo_succ z (xs.map (Value.int .u8)) k (.int .u8 x) (by simp [hx]))
      have hfs := fillTo_size z (xs.map (Value.int .u8)) k
      rw [hmz] at hfs
      generalize fillTo z (xs.map (Value.int .u8)) k = cc at *
      obtain ⟨old, hold⟩ : ∃ old, cc[k]? = some old := ⟨_, Array.getElem?_eq_getElem (by omega)⟩
      clear hx
      go_wp2
      go_roundw
      case rel => exact ⟨k + 1, by omega, by go_num, by rw [H1.out]⟩
      case measure => simp [intOf]; omega
    · obtain rfl : k = n := by omega
      rw [KF.out]
      have KC' := KC
      generalize (xs.map (Value.int .u8)).toArray = arr at *
      go_wp2
      go_ret
      exact KC'.out

theorem clone19_any (q : Option Addr) (n c : Nat) (xs : List Int) (w : World) (h : SV w.heap.size w q n (xs.map (Value.int .u8))) (hq : q = none → n = 0 ∧ c = 0) (hn : n ≤ 1048576) :
    Calls Trym.prog 19 #[.slice q n c] w fun e w' => Copied w 5 q n (xs.map (Value.int .u8)) e w' := by
  cases q with
  | some ad => exact clone19_some ad n c xs w h hn
  | none =>
    obtain ⟨rfl, rfl⟩ := hq rfl
    have hx : xs = [] := by have := h.1; simpa using this
    subst hx
    refine (clone19_nil w).mono ?_
    rintro e w' ⟨rfl, rfl⟩
    exact copied_nil _ _ _ rfl

end Go.Proofs.Qxb6601427aMods
