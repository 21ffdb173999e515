import Derived.Test.Qxb6601530aModsRec5
namespace Go.Proofs.Qxb6601530aMods
open Go.RowKit
open Extern.Stop (cell)

theorem info5s : Option.map (fun x => x.size) (Trym.prog.info? 5) = some 1 := by kernel_rfl
theorem eq49 (i j : List UInt8) (hi : i.length = 32) (hj : j.length = 32) (b : Bool) (hb : (i == j) = b) (w : World) : (Op.equalIn 10000 49 (.agg (i.map cell).toArray) (.agg (j.map cell).toArray)).run Trym.prog w = .ok b w := by
  rw [← hb]
  exact run_equalIn_bytes w 9998 49 5 32 Trym.underlying49 Trym.underlying5 (fun w => by
    obtain ⟨i, h1, h2⟩ := Option.map_eq_some_iff.1 info5s
    simp [sizeOf, typeInfo, h1, h2]) i j hi hj
theorem neq49_self (d : List UInt8) (h : d.length = 32) (w : World) : (binOp .neq 49 (.agg (hCells d).toArray) (.agg (hCells d).toArray)).run Trym.prog w = .ok (.bool false) w := by
  unfold hCells
  rw [run_neq_struct, eq49 d d h h true (by simp) w]
  rfl
theorem eql49_self (d : List UInt8) (h : d.length = 32) (w : World) : (binOp .eql 49 (.agg (hCells d).toArray) (.agg (hCells d).toArray)).run Trym.prog w = .ok (.bool true) w := by
  unfold hCells
  rw [run_eql_struct, eq49 d d h h true (by simp) w]
  rfl

set_option maxHeartbeats 1000000 in
theorem same23_nil (w : World) : Calls Trym.prog 23 #[.slice none 0 0, .slice none 0 0] w fun e w' => e = .returned (.bool true) ∧ Below w.heap.size w w' := by
  have hnil : ∀ W, (binOp .eql 52 (.slice none 0 0) (.slice none 0 0)).run Trym.prog W = .ok (.bool true) W := fun W => Lib.run_eql_slice_nil W 52 49 none 0 0 0 0 Trym.underlying52
  go_enter Trym.func23, Trym.ntmps23
  go_wp2
  go_loop [5] (fun i => i = .int .i64 0) (fun _ => 0)
  case atStart => rfl
  case round =>
    subst hrel
    go_wp2
    go_ret
    exact ⟨rfl, Below.refl _ _⟩

abbrev HeldH (g o : Nat) (H : List Value) (wx : World) : Prop := wx.rangeAt g o H

set_option maxRecDepth 100000 in
set_option maxHeartbeats 2000000 in
theorem same23_some (ad : Addr) (m c : Nat) (hs : List (List UInt8)) (w : World) (h : HVp (fun g => g < w.heap.size) w (some ad) m hs) (hm : m ≤ 1048576) :
    Calls Trym.prog 23 #[.slice (some ad) m c, .slice (some ad) m c] w fun e w' => e = .returned (.bool true) ∧ Below w.heap.size w w' := by
  have hnil : ∀ W, (binOp .eql 52 (.slice (some ad) m c) (.slice none 0 0)).run Trym.prog W = .ok (.bool false) W := fun W => Lib.run_eql_slice_nil W 52 49 (some ad) m c 0 0 Trym.underlying52
  have KS := keep h
  clear h
  go_enter Trym.func23, Trym.ntmps23
  go_wp2
  clear hnil
  go_loopw [5] (fun i wr => ∃ (k nq : Nat), k ≤ m ∧ i = .int .i64 k ∧ wr = w.drewN nq) (fun i _ => m - (intOf i).toNat)
  case atStart => exact ⟨0, 0, Nat.zero_le _, rfl, rfl⟩
  case round =>
    obtain ⟨k, nq, hk, rfl, rfl⟩ := hrel
    by_cases hlt : k < m
    · obtain ⟨d, g, o, hd, hdl, hq, hg, hr⟩ := KS.out.at k hlt
      injection hq with hq
      subst hq
      have KH := keep (show HeldH g (o + k * 32) (hCells d) (w.drewN nq).drew from hr)
      have I1 : Option.map (fun x => x.size) (Trym.prog.info? 49) = some (hCells d).length := by rw [hCells_len hdl]; exact info49s
      have hneq := neq49_self d hdl
      have hlti : (k : Int) < (m : Int) := by omega
      clear hd hdl hr
      generalize hCells d = H at *
      go_wp2_with fail
      refine wp_region_held_drew (S := HeldH g (o + k * 32) H) (by kernel_rfl) KH.out (fun hHeld => ?_)
      refine wpAnyH_take (i := 0) (oi := { dst := some 22, op := .move (.tmp 0), type := 52, pos := "laws_root_b1.go:153", after := #[], guard := none }) (v := (.slice (some ⟨g, o, none⟩) m c)) rfl (by kernel_rfl) (by kernel_rfl) (by kernel_rfl) (fun _ _ _ h => h) (Or.inl ⟨by rfl, ?_⟩) hHeld ?_
      · intro w hSw; go_simp
      simp only [Act.put, List.setIfInBounds_toArray, List.set_cons_zero, List.set_cons_succ]
      refine wpAnyH_take (i := 1) (oi := { dst := some 23, op := .move (.tmp 5), type := 3, pos := "laws_root_b1.go:153", after := #[], guard := none }) (v := (.int .i64 k)) rfl (by kernel_rfl) (by kernel_rfl) (by kernel_rfl) (fun _ _ _ h => h) (Or.inl ⟨by rfl, ?_⟩) hHeld ?_
      · intro w hSw; go_simp
      simp only [Act.put, List.setIfInBounds_toArray, List.set_cons_zero, List.set_cons_succ]
      refine wpAnyH_take (i := 2) (oi := { dst := some 24, op := .indexAddr 52 (.tmp 22) (.tmp 23), type := 0, pos := "laws_root_b1.go:153", after := #[{ on := 0, ground := .data }, { on := 1, ground := .data }], guard := none }) (v := (.pointer (some ⟨g, o + k * 32, none⟩))) rfl (by kernel_rfl) (by kernel_rfl) (by kernel_rfl) (fun _ _ _ h => h) (Or.inl ⟨by rfl, ?_⟩) hHeld ?_
      · intro w hSw; go_simp
      simp only [Act.put, List.setIfInBounds_toArray, List.set_cons_zero, List.set_cons_succ]
      refine wpAnyH_take (i := 3) (oi := { dst := some 25, op := .load 49 (.tmp 24), type := 49, pos := "laws_root_b1.go:153", after := #[{ on := 2, ground := .data }], guard := none }) (v := (.agg H.toArray)) rfl (by kernel_rfl) (by kernel_rfl) (by kernel_rfl) (fun _ _ _ h => h) (yieldsIf_load_mid rfl 49 (.tmp 24) rfl g (o + k * 32) rfl H _ (fun _ h => h) Trym.underlying49 rfl I1) hHeld ?_
      simp only [Act.put, List.setIfInBounds_toArray, List.set_cons_zero, List.set_cons_succ]
      refine wpAnyH_take (i := 4) (oi := { dst := some 26, op := .move (.tmp 1), type := 52, pos := "laws_root_b1.go:153", after := #[], guard := none }) (v := (.slice (some ⟨g, o, none⟩) m c)) rfl (by kernel_rfl) (by kernel_rfl) (by kernel_rfl) (fun _ _ _ h => h) (Or.inl ⟨by rfl, ?_⟩) hHeld ?_
      · intro w hSw; go_simp
      simp only [Act.put, List.setIfInBounds_toArray, List.set_cons_zero, List.set_cons_succ]
      refine wpAnyH_take (i := 5) (oi := { dst := some 27, op := .move (.tmp 5), type := 3, pos := "laws_root_b1.go:153", after := #[], guard := none }) (v := (.int .i64 k)) rfl (by kernel_rfl) (by kernel_rfl) (by kernel_rfl) (fun _ _ _ h => h) (Or.inl ⟨by rfl, ?_⟩) hHeld ?_
      · intro w hSw; go_simp
      simp only [Act.put, List.setIfInBounds_toArray, List.set_cons_zero, List.set_cons_succ]
      refine wpAnyH_take (i := 6) (oi := { dst := some 28, op := .indexAddr 52 (.tmp 26) (.tmp 27), type := 0, pos := "laws_root_b1.go:153", after := #[{ on := 4, ground := .data }, { on := 5, ground := .data }], guard := none }) (v := (.pointer (some ⟨g, o + k * 32, none⟩))) rfl (by kernel_rfl) (by kernel_rfl) (by kernel_rfl) (fun _ _ _ h => h) (Or.inl ⟨by rfl, ?_⟩) hHeld ?_
      · intro w hSw; go_simp
      simp only [Act.put, List.setIfInBounds_toArray, List.set_cons_zero, List.set_cons_succ]
      refine wpAnyH_take (i := 7) (oi := { dst := some 29, op := .load 49 (.tmp 28), type := 49, pos := "laws_root_b1.go:153", after := #[{ on := 6, ground := .data }], guard := none }) (v := (.agg H.toArray)) rfl (by kernel_rfl) (by kernel_rfl) (by kernel_rfl) (fun _ _ _ h => h) (yieldsIf_load_mid rfl 49 (.tmp 28) rfl g (o + k * 32) rfl H _ (fun _ h => h) Trym.underlying49 rfl I1) hHeld ?_
      simp only [Act.put, List.setIfInBounds_toArray, List.set_cons_zero, List.set_cons_succ]
      refine wpAnyH_take (i := 8) (oi := { dst := some 30, op := .binOp .neq 49 (.tmp 25) (.tmp 29) 49, type := 4, pos := "laws_root_b1.go:153", after := #[{ on := 3, ground := .data }, { on := 7, ground := .data }], guard := none }) (v := (.bool false)) rfl (by kernel_rfl) (by kernel_rfl) (by kernel_rfl) (fun _ _ _ h => h) (Or.inl ⟨by rfl, ?_⟩) hHeld ?_
      · intro w hSw; go_simp
      simp only [Act.put, List.setIfInBounds_toArray, List.set_cons_zero, List.set_cons_succ]
      refine wpAnyH_done (by kernel_rfl) ?_ _
      clear hneq I1
      go_wp2_with fail
      go_roundw
      case rel => exact ⟨k + 1, nq + 1, by omega, by go_num, rfl⟩
      case measure => simp [intOf]; omega
    · obtain rfl : k = m := by omega
      go_wp2
      go_ret
      exact ⟨rfl, below_drewN (Below.refl _ _) nq⟩

theorem same23_any (q : Option Addr) (m c : Nat) (hs : List (List UInt8)) (w : World) (h : HVp (fun g => g < w.heap.size) w q m hs) (hq : q = none → m = 0 ∧ c = 0) (hm : m ≤ 1048576) :
    Calls Trym.prog 23 #[.slice q m c, .slice q m c] w fun e w' => e = .returned (.bool true) ∧ Below w.heap.size w w' := by
  cases q with
  | some ad => exact same23_some ad m c hs w h hm
  | none =>
    obtain ⟨rfl, rfl⟩ := hq rfl
    exact same23_nil w
end Go.Proofs.Qxb6601530aMods
