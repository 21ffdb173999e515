import Derived.Test.Qxb6601055aModsOrder
import Derived.WalkSpells
import Derived.WalkLawsBesides
import Derived.Laws.Bits64
namespace Go.Proofs.Qxb6601055aMods
open Go.RowKit

/-- the first n of the eight bytes of v, big-endian, laid into c from place p on: the last first -/
def putTo (c : Array Value) (p : Nat) (v : Int) : Nat → Array Value
  | 0 => c
  | k + 1 => (putTo c p v k).setIfInBounds (p + 7 - k) (.int .u8 (v / 256 ^ k % 256))

theorem putTo_size (c : Array Value) (p : Nat) (v : Int) (n : Nat) : (putTo c p v n).size = c.size := by
  induction n with
  | zero => rfl
  | succ k ih => simp [putTo, ih]

theorem and_255 (x : Int) (h0 : 0 ≤ x) (h1 : x < 18446744073709551616) : bits .and .u64 x 255 = x % 256 := by
  obtain ⟨a, rfl⟩ := Int.eq_ofNat_of_zero_le h0
  have ha : (BitVec.ofInt 64 (a : Int)).toNat = a := by
    rw [BitVec.ofInt_natCast, BitVec.toNat_ofNat]; exact Nat.mod_eq_of_lt (by omega)
  have hb : (BitVec.ofInt 64 (255 : Int)).toNat = 255 := by decide
  show IntKind.u64.wrap ((BitVec.ofInt 64 (a : Int) &&& BitVec.ofInt 64 (255 : Int)).toNat : Int) = _
  rw [BitVec.toNat_and, ha, hb, IntKind.wrap_u64]
  have e : a &&& 255 = a % 256 := Nat.and_two_pow_sub_one_eq_mod a 8
  rw [e]
  omega

theorem ret_end {a b : World} (h : a = b) : (Ending.returned (.tuple #[]) = Ending.returned (.tuple #[])) ∧ a = b := ⟨rfl, h⟩

theorem quot_bd (v : Int) (k : Nat) (h0 : 0 ≤ v) (h1 : v ≤ 18446744073709551615) : 0 ≤ v / 256 ^ k ∧ v / 256 ^ k < 18446744073709551616 := by
  have hp : (0 : Int) < 256 ^ k := Int.pow_pos (by decide)
  exact ⟨Int.ediv_nonneg h0 (by omega), by have := Int.ediv_le_self (256 ^ k) h0; omega⟩

theorem quot_succ (v : Int) (k : Nat) : v / 256 ^ (k + 1) = v / 256 ^ k / 256 := by
  rw [Int.pow_succ, Int.ediv_ediv_of_nonneg (Int.pow_nonneg (by decide))]

set_option maxHeartbeats 400000 in
theorem put_any (c : Array Value) (p : Nat) (v : Int) (w : World) (hc : c.size = 40) (hp : p ≤ 32) (h0 : 0 ≤ v) (h1 : v ≤ 18446744073709551615) :
    Calls Trym.prog 20 #[.pointer (some ⟨w.heap.size, 0, none⟩), .int .i64 p, .int .u64 v] (w.alloc (.cells c 24))
      fun e w' => e = .returned (.tuple #[]) ∧ w' = w.alloc (.cells (putTo c p v 8) 24) := by
  go_enter Trym.func20, Trym.ntmps20
  go_wp2
  go_loopw [2, 6] (fun x i wr => ∃ k : Nat, k ≤ 8 ∧ i = .int .i64 k ∧ x = .int .u64 (v / 256 ^ k) ∧ wr = w.alloc (.cells (putTo c p v k) 24)) (fun _ i _ => 8 - (intOf i).toNat)
  case atStart => exact ⟨0, Nat.zero_le _, rfl, by simp, rfl⟩
  case round =>
    obtain ⟨k, hk, rfl, rfl, rfl⟩ := hrel
    have hs := putTo_size c p v k
    rw [hc] at hs
    by_cases hlt : k < 8
    · have H1 : Hid (putTo c p v (k + 1) = (putTo c p v k).setIfInBounds (p + 7 - k) (.int .u8 (bits .and .u64 (v / 256 ^ k) 255 % 256))) := by
        have hq := quot_bd v k h0 h1
        show _ = _
        rw [and_255 _ hq.1 hq.2]
        simp only [putTo]
        congr 2
        omega
      have H2 : Hid (v / 256 ^ (k + 1) = v / 256 ^ k / 256) := quot_succ v k
      generalize putTo c p v k = c' at *
      generalize v / 256 ^ k = x at *
      obtain ⟨o, ho⟩ : ∃ o, c'[p + 7 - k]? = some o := ⟨_, Array.getElem?_eq_getElem (by omega)⟩
      go_wp2
      go_roundw
      case rel => exact ⟨k + 1, by omega, by go_num, by rw [H2.out], by rw [H1.out]⟩
      case measure => simp [intOf]; omega
    · obtain rfl : k = 8 := by omega
      go_wp2
      go_end0
      exact ret_end rfl

theorem tuck {p : Prop} (h : p) : Hid p := h

theorem put_at (p : Nat) (q : Int) (hq : q = p) (b : Nat) (w : World) (hb : b = w.heap.size) (c : Array Value) (v : Int) (hc : c.size = 40) (hp : p ≤ 32) (h0 : 0 ≤ v) (h1 : v ≤ 18446744073709551615) :
    Calls Trym.prog 20 #[.pointer (some ⟨b, 0, none⟩), .int .i64 q, .int .u64 v] (w.alloc (.cells c 24))
      fun e w' => e = .returned (.tuple #[]) ∧ w' = w.alloc (.cells (putTo c p v 8) 24) := by
  subst hq hb
  exact put_any c p v w hc hp h0 h1

/-- forty zero bytes -/
def zs40 : Array Value := #[.int .u8 0, .int .u8 0, .int .u8 0, .int .u8 0, .int .u8 0, .int .u8 0, .int .u8 0, .int .u8 0, .int .u8 0, .int .u8 0, .int .u8 0, .int .u8 0, .int .u8 0, .int .u8 0, .int .u8 0, .int .u8 0, .int .u8 0, .int .u8 0, .int .u8 0, .int .u8 0, .int .u8 0, .int .u8 0, .int .u8 0, .int .u8 0, .int .u8 0, .int .u8 0, .int .u8 0, .int .u8 0, .int .u8 0, .int .u8 0, .int .u8 0, .int .u8 0, .int .u8 0, .int .u8 0, .int .u8 0, .int .u8 0, .int .u8 0, .int .u8 0, .int .u8 0, .int .u8 0]

/-- the cells of a key's code -/
def encArr (a0 a1 a2 a3 a4 : Int) : Array Value := putTo (putTo (putTo (putTo (putTo zs40 0 a0 8) 8 a1 8) 16 a2 8) 24 a3 8) 32 a4 8

theorem encArr_size (a0 a1 a2 a3 a4 : Int) : (encArr a0 a1 a2 a3 a4).size = 40 := by simp only [encArr, putTo_size]; rfl

theorem putTo_one (c : Array Value) (p : Nat) (v : Int) (h : c.all (·.oneCell') = true) (n : Nat) : (putTo c p v n).all (·.oneCell') = true := by
  induction n with
  | zero => exact h
  | succ k ih =>
    rw [Array.all_eq_true_iff_forall_mem] at ih ⊢
    intro x hx
    simp only [putTo] at hx
    rcases Array.mem_or_eq_of_mem_setIfInBounds hx with h | h
    · exact ih x h
    · subst h; rfl

theorem encArr_one (a0 a1 a2 a3 a4 : Int) : (encArr a0 a1 a2 a3 a4).all (·.oneCell') = true :=
  putTo_one _ _ _ (putTo_one _ _ _ (putTo_one _ _ _ (putTo_one _ _ _ (putTo_one _ _ _ (by kernel_rfl) 8) 8) 8) 8) 8

theorem grown_setRow {W w' : World} (h : Grown W w') (g : Nat) (hg : W.heap.size ≤ g) (cs : Array Value) : Grown W (w'.setRow g cs) := by
  obtain ⟨⟨h1, h2, h3⟩, hf, hs⟩ := h
  refine ⟨⟨h1, h2, fun i hi => ?_⟩, fun x => ?_, by simpa using hs⟩
  · rw [setRow_other w' g i cs (by omega)]; exact h3 i hi
  · rw [← hf x]
    by_cases hx : x.block = g
    · subst hx
      cases hq : w'.heap[x.block]? with
      | none => simp [World.frozen?, World.setRow, Array.getElem?_modify, hq]
      | some o => cases o <;> simp [World.frozen?, World.setRow, Array.getElem?_modify, hq]
    · simp [World.frozen?, setRow_other w' g x.block cs hx]

set_option maxHeartbeats 400000 in
theorem enc_any (a0 a1 a2 a3 a4 : Int) (w : World) (g0 : 0 ≤ a0 ∧ a0 ≤ 18446744073709551615) (g1 : 0 ≤ a1 ∧ a1 ≤ 18446744073709551615) (g2 : 0 ≤ a2 ∧ a2 ≤ 18446744073709551615) (g3 : 0 ≤ a3 ∧ a3 ≤ 18446744073709551615) (g4 : 0 ≤ a4 ∧ a4 ≤ 18446744073709551615) :
    Calls Trym.prog 9 #[.int .u64 a0, .int .u64 a1, .int .u64 a2, .int .u64 a3, .int .u64 a4] w
      fun e w' => e = .returned (.agg (encArr a0 a1 a2 a3 a4)) ∧ Grown w w' := by
  have hES := encArr_size a0 a1 a2 a3 a4
  have hE1 := encArr_one a0 a1 a2 a3 a4
  have P0 := put_at 0 0 rfl (w.heap.size + 1) (w.alloc (.cells zs40 24)) (by simp) zs40 a0 rfl (by omega) g0.1 g0.2
  have P1 := put_at 8 8 rfl (w.heap.size + 1) (w.alloc (.cells zs40 24)) (by simp) (putTo zs40 0 a0 8) a1 (by simp only [putTo_size]; rfl) (by omega) g1.1 g1.2
  have P2 := put_at 16 16 rfl (w.heap.size + 1) (w.alloc (.cells zs40 24)) (by simp) (putTo (putTo zs40 0 a0 8) 8 a1 8) a2 (by simp only [putTo_size]; rfl) (by omega) g2.1 g2.2
  have P3 := put_at 24 24 rfl (w.heap.size + 1) (w.alloc (.cells zs40 24)) (by simp) (putTo (putTo (putTo zs40 0 a0 8) 8 a1 8) 16 a2 8) a3 (by simp only [putTo_size]; rfl) (by omega) g3.1 g3.2
  have P4 := put_at 32 32 rfl (w.heap.size + 1) (w.alloc (.cells zs40 24)) (by simp) (putTo (putTo (putTo (putTo zs40 0 a0 8) 8 a1 8) 16 a2 8) 24 a3 8) a4 (by simp only [putTo_size]; rfl) (by omega) g4.1 g4.2
  change Calls _ _ _ _ (fun e w' => _ ∧ w' = World.alloc _ (.cells (encArr a0 a1 a2 a3 a4) 24)) at P4
  generalize encArr a0 a1 a2 a3 a4 = E at *
  generalize putTo (putTo (putTo (putTo zs40 0 a0 8) 8 a1 8) 16 a2 8) 24 a3 8 = E3 at *
  generalize putTo (putTo (putTo zs40 0 a0 8) 8 a1 8) 16 a2 8 = E2 at *
  generalize putTo (putTo zs40 0 a0 8) 8 a1 8 = E1 at *
  generalize putTo zs40 0 a0 8 = E0 at *
  have hZ : zs40.size = 40 := rfl
  have K0 := tuck P0
  have K1 := tuck P1
  have K2 := tuck P2
  have K3 := tuck P3
  have K4 := tuck P4
  clear P0 P1 P2 P3 P4
  go_enter Trym.func9, Trym.ntmps9
  go_wp2_with fail
  refine K0.out.mono ?_
  generalize zs40 = z at *
  rintro e w1 ⟨rfl, rfl⟩
  go_wp2_with fail
  refine K1.out.mono ?_
  rintro e w1 ⟨rfl, rfl⟩
  go_wp2_with fail
  refine K2.out.mono ?_
  rintro e w1 ⟨rfl, rfl⟩
  go_wp2_with fail
  refine K3.out.mono ?_
  rintro e w1 ⟨rfl, rfl⟩
  go_wp2_with fail
  refine K4.out.mono ?_
  rintro e w1 ⟨rfl, rfl⟩
  have hi : Option.map (fun x => x.size) (Trym.prog.info? 24) = some E.size := by rw [hES]; kernel_rfl
  have hgz := heap_alloc2_old w (.cells z 24) (.cells E 24)
  have hg1 := setRow_heap _ w.heap.size z E 24 _ hgz
  have KI := tuck hi
  have KZ := tuck hgz
  have KG := tuck hg1
  clear hi hgz hg1
  go_wp2_with (first | (refine wpList_load_row rfl 24 _ rfl (w.heap.size + 1) rfl 24 E (0, 0) _ (heap_alloc2_new _ _ _) Trym.underlying24 rfl KI.out ?_) | (refine wpList_store_row rfl 24 _ _ rfl w.heap.size E rfl rfl 24 z KZ.out KI.out (by omega) hE1 ?_))
  refine bodyPost_ret (v := .agg E) (results_cell_row rfl _ _ w.heap.size 24 E (0, 0) _ rfl KG.out Trym.underlying24 rfl KI.out) rfl ⟨rfl, ?_⟩
  exact grown_setRow ((Grown.refl _).alloc _ _ |>.alloc _ _) _ (Nat.le_refl _) _
end Go.Proofs.Qxb6601055aMods
