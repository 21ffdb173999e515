import Derived.Test.Qxb6601055aModsFlags
import Derived.BigRegion
import Derived.RegionTactic
import Derived.ChangeAlike
import Derived.Deep.Draws
namespace Go.Proofs.Qxb6601055aMods
open Go.RowKit

/-- a pointer to the k-th element of the slice at q -/
def pOf (q : Option Addr) (k : Nat) : Value := match q with
  | some a => .pointer (some ⟨a.block, a.off + k, none⟩)
  | none => .pointer none

/-- the flags' row with its first k flags laid -/
def flTo (z : Array Value) (xs : List Int) (q : Option Addr) : Nat → Array Value
  | 0 => z
  | k + 1 => ((flTo z xs q k).setIfInBounds (k * 2) (.int .u8 (xs[k]?.getD 0))).setIfInBounds (k * 2 + 1) (pOf q k)

theorem flTo_size (z : Array Value) (xs : List Int) (q : Option Addr) (k : Nat) : (flTo z xs q k).size = z.size := by
  induction k with
  | zero => rfl
  | succ k ih => simp [flTo, ih]

theorem flTo_at (z : Array Value) (xs : List Int) (q : Option Addr) (m : Nat) (hz : z.size = m * 2) (k : Nat) (hk : k ≤ m) (j : Nat) (hj : j < k) :
    (flTo z xs q k)[j * 2]? = some (.int .u8 (xs[j]?.getD 0)) ∧ (flTo z xs q k)[j * 2 + 1]? = some (pOf q j) := by
  induction k with
  | zero => omega
  | succ k ih =>
    have hs := flTo_size z xs q k
    simp only [flTo, Array.getElem?_setIfInBounds, Array.size_setIfInBounds]
    by_cases h : j = k
    · subst h
      rw [if_neg (by omega), if_pos rfl, if_pos (by omega), if_pos rfl, if_pos (by omega)]
      exact ⟨rfl, rfl⟩
    · rw [if_neg (by omega), if_neg (by omega), if_neg (by omega), if_neg (by omega)]
      exact ih (by omega) (by omega)

theorem Trym.info44 : (Trym.prog.info? 44).map (fun i => (i.zero, i.size, i.bytes)) = some (some (.agg #[.int .u8 0, .pointer none]), 2, 16) := by kernel_rfl

theorem make_flags (n : Nat) (hn : n ≤ 1048576) (W : World) : (Instr.makeSlice 41 (.int .i64 (n : Int)) (.int .i64 (n : Int))).run Trym.prog W = .ok (.slice (some ⟨W.heap.size, 0, none⟩) n n) (W.alloc (.cells (madeCells #[.int .u8 0, .pointer none] (n * 2)) 44)) := by
  obtain ⟨i, hi, hzz⟩ := Option.map_eq_some_iff.1 Trym.info44
  simp only [Prod.mk.injEq] at hzz
  obtain ⟨hz, hs, hb⟩ := hzz
  have h := run_make (P := Trym.prog) W 41 44 i _ Trym.underlying41 hi hz .i64 .i64 n n (by omega) (Int.le_refl _) (by rw [hb]; omega) (by omega)
  rw [h, hs]
  rfl

theorem set2 (w : World) (cc : Array Value) (t : TypeId) (nq i j : Nat) (u v : Value) : (((w.alloc (.cells cc t)).drewN nq).setCell ⟨w.heap.size, i, none⟩ u).setCell ⟨w.heap.size, j, none⟩ v = (w.alloc (.cells ((cc.setIfInBounds i u).setIfInBounds j v) t)).drewN nq := by
  rw [← World.setCell_alloc_at (cc.setIfInBounds i u) t _ j v rfl, ← World.setCell_alloc_at cc t _ i u rfl]
  rfl

theorem owns_drewN {w : World} {base : Nat} {e : TypeId} {size : Nat} {v : Value} {n : Nat} {xs : List Value} (h : w.ownsRow base e size v n xs) (nq : Nat) : (w.drewN nq).ownsRow base e size v n xs := h

theorem flags_at (w : World) (z : Array Value) (xs : List Int) (os : List Bool) (q1 q2 : Option Addr) (m nq : Nat) (hz : z.size = m * 2)
    (h1 : SV w.heap.size w q1 m (xs.map (Value.int .u8))) (h2 : SV w.heap.size w q2 m (os.map Value.bool)) :
    FlagsAt ((w.alloc (.cells (flTo z xs q2 m) 44)).drewN nq).heap.size ((w.alloc (.cells (flTo z xs q2 m) 44)).drewN nq) w.heap.size m xs os := by
  intro k hk
  obtain ⟨g1, o1, x, hx, _, _, _⟩ := h1.at k hk
  obtain ⟨g2, o2, b, hb, rfl, hg2, cb⟩ := h2.at k hk
  have hf := flTo_at z xs (some ⟨g2, o2, none⟩) m hz m (Nat.le_refl _) k hk
  refine ⟨g2, o2, x, b, hx, hb, ?_, ?_, ?_, ?_, ?_⟩
  · simp; omega
  · simp
  · rw [World.cell?_drewN, World.cell?_alloc_at _ _ _ _ rfl, hf.1, hx]; rfl
  · rw [World.cell?_drewN, World.cell?_alloc_at _ _ _ _ rfl, hf.2]; rfl
  · rw [World.cell?_drewN, World.cell?_alloc_past _ _ _ hg2]; exact cb

set_option maxHeartbeats 400000 in
theorem zzAppend_any (base : Nat) (vb : Value) (n : Nat) (ys : List Int) (q1 q2 : Option Addr) (m c1 c2 : Nat) (xs : List Int) (os : List Bool) (w : World) (hm : m ≤ 1048576) (hn : n ≤ 1048576)
    (h1 : SV w.heap.size w q1 m (xs.map (Value.int .u8))) (h2 : SV w.heap.size w q2 m (os.map Value.bool)) (hown : w.ownsRow base 5 1 vb n (ys.map (Value.int .u8))) (hbase : base ≤ w.heap.size) :
    Calls Trym.prog 14 #[vb, .slice q1 m c1, .slice q2 m c2] w fun e w' => ∃ q c, e = .returned (.slice q (n + 1) c) ∧ Below base w w' ∧ w'.ownsRow base 5 1 (.slice q (n + 1) c) (n + 1) ((ys ++ [orTo xs os m]).map (Value.int .u8)) := by
  have K1 := keep h1
  have K2 := keep h2
  have KO := keep hown
  clear h1 h2 hown
  have hmk := make_flags m hm
  have hmz := size_madeCells #[.int .u8 0, .pointer none] (m * 2)
  go_enter Trym.func14, Trym.ntmps14
  go_wp2
  generalize madeCells #[.int .u8 0, .pointer none] (m * 2) = z at *
  clear hmk
  go_loopw [8] (fun i wr => ∃ k nq : Nat, k ≤ m ∧ i = .int .i64 k ∧ wr = (w.alloc (.cells (flTo z xs q2 k) 44)).drewN nq) (fun i _ => m - (intOf i).toNat)
  case atStart => exact ⟨0, 0, Nat.zero_le _, rfl, rfl⟩
  case round =>
    obtain ⟨k, nq, hk, rfl, rfl⟩ := hrel
    by_cases hlt : k < m
    · obtain ⟨g1, o1, x, hx, rfl, hg1, cx⟩ := K1.out.at k hlt
      obtain ⟨g2, o2, b, hb, rfl, hg2, cb⟩ := K2.out.at k hlt
      have hfs := flTo_size z xs (some ⟨g2, o2, none⟩) k
      rw [hmz] at hfs
      have KS := keep (show flTo z xs (some ⟨g2, o2, none⟩) (k + 1) = ((flTo z xs (some ⟨g2, o2, none⟩) k).setIfInBounds (k * 2) (.int .u8 x)).setIfInBounds (k * 2 + 1) (.pointer (some ⟨g2, o2 + k, none⟩)) by simp [flTo, hx, pOf])
      generalize flTo z xs (some ⟨g2, o2, none⟩) k = cc at *
      obtain ⟨u0, hu0⟩ : ∃ u, cc[k * 2]? = some u := ⟨_, Array.getElem?_eq_getElem (by omega)⟩
      obtain ⟨u1, hu1⟩ : ∃ u, cc[k * 2 + 1]? = some u := ⟨_, Array.getElem?_eq_getElem (by omega)⟩
      have hlti : (k : Int) < (m : Int) := by omega
      clear hx hb
      go_wp2
      go_region
      go_wp2
      go_roundw
      case rel => exact ⟨k + 1, nq + 1, by omega, by go_num, by rw [KS.out, set2]⟩
      case measure => simp [intOf]; omega
    · obtain rfl : k = m := by omega
      have KF := keep (flags_at w z xs os q1 q2 k nq hmz K1.out K2.out)
      have KO' := keep (owns_drewN (KO.out.alloc (.cells (flTo z xs q2 k) 44)) nq)
      have KB := keep (below_drewN ((Below.refl w.heap.size w).alloc (Nat.le_refl _) (.cells (flTo z xs q2 k) 44)) nq)
      generalize flTo z xs q2 k = fl at *
      go_wp2_with fail
      refine (appendFlags_any base vb n ys w.heap.size k xs os _ hm hn KF.out KO'.out (by simp; omega)).mono ?_
      rintro e w1 ⟨q, c, rfl, hB, ho⟩
      have KB1 := keep hB
      have KO1 := keep ho
      clear hB ho
      go_wp2
      go_ret
      exact ⟨q, c, rfl, (KB.out.mono hbase).trans KB1.out, KO1.out⟩
end Go.Proofs.Qxb6601055aMods
