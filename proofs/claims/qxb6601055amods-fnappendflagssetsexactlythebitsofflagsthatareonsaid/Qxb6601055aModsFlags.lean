import Derived.Test.Qxb6601055aModsClone
import Derived.OwnWalk
namespace Go.Proofs.Qxb6601055aMods
open Go.RowKit

/-- the byte out of the first k flags -/
def orTo (xs : List Int) (os : List Bool) : Nat → Int
  | 0 => 0
  | k + 1 => if os[k]?.getD false = true then bits .or .u8 (orTo xs os k) (xs[k]?.getD 0) else orTo xs os k

theorem orTo_on {xs : List Int} {os : List Bool} {k : Nat} {x : Int} (hx : xs[k]? = some x) (ho : os[k]? = some true) : orTo xs os (k + 1) = bits .or .u8 (orTo xs os k) x := by simp [orTo, hx, ho]
theorem orTo_off {xs : List Int} {os : List Bool} {k : Nat} (ho : os[k]? = some false) : orTo xs os (k + 1) = orTo xs os k := by simp [orTo, ho]

/-- the flags' row at block F: a byte and a pointer to a bool, m of them -/
def FlagsAt (B : Nat) (w : World) (F m : Nat) (xs : List Int) (os : List Bool) : Prop :=
  ∀ k, k < m → ∃ g o x b, xs[k]? = some x ∧ os[k]? = some b ∧ g < B ∧ F < B ∧ w.cell? ⟨F, k * 2, none⟩ = some (.int .u8 x) ∧ w.cell? ⟨F, k * 2 + 1, none⟩ = some (.pointer (some ⟨g, o + k, none⟩)) ∧ w.cell? ⟨g, o + k, none⟩ = some (.bool b)

theorem owns_shape {base : Nat} {w : World} {e : TypeId} {v : Value} {n : Nat} {xs : List Value} (h : w.ownsRow base e 1 v n xs) : ∃ q c, v = .slice q n c := by
  rcases h.2 with ⟨rfl, rfl⟩ | ⟨g, cap, cur, rfl, _⟩
  · exact ⟨none, 0, rfl⟩
  · exact ⟨_, cap, rfl⟩

set_option maxHeartbeats 400000 in
theorem appendFlags_any (base : Nat) (vb : Value) (n : Nat) (ys : List Int) (F m : Nat) (xs : List Int) (os : List Bool) (w : World) (hm : m ≤ 1048576) (hn : n ≤ 1048576)
    (hf : FlagsAt w.heap.size w F m xs os) (hown : w.ownsRow base 5 1 vb n (ys.map (Value.int .u8))) (hbase : base ≤ w.heap.size) :
    Calls Trym.prog 21 #[vb, .slice (some ⟨F, 0, none⟩) m m] w fun e w' => ∃ q c, e = .returned (.slice q (n + 1) c) ∧ Below base w w' ∧ w'.ownsRow base 5 1 (.slice q (n + 1) c) (n + 1) ((ys ++ [orTo xs os m]).map (Value.int .u8)) := by
  have KF := keep hf
  have KO := keep hown
  clear hf hown
  go_enter Trym.func21, Trym.ntmps21
  go_wp2
  go_loopw [5, 10] (fun a i wr => ∃ k : Nat, k ≤ m ∧ i = .int .i64 k ∧ a = .int .u8 (orTo xs os k) ∧ Below w.heap.size w wr) (fun _ i _ => m - (intOf i).toNat)
  case atStart => exact ⟨0, Nat.zero_le _, rfl, rfl, Below.refl _ _⟩
  case round =>
    obtain ⟨k, hk, rfl, rfl, hB⟩ := hrel
    by_cases hlt : k < m
    · obtain ⟨g, o, x, b, hx, hb, hg, hF, c1, c2, c3⟩ := KF.out k hlt
      rw [← hB.cell hF] at c1 c2
      rw [← hB.cell hg] at c3
      have hgr : g < wr.heap.size := Nat.lt_of_lt_of_le hg hB.size
      have KB := keep hB
      have KX := keep hx
      have KB' := keep hb
      clear hB hx hb
      cases b with
      | true =>
        have K1 := keep (orTo_on KX.out KB'.out)
        generalize orTo xs os k = acc at *
        go_wp2
        go_roundw
        case rel => exact ⟨k + 1, by omega, by go_num, by rw [K1.out], KB.out.alloc KB.out.size _⟩
        case measure => simp [intOf]; omega
      | false =>
        have K1 := keep (orTo_off (xs := xs) KB'.out)
        generalize orTo xs os k = acc at *
        go_wp2
        go_roundw
        case rel => exact ⟨k + 1, by omega, by go_num, by rw [K1.out], KB.out.alloc KB.out.size _⟩
        case measure => simp [intOf]; omega
    · obtain rfl : k = m := by omega
      have hown' : wr.ownsRow base 5 1 vb n (ys.map (Value.int .u8)) := KO.out.kept (row := none) ⟨hB.os, hB.tape, hB.output, hB.size, fun j hj _ => hB.block j hj⟩ (by cases hv : vb.ownBlock <;> simp)
      obtain ⟨i0, hi, hz0, hz1, hz2⟩ := info_parts Trym.info5
      have KO' := keep hown'
      have KB := keep hB
      have hsz := hB.size
      clear hown' hB
      generalize hacc : orTo xs os k = acc at *
      have KA := keep hacc
      clear hacc
      go_wp2_with (at_builtin; refine wpList_append_own _ rfl _ _ 27 rfl base 5 i0 (.int .u8 0) 1 1 Trym.underlying27 hi hz0 hz1 hz2 rfl (by decide) vb n (ys.map (Value.int .u8)) rfl (KO'.out.alloc _) ⟨wr.heap.size, 0, none⟩ 1 1 [.int .u8 acc] rfl rfl ?c1 ?c2 ?c3 ?c4 ?c5 ?_)
      case c1 =>
        intro j u hj
        match j, hj with
        | 0, hj => simp at hj; subst hj; simp [Addr.add]
      case c2 => intro u hu; simp at hu; subst hu; rfl
      case c3 => unfold maxLen; omega
      case c4 => omega
      case c5 => simp; omega
      intro v' w1 hown1 hgrow hnil
      have hbel : Below base w w1 := (KB.out.mono hbase).trans (((Below.refl base wr).alloc (by omega) _).grown hgrow (by simp; omega) (fun j hj => (KO'.out.lt j hj).1))
      obtain ⟨q, c, rfl⟩ := owns_shape hown1
      have K1 := keep hown1
      have K2 := keep hbel
      clear hown1 hgrow hnil hbel
      go_wp2
      go_ret
      exact ⟨q, c, rfl, K2.out, by rw [KA.out]; simpa using K1.out⟩
end Go.Proofs.Qxb6601055aMods
