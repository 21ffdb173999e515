import Derived.Test.Qxb6601530aModsEnt
namespace Go.Proofs.Qxb6601530aMods
open Go.RowKit

/-- of the first k entries the last that lies at or before pos -/
def lastIx (es : List (Int × Int)) (pos : Int) : Nat → Option Nat
  | 0 => none
  | k + 1 => match es[k]? with
    | some e => if e.1 ≤ pos then some k else lastIx es pos k
    | none => lastIx es pos k

theorem lastIx_yes {es : List (Int × Int)} {pos : Int} {k : Nat} {p v : Int} (h : es[k]? = some (p, v)) (hp : p ≤ pos) : lastIx es pos (k + 1) = some k := by simp [lastIx, h, hp]
theorem lastIx_no {es : List (Int × Int)} {pos : Int} {k : Nat} {p v : Int} (h : es[k]? = some (p, v)) (hp : ¬ p ≤ pos) : lastIx es pos (k + 1) = lastIx es pos k := by simp [lastIx, h, hp]

/-- what is known at pos out of the first k entries -/
def atV (es : List (Int × Int)) (pos : Int) (init : Option Int) (k : Nat) : Option Int :=
  match lastIx es pos k with
  | some j => (es[j]?).map (·.2)
  | none => init

theorem atV_yes {es : List (Int × Int)} {pos : Int} {init : Option Int} {k : Nat} {p v : Int} (h : es[k]? = some (p, v)) (hp : p ≤ pos) : atV es pos init (k + 1) = some v := by simp [atV, lastIx_yes h hp, h]
theorem atV_no {es : List (Int × Int)} {pos : Int} {init : Option Int} {k : Nat} {p v : Int} (h : es[k]? = some (p, v)) (hp : ¬ p ≤ pos) : atV es pos init (k + 1) = atV es pos init k := by simp [atV, lastIx_no h hp]

theorem ptr_box {L : Nat} {w : World} (v : Int) (h : L ≤ w.heap.size) : PtrAt L (w.alloc (.cells #[.int .u32 v] 41)) (some ⟨w.heap.size, 0, none⟩) (some v) := .inr ⟨_, v, rfl, rfl, h, heap_alloc_new w _⟩

theorem ptr_box2 {L : Nat} {w : World} (v : Int) (o : Obj) (h : L ≤ w.heap.size) : PtrAt L ((w.alloc o).alloc (.cells #[.int .u32 v] 41)) (some ⟨w.heap.size + 1, 0, none⟩) (some v) := .inr ⟨_, v, rfl, rfl, by omega, heap_alloc2_new w _ _⟩
theorem PtrAt.lower {L L' : Nat} {w : World} {p : Option Addr} {x : Option Int} (h : PtrAt L w p x) (hL : L' ≤ L) : PtrAt L' w p x := by
  rcases h with h | ⟨b, v, h1, h2, h3, h4⟩
  · exact .inl h
  · exact .inr ⟨b, v, h1, h2, by omega, h4⟩

/-- what 'at' hands back -/
def AtSaid (w : World) (x : Option Int) (e : Ending) (w' : World) : Prop := ∃ p, e = .returned (.pointer p) ∧ Below w.heap.size w w' ∧ PtrAt w.heap.size w' p x

theorem atSaid_of {w w' : World} {x : Option Int} {p : Option Addr} (hb : Below w.heap.size w w') (hp : PtrAt w.heap.size w' p x) : AtSaid w x (.returned (.pointer p)) w' := ⟨p, rfl, hb, hp⟩

set_option maxHeartbeats 1000000 in
theorem at33_loop (O : Nat) (pos : Int) (gp : Option Addr) (init : Option Int) (q : Option Addr) (n c : Nat) (es : List (Int × Int)) (w : World) (hn : n ≤ 1048576) (hO : O < w.heap.size)
    (c1 : w.cell? ⟨O, 1, none⟩ = some (.pointer gp)) (c2 : w.cell? ⟨O, 2, none⟩ = some (.slice q n c)) (hv : EV w.heap.size w q n es)
    (hg : (gp = none ∧ init = none) ∨ ∃ b o v, gp = some ⟨b, o, none⟩ ∧ init = some v ∧ b < w.heap.size ∧ w.cell? ⟨b, o, none⟩ = some (.int .u32 v)) :
    Calls Trym.prog 33 #[.pointer (some ⟨O, 0, none⟩), .int .u64 pos] w fun e w' => AtSaid w (atV es pos init n) e w' := by
  have KV := keep hv
  clear hv
  rcases hg with ⟨rfl, rfl⟩ | ⟨b, o, v, rfl, rfl, hb, cg⟩
  · go_enter Trym.func33, Trym.ntmps33
    go_wp2
    go_loopw [5, 25] (fun t i wr => ∃ (k : Nat) (p : Option Addr), k ≤ n ∧ i = .int .i64 k ∧ t = .pointer p ∧ Below w.heap.size w wr ∧ PtrAt w.heap.size wr p (atV es pos none k)) (fun _ i _ => n - (intOf i).toNat)
    case atStart => exact ⟨0, none, Nat.zero_le _, rfl, rfl, Below.refl _ _, .inl ⟨rfl, rfl⟩⟩
    case round =>
      obtain ⟨k, p, hk, rfl, rfl, hB, hP⟩ := hrel
      have KB := keep hB
      have KP := keep hP
      have hsz := hB.size
      clear hB hP
      by_cases hlt : k < n
      · obtain ⟨pp, vv, g, oo, he, rfl, hg, d1, d2⟩ := KV.out.at k hlt
        have hlti : (k : Int) < (n : Int) := by omega
        rw [← KB.out.cell (p := ⟨g, oo + k * 2, none⟩) hg] at d1
        rw [← KB.out.cell (p := ⟨g, oo + k * 2 + 1, none⟩) hg] at d2
        have hgr : g < wr.heap.size := by omega
        by_cases hpp : pp ≤ pos
        · have KE := keep (atV_yes (init := none) he hpp)
          clear he
          go_wp2
          go_roundw
          case rel => exact ⟨k + 1, _, by omega, by go_num, rfl, (KB.out.alloc (by omega) _).alloc (by simp; omega) _, by rw [KE.out]; exact ptr_box2 vv _ (by omega)⟩
          case measure => simp [intOf]; omega
        · have KE := keep (atV_no (init := none) he hpp)
          clear he
          go_wp2
          go_roundw
          case rel => exact ⟨k + 1, _, by omega, by go_num, rfl, KB.out.alloc (by omega) _, by rw [KE.out]; exact KP.out.next (below_alloc _ _)⟩
          case measure => simp [intOf]; omega
      · obtain rfl : k = n := by omega
        go_wp2
        go_ret
        exact atSaid_of KB.out KP.out
  · go_enter Trym.func33, Trym.ntmps33
    go_wp2
    go_loopw [5, 25] (fun t i wr => ∃ (k : Nat) (p : Option Addr), k ≤ n ∧ i = .int .i64 k ∧ t = .pointer p ∧ Below w.heap.size w wr ∧ PtrAt w.heap.size wr p (atV es pos (some v) k)) (fun _ i _ => n - (intOf i).toNat)
    case atStart => exact ⟨0, _, Nat.zero_le _, rfl, rfl, below_alloc _ _, ptr_box v (Nat.le_refl _)⟩
    case round =>
      obtain ⟨k, p, hk, rfl, rfl, hB, hP⟩ := hrel
      have KB := keep hB
      have KP := keep hP
      have hsz := hB.size
      clear hB hP
      by_cases hlt : k < n
      · obtain ⟨pp, vv, g, oo, he, rfl, hg, d1, d2⟩ := KV.out.at k hlt
        have hlti : (k : Int) < (n : Int) := by omega
        rw [← KB.out.cell (p := ⟨g, oo + k * 2, none⟩) hg] at d1
        rw [← KB.out.cell (p := ⟨g, oo + k * 2 + 1, none⟩) hg] at d2
        have hgr : g < wr.heap.size := by omega
        by_cases hpp : pp ≤ pos
        · have KE := keep (atV_yes (init := (some v)) he hpp)
          clear he
          go_wp2
          go_roundw
          case rel => exact ⟨k + 1, _, by omega, by go_num, rfl, (KB.out.alloc (by omega) _).alloc (by simp; omega) _, by rw [KE.out]; exact ptr_box2 vv _ (by omega)⟩
          case measure => simp [intOf]; omega
        · have KE := keep (atV_no (init := (some v)) he hpp)
          clear he
          go_wp2
          go_roundw
          case rel => exact ⟨k + 1, _, by omega, by go_num, rfl, KB.out.alloc (by omega) _, by rw [KE.out]; exact KP.out.next (below_alloc _ _)⟩
          case measure => simp [intOf]; omega
      · obtain rfl : k = n := by omega
        go_wp2
        go_ret
        exact atSaid_of KB.out KP.out

set_option maxHeartbeats 400000 in
theorem zzAt28 (r pos : Int) (gp : Option Addr) (init : Option Int) (q : Option Addr) (n c : Nat) (es : List (Int × Int)) (w : World) (hn : n ≤ 1048576) (hv : EV w.heap.size w q n es)
    (hg : (gp = none ∧ init = none) ∨ ∃ b o v, gp = some ⟨b, o, none⟩ ∧ init = some v ∧ b < w.heap.size ∧ w.cell? ⟨b, o, none⟩ = some (.int .u32 v)) :
    Calls Trym.prog 28 #[.int .u64 r, .pointer gp, .slice q n c, .int .u64 pos] w fun e w' => AtSaid w (atV es pos init n) e w' := by
  have KC := keep (at33_loop w.heap.size pos gp init q n c es (w.alloc (.cells #[.int .u64 r, .pointer gp, .slice q n c] 80)) hn (by simp) (World.cell?_alloc_at _ _ _ _ rfl) (World.cell?_alloc_at _ _ _ _ rfl) (hv.next (below_alloc _ _)) (by
    rcases hg with h | ⟨b, o, v, h1, h2, h3, h4⟩
    · exact .inl h
    · exact .inr ⟨b, o, v, h1, h2, by simp; omega, (World.cell?_alloc_past _ _ _ h3).trans h4⟩))
  clear hg hv
  generalize atV es pos init n = x at *
  go_enter Trym.func28, Trym.ntmps28
  go_wp2_with fail
  refine KC.out.mono ?_
  rintro e w1 ⟨p, rfl, hb, hp⟩
  have KB := keep hb
  have KP := keep hp
  clear hb hp
  go_wp2
  go_ret
  exact atSaid_of ((below_alloc _ _).trans (KB.out.mono (by simp))) (KP.out.lower (by simp))
end Go.Proofs.Qxb6601530aMods
