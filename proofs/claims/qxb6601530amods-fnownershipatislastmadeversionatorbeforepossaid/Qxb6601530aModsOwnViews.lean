import Derived.Test.Qxb6601530aModsOwn
import Derived.Deep.SlicePairs
import Derived.WideShapes
import Derived.ChangeShapes
import Derived.OpenShut
namespace Go.Proofs.Qxb6601530aMods
open Go.RowKit Go.Deep Go.ChangeShapes Go.WideShapes

section
variable {H : Type} {enc : TypeId × Value → H} {W : World}

theorem view_ents {fuel a len cap} {x : DataW H × List MemPlace} (h : DataW.trod enc Trym.prog W 0 (fun _ => true) true fuel 29 [.slice a len cap] = some x) :
    ∃ es : List (Int × Int), EV W.heap.size W a len es ∧ (a = none → len = 0 ∧ cap = 0) := by
  rcases open_slice_pairs Trym.underlying29 Trym.underlying44 (by kernel_rfl) rfl rfl (by kernel_rfl) (by kernel_rfl) h with ⟨hcs, _⟩ | ⟨x, l, c, m, n, V0, V1, D0, D1, P0, P1, hcs, _, hl, hm, hmm, _, hr⟩
  · simp at hcs
    obtain ⟨rfl, rfl, rfl⟩ := hcs
    exact ⟨[], ⟨rfl, fun j u hj => by simp at hj⟩, fun _ => ⟨rfl, rfl⟩⟩
  · simp at hcs
    obtain ⟨rfl, rfl, rfl⟩ := hcs
    simp only [if_true] at hmm
    subst hmm
    obtain ⟨E, hE⟩ := choose_lt (α := Int × Int) (p := fun i e => V0 i = .int .u64 e.1 ∧ V1 i = .int .u32 e.2) (n := m) (fun i hi => by
      obtain ⟨_, _, h3, h4⟩ := hr i hi
      obtain ⟨p, h5, _⟩ := DataW.trod_int Trym.underlying40 h3
      obtain ⟨v, h6, _⟩ := DataW.trod_int Trym.underlying41 h4
      exact ⟨(p, v), by simpa using h5, by simpa using h6⟩)
    refine ⟨(List.range len).map E, ⟨by simp, fun k e hk => ?_⟩, fun h => (by cases h)⟩
    have hkl : k < len := by have := (List.getElem?_eq_some_iff.1 hk).1; simpa using this
    have he : e = E k := by simp [hkl] at hk; exact hk.symm
    subst he
    obtain ⟨h1, h2, _, _⟩ := hr k (by omega)
    obtain ⟨e1, e2⟩ := hE k (by omega)
    obtain ⟨b, off, spot⟩ := x
    have hc0 := (hr 0 (by omega)).1
    have hspot : spot = none := by simpa [Addr.add] using World.cell?_spot hc0
    subst hspot
    have hb : b < W.heap.size := by have := block_lt_of_cell hc0; simpa [Addr.add] using this
    rw [Go.WideShapes.add_plain] at h1 h2
    exact ⟨b, off, rfl, hb, by rw [h1, e1], by rw [Nat.add_assoc, h2, e2]⟩

set_option maxRecDepth 100000 in
theorem view_ptr {v : Value} {base : Nat} {d : DataW H} {ps : List MemPlace} (hv : Value.okWide Trym.prog W .any base 68 v) (h : DataW.Trod enc Trym.prog W 0 (fun _ => true) true 68 v d ps) :
    ∃ gp init, v = .pointer gp ∧ Came W gp init := by
  have hc1 : Trym.prog.cellsOf 41 = 1 := by kernel_rfl
  have hp68 : Trym.prog.underlying 68 = some (.pointer 41) := Trym.underlying68
  have hp41 : Trym.prog.underlying 41 = some (.int .u32) := Trym.underlying41
  rcases Go.ChangeShapes.open_ptr_int hp68 hp41 hc1 hv h with ⟨rfl, _⟩ | ⟨b, off, n, rfl, _, _, hc, _⟩
  · exact ⟨none, none, rfl, .inl ⟨rfl, rfl⟩⟩
  · exact ⟨_, some n, rfl, .inr ⟨b, off, n, rfl, rfl, block_lt_of_cell hc, hc⟩⟩
end
end Go.Proofs.Qxb6601530aMods
