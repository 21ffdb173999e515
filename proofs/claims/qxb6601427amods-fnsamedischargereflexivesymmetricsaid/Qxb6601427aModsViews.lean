import Derived.Test.Qxb6601427aModsLaw7
import Derived.Deep.Matrix
import Derived.SliceStrings
import Derived.WideShapes
import Derived.ChangeShapes
import Derived.OpenShut
namespace Go.Proofs.Qxb6601427aMods
open Go.RowKit Go.Deep Go.ChangeShapes Go.WideShapes
open Extern.Stop (cell)

theorem sv_of_add {w : World} {x : Addr} {xs : List Value} (h : ∀ i u, xs[i]? = some u → w.cell? (x.add i) = some u) : SV w.heap.size w (some x) xs.length xs := by
  refine ⟨rfl, fun j u hj => ?_⟩
  have hl : 0 < xs.length := by have := (List.getElem?_eq_some_iff.1 hj).1; omega
  have h0 := h 0 xs[0] (List.getElem?_eq_getElem hl)
  obtain ⟨b, off, spot⟩ := x
  have hspot : spot = none := by simpa [Addr.add] using World.cell?_spot h0
  subst hspot
  refine ⟨b, off, rfl, ?_, ?_⟩
  · have := block_lt_of_cell h0
    simpa [Addr.add] using this
  · rw [← Go.WideShapes.add_plain]; exact h j u hj

section
variable {H : Type} {enc : TypeId × Value → H} {W : World}

theorem view_bytes {fuel a len cap} {x : DataW H × List MemPlace} (h : DataW.trod enc Trym.prog W 0 (fun _ => true) true fuel 33 [.slice a len cap] = some x) :
    ∃ xs : List Int, SV W.heap.size W a len (xs.map (Value.int .u8)) ∧ (a = none → len = 0 ∧ cap = 0) := by
  rcases open_ints Trym.underlying33 Trym.underlying5 (by kernel_rfl) h with ⟨hcs, _⟩ | ⟨x, l, c, zs, hcs, _, hl, hm, hz, _, hcell, hwz⟩
  · simp at hcs
    obtain ⟨rfl, rfl, rfl⟩ := hcs
    exact ⟨[], ⟨rfl, fun j u hj => by simp at hj⟩, fun _ => ⟨rfl, rfl⟩⟩
  · simp at hcs
    obtain ⟨rfl, rfl, rfl⟩ := hcs
    simp only [if_true] at hz
    have e : ((zs.take len).map (Value.int .u8)).length = len := by simp; omega
    refine ⟨zs.take len, ?_, fun h => (by cases h)⟩
    have := sv_of_add (w := W) (x := x) (xs := (zs.take len).map (Value.int .u8)) (fun i u hu => by
      have hi : i < len := by have := (List.getElem?_eq_some_iff.1 hu).1; omega
      rw [hcell i (by omega), ← hu]
      simp [hi, List.getElem?_eq_getElem (show i < zs.length by omega)])
    rwa [e] at this

theorem view_strs {fuel a len cap} {x : DataW H × List MemPlace} (h : DataW.trod enc Trym.prog W 0 (fun _ => true) true fuel 31 [.slice a len cap] = some x) :
    ∃ ss : List ByteArray, SV W.heap.size W a len (ss.map Value.string) ∧ (a = none → len = 0 ∧ cap = 0) := by
  rcases open_strings Trym.underlying31 Trym.underlying9 (by kernel_rfl) h with ⟨hcs, _⟩ | ⟨x, l, c, zs, hcs, _, hl, hm, hz, _, hcell, _⟩
  · simp at hcs
    obtain ⟨rfl, rfl, rfl⟩ := hcs
    exact ⟨[], ⟨rfl, fun j u hj => by simp at hj⟩, fun _ => ⟨rfl, rfl⟩⟩
  · simp at hcs
    obtain ⟨rfl, rfl, rfl⟩ := hcs
    simp only [if_true] at hz
    have e : ((zs.take len).map Value.string).length = len := by simp; omega
    refine ⟨zs.take len, ?_, fun h => (by cases h)⟩
    have := sv_of_add (w := W) (x := x) (xs := (zs.take len).map Value.string) (fun i u hu => by
      have hi : i < len := by have := (List.getElem?_eq_some_iff.1 hu).1; omega
      rw [hcell i (by omega), ← hu]
      simp [hi, List.getElem?_eq_getElem (show i < zs.length by omega)])
    rwa [e] at this

theorem view_rows {fuel a len cap} {x : DataW H × List MemPlace} (h : DataW.trod enc Trym.prog W 0 (fun _ => true) true fuel 32 [.slice a len cap] = some x) :
    ∃ ds : List (List Int), DV W.heap.size W a len ds ∧ (a = none → len = 0 ∧ cap = 0) := by
  rcases open_int_rows Trym.underlying32 Trym.underlying33 Trym.underlying5 (by kernel_rfl) (by kernel_rfl) h with ⟨hcs, _⟩ | ⟨x, l, c, A, L, C, Z, hcs, _, hl, hm, _, hr⟩
  · simp at hcs
    obtain ⟨rfl, rfl, rfl⟩ := hcs
    exact ⟨[], ⟨rfl, fun j u hj => by simp at hj⟩, fun _ => ⟨rfl, rfl⟩⟩
  · simp at hcs
    obtain ⟨rfl, rfl, rfl⟩ := hcs
    refine ⟨(List.range len).map fun r => (Z r).take (L r), ⟨by simp, fun j d hj => ?_⟩, fun h => (by cases h)⟩
    have hjl : j < len := by have := (List.getElem?_eq_some_iff.1 hj).1; simpa using this
    have hd : d = (Z j).take (L j) := by simp [hjl] at hj; exact hj.symm
    obtain ⟨h1, h2, h3, h4, h5, h6, h7⟩ := hr j (by omega)
    have hdl : d.length = L j := by rw [hd]; simp; omega
    obtain ⟨b, off, spot⟩ := x
    have hc0 := (hr 0 (by omega)).1
    have hspot : spot = none := by simpa [Addr.add] using World.cell?_spot hc0
    subst hspot
    have hb : b < W.heap.size := by have := block_lt_of_cell hc0; simpa [Addr.add] using this
    rw [Go.WideShapes.add_plain] at h1
    refine ⟨b, off, _, rfl, hb, h1, A j, C j, by rw [hdl], ?_, fun hn => ⟨by have := h6 hn; omega, h6 hn⟩⟩
    cases hA : A j with
    | none =>
      have : L j = 0 := by have := h6 hA; omega
      refine ⟨by simp, fun i u hi => ?_⟩
      have := (List.getElem?_eq_some_iff.1 hi).1
      simp at this; omega
    | some a' =>
      have hcell := (h7 a' hA).2
      have := sv_of_add (w := W) (x := a') (xs := d.map (Value.int .u8)) (fun i u hu => by
        have hi : i < L j := by have := (List.getElem?_eq_some_iff.1 hu).1; simp at this; omega
        rw [hcell i (by omega), ← hu, hd]
        simp [hi, List.getElem?_eq_getElem (show i < (Z j).length by omega)])
      rw [List.length_map] at this
      exact this

theorem view_id {v : Value} {base : Nat} {d : DataW H} {ps : List MemPlace} (hv : Value.okWide Trym.prog W .any base 30 v) (h : DataW.Trod enc Trym.prog W 0 (fun _ => true) true 30 v d ps) :
    ∃ ids : List UInt8, ids.length = 16 ∧ v = .agg (idCells ids) := by
  obtain ⟨cs, rfl, hs⟩ : ∃ cs, v = .agg cs ∧ cs.size = Trym.prog.cellsOf 30 := by
    unfold Value.okWide at hv
    rw [Trym.underlying30] at hv
    obtain ⟨cs, h1, h2, _⟩ := hv
    exact ⟨cs, h1, h2⟩
  have h16 : Trym.prog.cellsOf 30 = 16 := by kernel_rfl
  have h5 : Trym.prog.cellsOf 5 = 1 := by kernel_rfl
  rw [h16] at hs
  obtain ⟨fuel, hf⟩ := h
  obtain ⟨xs, m, _, _, _, hxl, hx⟩ := DataW.trod_array Trym.underlying30 hf
  refine ⟨cs.toList.map fun u => match u with | .int _ n => UInt8.ofNat n.toNat | _ => 0, by simp [hs], ?_⟩
  congr 1
  apply Array.ext_getElem?
  intro i
  by_cases hi : i < 16
  · have hxi := hx i hi
    rw [h5, Nat.mul_one] at hxi
    rw [List.getElem?_eq_getElem (by omega)] at hxi
    obtain ⟨n, hn, _, hw⟩ := DataW.trod_int Trym.underlying5 hxi
    have hci : cs[i]? = some (.int .u8 n) := by
      have e : (Value.agg cs).cells = cs := rfl
      rw [e] at hn
      have : ((cs.toList.drop i).take 1)[0]? = some (.int .u8 n) := by rw [hn]; rfl
      simpa [List.getElem?_take, List.getElem?_drop] using this
    have hb := bounds_u8 hw
    have hl : cs.toList[i]? = some (.int .u8 n) := by simpa using hci
    simp only [idCells, List.getElem?_toArray, List.getElem?_map, hl, hci, Option.map_some]
    congr 1
    simp only [cell]
    congr 1
    rw [UInt8.toNat_ofNat', Nat.mod_eq_of_lt (show n.toNat < 2 ^ 8 by omega)]
    show n = ((n.toNat : Nat) : Int)
    omega
  · rw [Array.getElem?_eq_none (by omega), Array.getElem?_eq_none (by simp [idCells]; omega)]
end
end Go.Proofs.Qxb6601427aMods
