import Derived.Test.Qxb6601530aModsRec9
import Derived.Deep.SlicePairs
import Derived.WideShapes
import Derived.ChangeShapes
import Derived.OpenShut
namespace Go.Proofs.Qxb6601530aMods
open Go.RowKit Go.Deep Go.ChangeShapes Go.WideShapes
open Extern.Stop (cell)

theorem split_at {cs : List Value} (i k : Nat) : cs.drop i = (cs.drop i).take k ++ cs.drop (i + k) := by
  rw [← List.drop_drop, List.take_append_drop]

/-- cells that were read lie there -/
theorem range_of_cells {w : World} {b off n : Nat} {cs : List Value} (h : w.cells? 0 ⟨b, off, none⟩ n = some cs) : w.rangeAt b off cs := fun j v hj => by
  obtain ⟨_, hl, hc⟩ := World.cells?_some h
  have hjl := (List.getElem?_eq_some_iff.1 hj).1
  have := hc j (by omega)
  rw [Go.WideShapes.add_plain] at this
  rw [this, hj]

section
variable {H : Type} {enc : TypeId × Value → H} {W : World}

theorem view_hash {fuel : Nat} {cs : List Value} {x : DataW H × List MemPlace} (hf : DataW.trod enc Trym.prog W 0 (fun _ => true) true fuel 49 cs = some x) :
    ∃ d : List UInt8, d.length = 32 ∧ cs = hCells d := by
  have h32 : Trym.prog.cellsOf 49 = 32 := by kernel_rfl
  have h5 : Trym.prog.cellsOf 5 = 1 := by kernel_rfl
  obtain ⟨xs, m, _, _, hs, hxl, hx⟩ := DataW.trod_array Trym.underlying49 hf
  rw [h32] at hs
  refine ⟨cs.map fun u => match u with | .int _ n => UInt8.ofNat n.toNat | _ => 0, by simp [hs], ?_⟩
  apply List.ext_getElem?
  intro i
  by_cases hi : i < 32
  · have hxi := hx i hi
    rw [h5, Nat.mul_one] at hxi
    rw [List.getElem?_eq_getElem (by omega)] at hxi
    obtain ⟨n, hn, _, hw⟩ := DataW.trod_int Trym.underlying5 hxi
    have hci : cs[i]? = some (.int .u8 n) := by
      have : ((cs.drop i).take 1)[0]? = some (.int .u8 n) := by rw [hn]; rfl
      simpa [List.getElem?_take, List.getElem?_drop] using this
    have hb := bounds_u8 hw
    have hcell : cell (UInt8.ofNat n.toNat) = .int .u8 n := by
      simp only [cell]
      rw [UInt8.toNat_ofNat', Nat.mod_eq_of_lt (show n.toNat < 2 ^ 8 by omega), show Int.ofNat n.toNat = n from Int.toNat_of_nonneg hb.1]
    simp only [hCells, List.getElem?_map, hci, Option.map_some, hcell]
  · rw [List.getElem?_eq_none (by omega), List.getElem?_eq_none (by simp [hCells]; omega)]

theorem view_hashes {fuel a len cap} {x : DataW H × List MemPlace} (h : DataW.trod enc Trym.prog W 0 (fun _ => true) true fuel 52 [.slice a len cap] = some x) :
    (∃ hs, HVp (fun g => g < W.heap.size) W a len hs) ∧ (a = none → len = 0 ∧ cap = 0) := by
  have h32 : Trym.prog.cellsOf 49 = 32 := by kernel_rfl
  rcases DataW.trod_slice Trym.underlying52 h with ⟨hcs, _⟩ | ⟨x, l, c, elems, rest, n, _, hcs, _, _, _, _, hel, he, _, _⟩
  · simp at hcs
    obtain ⟨rfl, rfl, rfl⟩ := hcs
    exact ⟨⟨[], rfl, fun j u hj => by simp at hj⟩, fun _ => ⟨rfl, rfl⟩⟩
  · simp at hcs
    obtain ⟨rfl, rfl, rfl⟩ := hcs
    refine ⟨?_, fun h => (by cases h)⟩
    obtain ⟨E, hE⟩ := choose_lt (α := List UInt8) (p := fun i d => d.length = 32 ∧ W.cells? 0 (x.add (i * 32)) 32 = some (hCells d)) (n := len) (fun i hi => by
      have hi' := he i hi
      rw [h32, List.getElem?_eq_getElem (by omega)] at hi'
      obtain ⟨cs, h1, h2⟩ := Option.bind_eq_some_iff.1 hi'
      obtain ⟨d, h3, rfl⟩ := view_hash h2
      exact ⟨d, h3, h1⟩)
    refine ⟨(List.range len).map E, by simp, fun k d hk => ?_⟩
    have hkl : k < len := by have := (List.getElem?_eq_some_iff.1 hk).1; simpa using this
    have hd : d = E k := by simp [hkl] at hk; exact hk.symm
    subst hd
    obtain ⟨e1, e2⟩ := hE k hkl
    have hr0 := World.cells?_some (hE 0 (by omega)).2
    obtain ⟨b, off, spot⟩ := x
    have hc0 := hr0.2.2 0 (by omega)
    rw [List.getElem?_eq_getElem (by rw [hCells_len (hE 0 (by omega)).1]; omega)] at hc0
    have hspot : spot = none := by simpa [Addr.add] using World.cell?_spot hc0
    subst hspot
    have hb : b < W.heap.size := by have := block_lt_of_cell hc0; simpa [Addr.add] using this
    rw [Go.WideShapes.add_plain] at e2
    exact ⟨e1, b, off, rfl, hb, range_of_cells e2⟩

theorem view_entry {fuel : Nat} {cs : List Value} {x : DataW H × List MemPlace} (hf : DataW.trod enc Trym.prog W 0 (fun _ => true) true fuel 63 cs = some x) :
    ∃ e : REnt, cs = eCells e ∧ EOk (fun g => g < W.heap.size) W e := by
  have h63 : Trym.prog.cellsOf 63 = 36 := by kernel_rfl
  have h40 : Trym.prog.cellsOf 40 = 1 := by kernel_rfl
  have h49 : Trym.prog.cellsOf 49 = 32 := by kernel_rfl
  have h52 : Trym.prog.cellsOf 52 = 1 := by kernel_rfl
  obtain ⟨xs, m, _, _, hs, hxl, hx⟩ := DataW.trod_struct Trym.underlying63 hf
  rw [h63] at hs
  have f0 : DataW.trod enc Trym.prog W 0 (fun _ => true) true m 40 ((cs.drop 0).take (Trym.prog.cellsOf 40)) = xs[0]? := hx 0 _ rfl
  have f1 : DataW.trod enc Trym.prog W 0 (fun _ => true) true m 40 ((cs.drop 1).take (Trym.prog.cellsOf 40)) = xs[1]? := hx 1 _ rfl
  have f2 : DataW.trod enc Trym.prog W 0 (fun _ => true) true m 49 ((cs.drop 2).take (Trym.prog.cellsOf 49)) = xs[2]? := hx 2 _ rfl
  have f3 : DataW.trod enc Trym.prog W 0 (fun _ => true) true m 40 ((cs.drop 34).take (Trym.prog.cellsOf 40)) = xs[3]? := hx 3 _ rfl
  have f4 : DataW.trod enc Trym.prog W 0 (fun _ => true) true m 52 ((cs.drop 35).take (Trym.prog.cellsOf 52)) = xs[4]? := hx 4 _ rfl
  rw [h40] at f0 f1 f3
  rw [h49] at f2
  rw [h52] at f4
  have hx5 : xs.length = 5 := hxl
  rw [List.getElem?_eq_getElem (by omega)] at f0 f1 f2 f3 f4
  obtain ⟨p, g0, _, _⟩ := DataW.trod_int Trym.underlying40 f0
  obtain ⟨ts, g1, _, _⟩ := DataW.trod_int Trym.underlying40 f1
  obtain ⟨d, hd, g2⟩ := view_hash f2
  obtain ⟨sz, g3, _, _⟩ := DataW.trod_int Trym.underlying40 f3
  obtain ⟨q, l, c, g4⟩ : ∃ q l c, (cs.drop 35).take 1 = [.slice q l c] := by
    rcases DataW.trod_slice Trym.underlying52 f4 with ⟨hcs, _⟩ | ⟨x, l, c, _, _, _, _, hcs, _⟩
    · exact ⟨_, _, _, hcs⟩
    · exact ⟨_, _, _, hcs⟩
  rw [g4] at f4
  obtain ⟨hv, hq⟩ := view_hashes f4
  refine ⟨⟨p, ts, d, sz, q, l, c⟩, ?_, hd, hq, hv⟩
  have e0 := split_at (cs := cs) 0 1
  have e1 := split_at (cs := cs) 1 1
  have e2 := split_at (cs := cs) 2 32
  have e3 := split_at (cs := cs) 34 1
  have e4 := split_at (cs := cs) 35 1
  have e5 : cs.drop 36 = [] := List.drop_eq_nil_of_le (by omega)
  rw [g0] at e0
  rw [g1] at e1
  rw [g2] at e2
  rw [g3] at e3
  rw [g4] at e4
  simp only [Nat.reduceAdd, Nat.zero_add, List.drop_zero] at e0 e1 e2 e3 e4
  rw [e0, e1, e2, e3, e4, e5]
  rfl

theorem view_recent {fuel a len cap} {x : DataW H × List MemPlace} (h : DataW.trod enc Trym.prog W 0 (fun _ => true) true fuel 45 [.slice a len cap] = some x) :
    ∃ es : List REnt, RV (fun g => g < W.heap.size) W a len es ∧ (a = none → len = 0 ∧ cap = 0) := by
  have h36 : Trym.prog.cellsOf 63 = 36 := by kernel_rfl
  rcases DataW.trod_slice Trym.underlying45 h with ⟨hcs, _⟩ | ⟨x, l, c, elems, rest, n, _, hcs, _, _, _, _, hel, he, _, _⟩
  · simp at hcs
    obtain ⟨rfl, rfl, rfl⟩ := hcs
    exact ⟨[], ⟨rfl, fun j u hj => by simp at hj⟩, fun _ => ⟨rfl, rfl⟩⟩
  · simp at hcs
    obtain ⟨rfl, rfl, rfl⟩ := hcs
    haveI : Inhabited REnt := ⟨⟨0, 0, [], 0, none, 0, 0⟩⟩
    obtain ⟨E, hE⟩ := choose_lt (α := REnt) (p := fun i e => EOk (fun g => g < W.heap.size) W e ∧ W.cells? 0 (x.add (i * 36)) 36 = some (eCells e)) (n := len) (fun i hi => by
      have hi' := he i hi
      rw [h36, List.getElem?_eq_getElem (by omega)] at hi'
      obtain ⟨cs, h1, h2⟩ := Option.bind_eq_some_iff.1 hi'
      obtain ⟨d, rfl, h3⟩ := view_entry h2
      exact ⟨d, h3, h1⟩)
    refine ⟨(List.range len).map E, ⟨by simp, fun k d hk => ?_⟩, fun h => (by cases h)⟩
    have hkl : k < len := by have := (List.getElem?_eq_some_iff.1 hk).1; simpa using this
    have hd : d = E k := by simp [hkl] at hk; exact hk.symm
    subst hd
    obtain ⟨e1, e2⟩ := hE k hkl
    have hr0 := World.cells?_some (hE 0 (by omega)).2
    obtain ⟨b, off, spot⟩ := x
    have hc0 := hr0.2.2 0 (by omega)
    rw [List.getElem?_eq_getElem (by rw [eCells_len (hE 0 (by omega)).1.1]; omega)] at hc0
    have hspot : spot = none := by simpa [Addr.add] using World.cell?_spot hc0
    subst hspot
    have hb : b < W.heap.size := by have := block_lt_of_cell hc0; simpa [Addr.add] using this
    rw [Go.WideShapes.add_plain] at e2
    exact ⟨⟨b, off, rfl, hb, range_of_cells e2⟩, e1⟩
end

theorem law4 (b : Bool) (pos : Int) (q : Option Addr) (n c : Nat) (es : List REnt) (w : World) (s : RV (fun g => g < w.heap.size) w q n es) (hq : q = none → n = 0 ∧ c = 0) :
    Calls Trym.prog 4 #[.bool b, .slice q n c, .int .u64 pos] w fun e w' => e = .returned (.bool true) ∧ Below w.heap.size w w' := by
  cases b with
  | false => exact law4_false pos q n c es w s hq
  | true => exact law4_true pos q n c es w s hq
end Go.Proofs.Qxb6601530aMods
