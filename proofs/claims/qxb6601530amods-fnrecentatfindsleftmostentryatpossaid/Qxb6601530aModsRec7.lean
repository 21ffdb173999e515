import Derived.Test.Qxb6601530aModsRec6
namespace Go.Proofs.Qxb6601530aMods
open Go.RowKit
open Extern.Stop (cell)

theorem results_five {P : Program} {fn : Func} {a b p c d : Tmp} {ty : TypeId} (h : fn.results = #[.tmp a, .tmp b, .cell p ty, .tmp c, .tmp d]) (tmps : Array Value) (w : World) (g : Nat) (cs : Array Value) (va vb vc vd : Value)
    (ha : tmps.getD a undef = va) (hb : tmps.getD b undef = vb) (hp : tmps.getD p undef = .pointer (some ⟨g, 0, none⟩)) (hc : tmps.getD c undef = vc) (hd : tmps.getD d undef = vd)
    (hl : (loadVar ty ⟨g, 0, none⟩).run P w = .ok (.agg cs) w) :
    (results fn tmps).run P w = .ok (.tuple #[va, vb, .agg cs, vc, vd]) w := by
  have ha' : tmps[a]?.getD undef = va := by simpa using ha
  have hb' : tmps[b]?.getD undef = vb := by simpa using hb
  have hp' : tmps[p]?.getD undef = .pointer (some ⟨g, 0, none⟩) := by simpa using hp
  have hc' : tmps[c]?.getD undef = vc := by simpa using hc
  have hd' : tmps[d]?.getD undef = vd := by simpa using hd
  simp [results, h, ha', hb', hp', hc', hd', asAddr, hl]

/-- what the region's loads read, and the cells that it writes -/
abbrev HeldF (b : Nat) (p ts sz : Int) (H : List Value) (q : Option Addr) (m c : Nat) (wx : World) : Prop :=
  wx.cell? ⟨b, 0, none⟩ = some (.int .u64 p) ∧ wx.cell? ⟨b, 1, none⟩ = some (.int .u64 ts) ∧ wx.rangeAt b 2 H ∧ wx.cell? ⟨b, 34, none⟩ = some (.int .u64 sz) ∧ wx.cell? ⟨b, 35, none⟩ = some (.slice q m c) ∧ wx.there (b + 1) 0 32

theorem heldF_set {b : Nat} {p ts sz : Int} {H : List Value} {q : Option Addr} {m c : Nat} {wx : World} (h : HeldF b p ts sz H q m c wx) (vs : List Value) : HeldF b p ts sz H q m c (wx.setCells (b + 1) 0 vs) := by
  have hb := heap_setCells_ne (b + 1) vs 0 wx b (by omega)
  exact ⟨(World.cell?_of_block (a := ⟨b, 0, none⟩) hb).trans h.1, (World.cell?_of_block (a := ⟨b, 1, none⟩) hb).trans h.2.1, range_same h.2.2.1 hb, (World.cell?_of_block (a := ⟨b, 34, none⟩) hb).trans h.2.2.2.1, (World.cell?_of_block (a := ⟨b, 35, none⟩) hb).trans h.2.2.2.2.1, World.there_setCells h.2.2.2.2.2 _ _ _⟩

theorem range_of_row {w : World} {b : Nat} {cs : List Value} {t : TypeId} (h : w.heap[b]? = some (.cells cs.toArray t (0, 0))) : w.rangeAt b 0 cs := fun j v hj => by
  rw [Nat.zero_add, cell_of_row w b j _ t (0, 0) h]
  simpa using hj
theorem mkE_range {w : World} {b : Nat} {p ts sz : Int} {H : List Value} {q : Option Addr} {m c : Nat} (hl : H.length = 32) (h : w.rangeAt b 0 (mkE p ts H sz q m c)) (ht : w.there (b + 1) 0 32) : HeldF b p ts sz H q m c w := by
  refine ⟨h 0 _ rfl, ?_, fun j v hj => ?_, ?_, ?_, ht⟩
  · have := h 1 (.int .u64 ts) rfl
    rwa [Nat.zero_add] at this
  · have hjl := (List.getElem?_eq_some_iff.1 hj).1
    have := h (j + 2) v (by
      show (H ++ [.int .u64 sz, .slice q m c])[j]? = some v
      rw [List.getElem?_append_left hjl]
      exact hj)
    rwa [show 0 + (j + 2) = 2 + j by omega] at this
  · have := h 34 (.int .u64 sz) (by
      show (H ++ [.int .u64 sz, .slice q m c])[32]? = _
      rw [List.getElem?_append_right (by omega), hl]
      rfl)
    rwa [Nat.zero_add] at this
  · have := h 35 (.slice q m c) (by
      show (H ++ [.int .u64 sz, .slice q m c])[33]? = _
      rw [List.getElem?_append_right (by omega), hl]
      rfl)
    rwa [Nat.zero_add] at this

set_option maxRecDepth 100000 in
set_option maxHeartbeats 2000000 in
theorem fields22 (p ts sz : Int) (H : List Value) (q : Option Addr) (m c : Nat) (w : World) (hl : H.length = 32) (h1 : ∀ v ∈ H, v.oneCell' = true) :
    Calls Trym.prog 22 #[.agg (mkE p ts H sz q m c).toArray] w fun e w' => e = .returned (.tuple #[.int .u64 p, .int .u64 ts, .agg H.toArray, .int .u64 sz, .slice q m c]) ∧ Below w.heap.size w w' := by
  have KB := keep (((Below.refl w.heap.size w).alloc (Nat.le_refl _) (.cells (mkE p ts H sz q m c).toArray 56)).alloc (by simp) (.cells zs32 49))
  have KT : ((w.alloc (.cells (mkE p ts H sz q m c).toArray 56)).alloc (.cells zs32 49)).there (w.heap.size + 1) 0 32 := by
    have := there_new (w.alloc (.cells (mkE p ts H sz q m c).toArray 56)) zs32 49
    simpa [show zs32.size = 32 from rfl] using this
  have KH := keep (show HeldF w.heap.size p ts sz H q m c ((w.alloc (.cells (mkE p ts H sz q m c).toArray 56)).alloc (.cells zs32 49)).drew from mkE_range hl (range_of_row (heap_alloc2_old w _ _)) KT)
  have KT' := keep KT
  clear KT
  have I1 : Option.map (fun x => x.size) (Trym.prog.info? 49) = some H.length := by rw [hl]; exact info49s
  have hu49 := Trym.underlying49
  have KI := keep I1
  generalize (mkE p ts H sz q m c).toArray = E at *
  go_enter Trym.func22, Trym.ntmps22
  go_wp2_with fail
  go_region_held3 (HeldF w.heap.size p ts sz H q m c) (first | exact KH.out | assumption | exact heldF_set KH.out _) (fail)
  have KX := keep (World.rangeAt_setCells_same ((w.alloc (.cells E 56)).alloc (.cells zs32 49)).drew (w.heap.size + 1) 0 H (by rw [hl]; exact KT'.out))
  clear I1 hu49 h1 hl
  go_wp2_with fail
  refine bodyPost_ret (v := .tuple #[.int .u64 p, .int .u64 ts, .agg H.toArray, .int .u64 sz, .slice q m c]) (results_five rfl _ _ (w.heap.size + 1) H.toArray _ _ _ _ rfl rfl rfl rfl rfl (run_loadVar_mid _ (w.heap.size + 1) 0 49 H _ KX.out Trym.underlying49 rfl KI.out)) rfl ?_
  exact ⟨rfl, below_setCells KB.out.drew (by omega) _ _⟩
end Go.Proofs.Qxb6601530aMods
