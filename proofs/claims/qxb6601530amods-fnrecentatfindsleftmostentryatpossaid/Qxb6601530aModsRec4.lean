import Derived.Test.Qxb6601530aModsRec3
namespace Go.Proofs.Qxb6601530aMods
open Go.RowKit
open Extern.Stop (cell)

/-- the cells of a new entry -/
def zs36 : Array Value := #[.int .u64 0, .int .u64 0, .int .u8 0, .int .u8 0, .int .u8 0, .int .u8 0, .int .u8 0, .int .u8 0, .int .u8 0, .int .u8 0, .int .u8 0, .int .u8 0, .int .u8 0, .int .u8 0, .int .u8 0, .int .u8 0, .int .u8 0, .int .u8 0, .int .u8 0, .int .u8 0, .int .u8 0, .int .u8 0, .int .u8 0, .int .u8 0, .int .u8 0, .int .u8 0, .int .u8 0, .int .u8 0, .int .u8 0, .int .u8 0, .int .u8 0, .int .u8 0, .int .u8 0, .int .u8 0, .int .u64 0, .slice none 0 0]
/-- the cells of a new hash -/
def zs32 : Array Value := #[.int .u8 0, .int .u8 0, .int .u8 0, .int .u8 0, .int .u8 0, .int .u8 0, .int .u8 0, .int .u8 0, .int .u8 0, .int .u8 0, .int .u8 0, .int .u8 0, .int .u8 0, .int .u8 0, .int .u8 0, .int .u8 0, .int .u8 0, .int .u8 0, .int .u8 0, .int .u8 0, .int .u8 0, .int .u8 0, .int .u8 0, .int .u8 0, .int .u8 0, .int .u8 0, .int .u8 0, .int .u8 0, .int .u8 0, .int .u8 0, .int .u8 0, .int .u8 0]

theorem built51 (ts : Int) (H : List Value) (h : H.length = 32) : Trym.prog.built 51 [(0, .int .u64 ts), (1, .agg H.toArray)] = some ((.int .u64 ts :: H) : List Value).toArray := by
  obtain ⟨a0, a1, a2, a3, a4, a5, a6, a7, a8, a9, a10, a11, a12, a13, a14, a15, a16, a17, a18, a19, a20, a21, a22, a23, a24, a25, a26, a27, a28, a29, a30, a31, rfl⟩ := list32 h
  kernel_rfl
theorem built54 (sz : Int) (q : Option Addr) (m c : Nat) : Trym.prog.built 54 [(0, .int .u64 sz), (1, .slice q m c)] = some #[.int .u64 sz, .slice q m c] := by kernel_rfl
theorem built56 (p ts sz : Int) (H : List Value) (q : Option Addr) (m c : Nat) (h : H.length = 32) : Trym.prog.built 56 [(0, .int .u64 p), (1, .agg (.int .u64 ts :: H : List Value).toArray), (2, .agg #[.int .u64 sz, .slice q m c])] = some (mkE p ts H sz q m c).toArray := by
  obtain ⟨a0, a1, a2, a3, a4, a5, a6, a7, a8, a9, a10, a11, a12, a13, a14, a15, a16, a17, a18, a19, a20, a21, a22, a23, a24, a25, a26, a27, a28, a29, a30, a31, rfl⟩ := list32 h
  kernel_rfl
theorem built56z : Trym.prog.built 56 [] = some zs36 := by kernel_rfl
theorem info56s : Option.map (fun x => x.size) (Trym.prog.info? 56) = some 36 := by kernel_rfl
theorem info49s : Option.map (fun x => x.size) (Trym.prog.info? 49) = some 32 := by kernel_rfl
theorem zs36_one : zs36.all (·.oneCell') = true := by kernel_rfl

theorem below_setRow {B g : Nat} {a w : World} (h : Below B a w) (hB : B ≤ g) (c : Array Value) : Below B a (w.setRow g c) :=
  { h with block := fun i hi => (setRow_other w g i c (by omega)).trans (h.block i hi), size := by simpa using h.size }

theorem mkE_one (p ts : Int) {H : List Value} (sz : Int) (q : Option Addr) (m c : Nat) (h : ∀ v ∈ H, v.oneCell' = true) : ∀ v ∈ mkE p ts H sz q m c, v.oneCell' = true := by
  intro v hv
  simp only [mkE, List.mem_cons, List.mem_append, List.not_mem_nil, or_false] at hv
  rcases hv with rfl | rfl | hv | rfl | rfl
  · rfl
  · rfl
  · exact h v hv
  · rfl
  · rfl

set_option maxRecDepth 100000 in
set_option maxHeartbeats 1000000 in
theorem make20 (p ts sz : Int) (H : List Value) (q : Option Addr) (m c : Nat) (w : World) (hl : H.length = 32) (h1 : ∀ v ∈ H, v.oneCell' = true) :
    Calls Trym.prog 20 #[.int .u64 p, .int .u64 ts, .agg H.toArray, .int .u64 sz, .slice q m c] w fun e w' => e = .returned (.agg (mkE p ts H sz q m c).toArray) ∧ Below w.heap.size w w' := by
  have KB := keep (((Below.refl w.heap.size w).alloc (Nat.le_refl _) (.cells H.toArray 49)).alloc (by simp) (.cells zs36 56))
  have KI := keep (show Option.map (fun x => x.size) (Trym.prog.info? 49) = some H.toArray.size by rw [List.size_toArray, hl]; exact info49s)
  have KJ := keep (show Option.map (fun x => x.size) (Trym.prog.info? 56) = some (mkE p ts H sz q m c).toArray.size by rw [List.size_toArray, mkE_len p ts sz q m c hl]; exact info56s)
  have K1 := keep (all_oneCell_toArray (mkE_one p ts sz q m c h1))
  have KZ := keep (show zs36.size = (mkE p ts H sz q m c).toArray.size by have hx := mkE_len p ts sz q m c hl; simp only [List.size_toArray, hx]; rfl)
  have KW1 := keep (heap_alloc2_old w (.cells H.toArray 49) (.cells zs36 56))
  have KW2 := keep (heap_alloc2_new w (.cells H.toArray 49) (.cells zs36 56))
  have B51 := keep (built51 ts H hl)
  have B56 := keep (built56 p ts sz H q m c hl)
  generalize (mkE p ts H sz q m c).toArray = D at *
  generalize ((.int .u64 ts :: H) : List Value).toArray = D1 at *
  generalize H.toArray = idc at *
  clear h1 hl
  go_enter Trym.func20, Trym.ntmps20
  go_wp2_with (first | (refine wpList_load_row rfl 49 _ rfl w.heap.size rfl 49 idc (0, 0) _ KW1.out Trym.underlying49 rfl KI.out ?_) | (refine wpList_build_to rfl 51 _ rfl D1 ?hb1 ?_) | (refine wpList_build_to rfl 54 _ rfl #[.int .u64 sz, .slice q m c] ?hb2 ?_) | (refine wpList_build_to rfl 56 _ rfl D ?hb3 ?_) | (refine wpList_store_row rfl 56 _ _ rfl (w.heap.size + 1) D rfl rfl 56 zs36 KW2.out KJ.out KZ.out K1.out ?_))
  case hb1 => exact B51.out
  case hb2 => exact built54 sz q m c
  case hb3 => exact B56.out
  refine bodyPost_ret (v := .agg D) (results_cell_row rfl _ _ (w.heap.size + 1) 56 D (0, 0) _ rfl (setRow_heap _ (w.heap.size + 1) zs36 D 56 _ KW2.out) Trym.underlying56 rfl KJ.out) rfl ?_
  exact ⟨rfl, below_setRow KB.out (by omega) _⟩

theorem results_cell_slot {P : Program} {fn : Func} {p s : Tmp} {ty : TypeId} (h : fn.results = #[.cell p ty, .tmp s]) (tmps : Array Value) (w : World) (g : Nat) (t : TypeId) (cs : Array Value) (fr : Nat × Nat) (d : TypeDesc) (v : Value)
    (hp : tmps.getD p undef = .pointer (some ⟨g, 0, none⟩)) (hv : tmps.getD s undef = v) (hg : w.heap[g]? = some (.cells cs t fr))
    (hu : P.underlying ty = some d) (hd : (match d with | .struct _ | .array _ _ => true | _ => false) = true) (hi : (P.info? ty).map (·.size) = some cs.size) :
    (results fn tmps).run P w = .ok (.tuple #[.agg cs, v]) w := by
  have hp' : tmps[p]?.getD undef = .pointer (some ⟨g, 0, none⟩) := by simpa using hp
  have hv' : tmps[s]?.getD undef = v := by simpa using hv
  simp [results, h, hp', hv', asAddr, run_loadVar_row w g t ty cs fr d hg hu hd hi]

set_option maxRecDepth 100000 in
set_option maxHeartbeats 1000000 in
theorem at32_nil (pos : Int) (w : World) : Calls Trym.prog 32 #[.pointer none, .int .u64 pos] w fun e w' => e = .returned (.tuple #[.agg zs36, .bool false]) ∧ Below w.heap.size w w' := by
  have KB := keep (below_alloc w (.cells zs36 56))
  have KJ := keep (show Option.map (fun x => x.size) (Trym.prog.info? 56) = some zs36.size from info56s)
  have KW := keep (heap_alloc_new w (.cells zs36 56))
  go_enter Trym.func32, Trym.ntmps32
  go_wp2_with (first | (refine wpList_build_to rfl 56 _ rfl zs36 ?hb ?_) | (rw [at_store 56 (.tmp 4) (.tmp 10)]; refine at_op ?_; refine wpList_store_row rfl 56 _ _ rfl w.heap.size zs36 rfl rfl 56 zs36 KW.out KJ.out rfl zs36_one ?_))
  case hb => exact built56z
  refine bodyPost_ret (v := .tuple #[.agg zs36, .bool false]) (results_cell_slot rfl _ _ w.heap.size 56 zs36 (0, 0) _ _ rfl rfl (setRow_heap _ w.heap.size zs36 zs36 56 _ KW.out) Trym.underlying56 rfl KJ.out) rfl ?_
  exact ⟨rfl, below_setRow KB.out (Nat.le_refl _) _⟩
end Go.Proofs.Qxb6601530aMods
