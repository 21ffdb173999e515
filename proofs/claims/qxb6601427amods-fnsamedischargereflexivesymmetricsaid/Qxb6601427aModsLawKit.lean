import Derived.Test.Qxb6601427aModsSame
import Derived.Deep.CutRange
import Derived.Deep.RegionWith
import Derived.Deep.WholeRow
import Derived.Deep.RegionHeld3
namespace Go.Proofs.Qxb6601427aMods
open Go.RowKit

theorem SV.next {w w' : World} {q : Option Addr} {n : Nat} {xs : List Value} (h : SV w.heap.size w q n xs) (hb : Below w.heap.size w w') : SV w'.heap.size w' q n xs := (h.below hb (Nat.le_refl _)).mono hb.size
theorem DV.next {w w' : World} {q : Option Addr} {n : Nat} {ds : List (List Int)} (h : DV w.heap.size w q n ds) (hb : Below w.heap.size w w') : DV w'.heap.size w' q n ds := (h.below hb (Nat.le_refl _)).mono hb.size
theorem CV.next {w w' : World} {q : Option Addr} {n : Nat} {ss : List ByteArray} {ds : List (List Int)} (h : CV w.heap.size w q n ss ds) (hb : Below w.heap.size w w') : CV w'.heap.size w' q n ss ds := (h.below hb (Nat.le_refl _)).mono hb.size
theorem Dis.ok.next {d : Dis} {w w' : World} (h : d.ok w.heap.size w) (hb : Below w.heap.size w w') : d.ok w'.heap.size w' := (h.below hb (Nat.le_refl _)).mono hb.size

/-- block g holds the row c -/
def RowAt (w : World) (g : Nat) (c : Array Value) (t : TypeId) : Prop := w.heap[g]? = some (.cells c t (0, 0))
theorem RowAt.next {w w' : World} {g : Nat} {c : Array Value} {t : TypeId} (h : RowAt w g c t) (hb : Below w.heap.size w w') : RowAt w' g c t :=
  (hb.block g (Array.getElem?_eq_some_iff.1 h).1).trans h
/-- nothing below the first world's end has turned, and it has not shrunk -/
def Since (w0 w : World) : Prop := Below w0.heap.size w0 w
theorem Since.next {w0 w w' : World} (h : Since w0 w) (hb : Below w.heap.size w w') : Since w0 w' := Below.trans h (hb.mono (Below.size h))
theorem below_alloc (w : World) (o : Obj) : Below w.heap.size w (w.alloc o) := (Below.refl _ _).alloc (Nat.le_refl _) o

/-- what the region that copies leans on: nothing old has turned, and the identifier stands in its box -/
abbrev Held (w0 : World) (b : Nat) (cs : List Value) (W : World) : Prop := Below w0.heap.size w0 W ∧ W.rangeAt b 0 cs
theorem held_of {w0 : World} {b : Nat} {ids : List UInt8} (h : RowAt w0 b (idCells ids) 30) : Held w0 b (ids.map Extern.Stop.cell) w0 := by
  refine ⟨Below.refl _ _, fun j v hj => ?_⟩
  rw [Nat.zero_add, cell_of_row w0 b j _ 30 (0, 0) h]
  simpa [idCells] using hj
theorem held_next {w0 W W' : World} {b : Nat} {cs : List Value} (h : Held w0 b cs W) (hb : Below W.heap.size W W') : Held w0 b cs W' :=
  ⟨h.1.trans (hb.mono h.1.size), fun j v hj => by
    have hc := h.2 j v hj
    have hlt := block_lt_of_cell hc
    exact (hb.cell (p := ⟨b, 0 + j, none⟩) hlt).trans hc⟩
theorem held_drew {w0 W : World} {b : Nat} {cs : List Value} (h : Held w0 b cs W) : Held w0 b cs W.drew := ⟨h.1.drew, h.2⟩
theorem held_alloc {w0 W : World} {b : Nat} {cs : List Value} (h : Held w0 b cs W) (o : Obj) : Held w0 b cs (W.alloc o) := held_next h (below_alloc W o)

theorem cv_small {w w' : World} {q : Option Addr} {n : Nat} {ss : List ByteArray} {ds : List (List Int)} (hb : w.heap.size ≤ w'.heap.size) (h : CVp (orNew (fun g => g < w.heap.size) w w') w' q n ss ds) : CV w'.heap.size w' q n ss ds :=
  CVp.of_same h fun g hg => ⟨by rcases hg with hg | hg <;> omega, rfl⟩
theorem SVp.next {I : Nat → Prop} {w w' : World} {q : Option Addr} {n : Nat} {xs : List Value} (h : SVp I w q n xs) (hI : ∀ g, I g → g < w.heap.size) (hb : Below w.heap.size w w') : SVp I w' q n xs := h.of_same fun g hg => ⟨hg, hb.block g (hI g hg)⟩
theorem DVp.next {I : Nat → Prop} {w w' : World} {q : Option Addr} {n : Nat} {ds : List (List Int)} (h : DVp I w q n ds) (hI : ∀ g, I g → g < w.heap.size) (hb : Below w.heap.size w w') : DVp I w' q n ds := h.of_same fun g hg => ⟨hg, hb.block g (hI g hg)⟩
theorem DVp.toDV {L B : Nat} {w : World} {q : Option Addr} {n : Nat} {ds : List (List Int)} (h : DVp (fun g => L ≤ g ∧ g < B) w q n ds) : DV B w q n ds := h.of_same fun _ hg => ⟨hg.2, rfl⟩

theorem Dis.ok_of (d : Dis) {w : World} (hi : d.ids.length = 16) (hn : d.n ≤ 1048576) (hs : SV w.heap.size w d.sq d.m (d.gs.map (Value.int .u8))) (hc : CV w.heap.size w d.cq d.n d.ss d.ds) : d.ok w.heap.size w := ⟨hi, hn, hs, hc⟩

theorem row_alloc {W W' : World} {c : Array Value} {t : TypeId} (hb : Below (W.alloc (.cells c t)).heap.size (W.alloc (.cells c t)) W') : RowAt W' W.heap.size c t := RowAt.next (heap_alloc_new W _) hb

theorem row_alloc2 {w0 W W' : World} {b : Nat} {cs : List Value} {c : Array Value} {t : TypeId} (h : Held w0 b cs W) (hb : Below (W.alloc (.cells c t)).heap.size (W.alloc (.cells c t)) W') : RowAt W' W.heap.size c t ∧ w0.heap.size ≤ W.heap.size := ⟨row_alloc hb, h.1.size⟩
theorem held_set {w0 W : World} {b g : Nat} {cs : List Value} (h : Held w0 b cs W) (hb : b < w0.heap.size) (hg : w0.heap.size ≤ g) (c : Array Value) : Held w0 b cs (W.setRow g c) :=
  ⟨below_setRow h.1 hg c, fun j v hj => by
    rw [World.cell?_of_block (w := W) (setRow_other W g b c (by omega))]
    exact h.2 j v hj⟩

theorem row_alloc3 {w0 W' : World} {c : Array Value} {t : TypeId} (hb : Below (w0.alloc (.cells c t)).drew.heap.size (w0.alloc (.cells c t)).drew W') : RowAt W' w0.heap.size c t ∧ w0.heap.size ≤ w0.heap.size :=
  ⟨(hb.block w0.heap.size (by show w0.heap.size < (w0.alloc _).heap.size; simp)).trans (heap_alloc_new w0 _), Nat.le_refl _⟩

theorem store_new (C : Dis) (h : C.ids.length = 16) (W : World) : (storeCells ⟨W.heap.size, 0, none⟩ C.cells.toList).run Trym.prog (W.alloc (.cells zs18 42)) = .ok () (W.alloc (.cells C.cells 42)) :=
  run_storeCells_new W 42 zs18 C.cells (by rw [Dis.cells_size h]; kernel_rfl) (by rw [Dis.cells_size h]; rfl) (Dis.cells_one C)
theorem store_old (C : Dis) (h : C.ids.length = 16) {W : World} {g : Nat} (hg : RowAt W g zs18 42) : (storeCells ⟨g, 0, none⟩ C.cells.toList).run Trym.prog W = .ok () (W.setRow g C.cells) := by
  have := run_storeVar_row (P := Trym.prog) W g 42 42 zs18 C.cells hg (by rw [Dis.cells_size h]; kernel_rfl) (by rw [Dis.cells_size h]; rfl) (Dis.cells_one C)
  have hi : (Trym.prog.info? 42).map (·.size) = some C.cells.size := by rw [Dis.cells_size h]; kernel_rfl
  cases hq : Trym.prog.info? 42 with
  | none => simp [hq] at hi
  | some i =>
    have hs : C.cells.size = i.size := by simp [hq] at hi; omega
    simpa [storeVar, sizeOf, typeInfo, hq, Value.cells, hs] using this

/-- the same views, their blocks between L and U -/
def SVi (L U : Nat) (w : World) (q : Option Addr) (n : Nat) (xs : List Value) : Prop := SVp (fun g => L ≤ g ∧ g < U) w q n xs ∧ U ≤ w.heap.size
def DVi (L U : Nat) (w : World) (q : Option Addr) (n : Nat) (ds : List (List Int)) : Prop := DVp (fun g => L ≤ g ∧ g < U) w q n ds ∧ U ≤ w.heap.size
theorem SVi.next {L U : Nat} {w w' : World} {q : Option Addr} {n : Nat} {xs : List Value} (h : SVi L U w q n xs) (hb : Below w.heap.size w w') : SVi L U w' q n xs := ⟨h.1.next (fun _ hg => Nat.lt_of_lt_of_le hg.2 h.2) hb, Nat.le_trans h.2 hb.size⟩
theorem DVi.next {L U : Nat} {w w' : World} {q : Option Addr} {n : Nat} {ds : List (List Int)} (h : DVi L U w q n ds) (hb : Below w.heap.size w w') : DVi L U w' q n ds := ⟨h.1.next (fun _ hg => Nat.lt_of_lt_of_le hg.2 h.2) hb, Nat.le_trans h.2 hb.size⟩
theorem SVi.small {L U : Nat} {w : World} {q : Option Addr} {n : Nat} {xs : List Value} (h : SVi L U w q n xs) : SV w.heap.size w q n xs := SVp.of_same h.1 fun _ hg => ⟨Nat.lt_of_lt_of_le hg.2 h.2, rfl⟩
/-- block g lies outside -/
def Away (g L U : Nat) : Prop := g < L ∨ U ≤ g
theorem lt_of_row {w : World} {g : Nat} {c : Array Value} {t : TypeId} (h : RowAt w g c t) : g < w.heap.size := (Array.getElem?_eq_some_iff.1 h).1

theorem dvi_of {w w' : World} {q : Option Addr} {n : Nat} {ds : List (List Int)} (h : DVp (fun g => w.heap.size ≤ g ∧ g < w'.heap.size) w' q n ds) : DVi w.heap.size w'.heap.size w' q n ds := ⟨h, Nat.le_refl _⟩
theorem svi_of {w w' : World} {e : TypeId} {q : Option Addr} {n c m : Nat} {xs : List Value} (h : w'.ownsRow w.heap.size e 1 (.slice q n c) m xs) : SVi w.heap.size w'.heap.size w' q n xs := ⟨SVp.of_owns h, Nat.le_refl _⟩
theorem lt_new (w : World) (o : Obj) : w.heap.size < (w.alloc o).heap.size := by simp
theorem away_lt {g L U : Nat} {w : World} {q : Option Addr} {n : Nat} {ds : List (List Int)} (h : g < L) (_ : DVi L U w q n ds) : Away g L U := .inl h
theorem away_lt' {g L U : Nat} {w : World} {q : Option Addr} {n : Nat} {xs : List Value} (h : g < L) (_ : SVi L U w q n xs) : Away g L U := .inl h
theorem away_ge {L U : Nat} {w : World} {q : Option Addr} {n : Nat} {ds : List (List Int)} (h : DVi L U w q n ds) : Away w.heap.size L U := .inr h.2
theorem away_ge' {L U : Nat} {w : World} {q : Option Addr} {n : Nat} {xs : List Value} (h : SVi L U w q n xs) : Away w.heap.size L U := .inr h.2

theorem dvi_ex {w w' : World} {q : Option Addr} {n : Nat} {ds : List (List Int)} (h : DVp (fun g => w.heap.size ≤ g ∧ g < w'.heap.size) w' q n ds) : ∃ L U, DVi L U w' q n ds ∧ ∀ g, g < w.heap.size → Away g L U := ⟨_, _, dvi_of h, fun _ hg => .inl hg⟩
theorem svi_ex {w w' : World} {e : TypeId} {q : Option Addr} {n c m : Nat} {xs : List Value} (h : w'.ownsRow w.heap.size e 1 (.slice q n c) m xs) : ∃ L U, SVi L U w' q n xs ∧ ∀ g, g < w.heap.size → Away g L U := ⟨_, _, svi_of h, fun _ hg => .inl hg⟩
theorem lt_row {W W' : World} {c : Array Value} {t : TypeId} (_ : Below (W.alloc (.cells c t)).heap.size (W.alloc (.cells c t)) W') : W.heap.size < (W.alloc (.cells c t)).heap.size := by simp
theorem cv_small2 {L U : Nat} {w w' : World} {q : Option Addr} {n : Nat} {ss : List ByteArray} {ds : List (List Int)} (hU : U ≤ w'.heap.size) (h : CVp (orNew (fun b => L ≤ b ∧ b < U) w w') w' q n ss ds) : CV w'.heap.size w' q n ss ds :=
  CVp.of_same h fun g hg => ⟨by rcases hg with hg | hg <;> omega, rfl⟩

theorem dvi_lt {L U : Nat} {w : World} {q : Option Addr} {n : Nat} {ds : List (List Int)} (h : DVi L U w q n ds) : ∀ g, (fun b => L ≤ b ∧ b < U) g → g < w.heap.size := fun _ hg => Nat.lt_of_lt_of_le hg.2 h.2
theorem calls_alloc {P : Program} {f : FuncId} {args : Array Value} {w : World} {o : Obj} {R : Ending → World → Prop} : Calls P f args (w.alloc o) R = AtOp (Calls P f args (w.alloc o) R) := rfl

theorem u_alloc {L U : Nat} {w w' : World} {o : Obj} {q : Option Addr} {n : Nat} {ds : List (List Int)} (h : DVi L U w q n ds) (hb : Below (w.alloc o).heap.size (w.alloc o) w') : U ≤ (w.alloc o).heap.size ∧ U ≤ w'.heap.size :=
  ⟨(h.next (below_alloc w o)).2, Nat.le_trans (h.next (below_alloc w o)).2 hb.size⟩

theorem at_load_g {P : Program} {ops : Array Oper} {Q : Exit → Act → World → Prop} {rest : List Oper} {a : Act} {w : World} (ty : TypeId) (x : Operand) {d : Option Tmp} {t : TypeId} {s : String} {af : Array Edge} {gd : Nat × Bool} : wpList P ops Q ({ dst := d, op := .load ty x, type := t, pos := s, after := af, guard := some gd } :: rest) a w = AtOp (wpList P ops Q ({ dst := d, op := .load ty x, type := t, pos := s, after := af, guard := some gd } :: rest) a w) := rfl
theorem wpList_load_row_g {P : Program} {ops : Array Oper} {rest : List Oper} {o : Oper} {a : Act} {w : World} {Q : Exit → Act → World → Prop} (hw : Region.wanted o (yielded ops a.tmps) = true) (ty : TypeId) (x : Operand) (ho : o.op = .load ty x)
    (g : Nat) (hx : a.eval x = .pointer (some ⟨g, 0, none⟩)) (t : TypeId) (cs : Array Value) (fr : Nat × Nat) (d : TypeDesc) (hg : w.heap[g]? = some (.cells cs t fr))
    (hu : P.underlying ty = some d) (hd : (match d with | .struct _ | .array _ _ => true | _ => false) = true) (hi : (P.info? ty).map (·.size) = some cs.size)
    (h : wpList P ops Q rest (a.put o.dst (.agg cs)) w) : wpList P ops Q (o :: rest) a w :=
  wpList_step fun K hK => by rw [if_pos hw]; exact wp_load_row ty x ho g hx t cs fr d hg hu hd hi (hK _ _ h)

/-- what the last region leans on -/
abbrev Held20 (w0 : World) (gA gB : Nat) (a b : Array Value) (W : World) : Prop := RowAt W gA a 42 ∧ RowAt W gB b 42 ∧ Below w0.heap.size w0 W
theorem held20_drew {w0 W : World} {gA gB : Nat} {a b : Array Value} (h : Held20 w0 gA gB a b W) : Held20 w0 gA gB a b W.drew := ⟨h.1, h.2.1, h.2.2.drew⟩
theorem held20_next {w0 W W' : World} {gA gB : Nat} {a b : Array Value} (h : Held20 w0 gA gB a b W) (hb : Below W.heap.size W W') : Held20 w0 gA gB a b W' := ⟨h.1.next hb, h.2.1.next hb, h.2.2.trans (hb.mono h.2.2.size)⟩
theorem held20_below {w0 W : World} {gA gB : Nat} {a b : Array Value} (h : Held20 w0 gA gB a b W) : Below w0.heap.size w0 W := h.2.2
theorem yields_row {P : Program} {ops : Array Oper} {S : World → Prop} {op : Oper} {a : Act} (hw : Region.wanted op (yielded ops a.tmps) = true) (ty : TypeId) (x : Operand) (ho : op.op = .load ty x)
    (g : Nat) (hx : a.eval x = .pointer (some ⟨g, 0, none⟩)) (t : TypeId) (cs : Array Value) (fr : Nat × Nat) (d : TypeDesc) (hS : ∀ w, S w → w.heap[g]? = some (.cells cs t fr))
    (hu : P.underlying ty = some d) (hd : (match d with | .struct _ | .array _ _ => true | _ => false) = true) (hi : (P.info? ty).map (·.size) = some cs.size) : YieldsIf P ops S op (.agg cs) a :=
  .inl ⟨hw, fun w hw' => by
    unfold execOp
    simp only [ho, hx, Instr.loadAt, Instr.sureAddr, Sem.run_bind, Sem.run_pure, Result.andThen_ok, run_loadVar_row w g t ty cs fr d (hS w hw') hu hd hi]⟩
theorem calls2 {P : Program} {f : FuncId} {w : World} {R : Ending → World → Prop} (x y : Array Value) : Calls P f #[.agg x, .agg y] w R = AtOp (Calls P f #[.agg x, .agg y] w R) := rfl

theorem Dis.ok_set (C : Dis) {W w' : World} {g L2 U2 L3 U3 : Nat} (hi : C.ids.length = 16) (hn : C.n ≤ 1048576) (hs : SVi L3 U3 w' C.sq C.m (C.gs.map (Value.int .u8)))
    (hc : CVp (orNew (fun b => L2 ≤ b ∧ b < U2) W w') w' C.cq C.n C.ss C.ds) (hW : W.heap.size ≤ w'.heap.size) (h2 : U2 ≤ W.heap.size) (a2 : Away g L2 U2) (a3 : Away g L3 U3) (hg : g < W.heap.size) (c : Array Value) :
    C.ok (w'.setRow g c).heap.size (w'.setRow g c) := by
  refine ⟨hi, hn, SVp.of_same hs.1 fun b hb => ⟨?_, ?_⟩, CVp.of_same hc fun b hb => ⟨?_, ?_⟩⟩
  · rw [size_setRow]; exact Nat.lt_of_lt_of_le hb.2 hs.2
  · exact setRow_other w' g b c (by rcases a3 with a | a <;> omega)
  · rw [size_setRow]; rcases hb with hb | hb <;> omega
  · exact setRow_other w' g b c (by rcases hb with hb | hb <;> rcases a2 with a | a <;> omega)

theorem row_set {w' : World} {g : Nat} {c0 : Array Value} (h : RowAt w' g c0 42) (c : Array Value) : RowAt (w'.setRow g c) g c 42 := setRow_heap w' g c0 c 42 (0, 0) h

/-- what a discharge says, its addresses put aside -/
def Dis.says (d : Dis) (ids : List UInt8) (gs : List Int) (n : Nat) (ss : List ByteArray) (ds : List (List Int)) : Prop := d.ids = ids ∧ d.gs = gs ∧ d.n = n ∧ d.ss = ss ∧ d.ds = ds
theorem dis_parts {ids : List UInt8} {cq sq : Option Addr} {n cc m sc : Nat} {gs : List Int} {ss : List ByteArray} {ds : List (List Int)} {d : Dis} (h : Dis.mk ids cq n cc sq m sc gs ss ds = d) : d.says ids gs n ss ds := by
  subst h; exact ⟨rfl, rfl, rfl, rfl, rfl⟩
theorem same_self (a : Dis) : a.same a = true := sameD_refl _ _ _ _ _
theorem same_symm (a b : Dis) : a.same b = b.same a := sameD_symm _ _ _ _ _ _ _ _ _ _
theorem same_says {a b : Dis} {ids : List UInt8} {gs : List Int} {n : Nat} {ss : List ByteArray} {ds : List (List Int)} (ha : a.says ids gs n ss ds) (hb : b.says ids gs n ss ds) : a.same b = true := by
  obtain ⟨a1, a2, a3, a4, a5⟩ := ha
  obtain ⟨b1, b2, b3, b4, b5⟩ := hb
  unfold Dis.same
  rw [a1, a2, a3, a4, a5, b1, b2, b3, b4, b5]
  exact sameD_refl _ _ _ _ _
end Go.Proofs.Qxb6601427aMods
