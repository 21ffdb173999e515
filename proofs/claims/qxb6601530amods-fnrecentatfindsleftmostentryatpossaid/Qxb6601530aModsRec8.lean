import Derived.Test.Qxb6601530aModsRec7
namespace Go.Proofs.Qxb6601530aMods
open Go.RowKit
open Extern.Stop (cell)

/-- 32 zero cells -/
def zl32 : List Value := [.int .u8 0, .int .u8 0, .int .u8 0, .int .u8 0, .int .u8 0, .int .u8 0, .int .u8 0, .int .u8 0, .int .u8 0, .int .u8 0, .int .u8 0, .int .u8 0, .int .u8 0, .int .u8 0, .int .u8 0, .int .u8 0, .int .u8 0, .int .u8 0, .int .u8 0, .int .u8 0, .int .u8 0, .int .u8 0, .int .u8 0, .int .u8 0, .int .u8 0, .int .u8 0, .int .u8 0, .int .u8 0, .int .u8 0, .int .u8 0, .int .u8 0, .int .u8 0]
theorem zl32_one : ∀ v ∈ zl32, v.oneCell' = true := by
  intro v hv
  simp [zl32] at hv
  rw [hv]
  rfl
theorem fieldsZ (w : World) : Calls Trym.prog 22 #[.agg zs36] w fun e w' => e = .returned (.tuple #[.int .u64 0, .int .u64 0, .agg zs32, .int .u64 0, .slice none 0 0]) ∧ Below w.heap.size w w' :=
  fields22 0 0 0 zl32 none 0 0 w rfl zl32_one
theorem eqlZ (w : World) : (binOp .eql 49 (.agg zs32) (.agg zs32)).run Trym.prog w = .ok (.bool true) w := eql49_self (List.replicate 32 0) rfl w
theorem zs32_one : zs32.all (·.oneCell') = true := by kernel_rfl

theorem wpList_load_row_g {P : Program} {ops : Array Oper} {rest : List Oper} {o : Oper} {a : Act} {w : World} {Q : Exit → Act → World → Prop} (hw : Region.wanted o (yielded ops a.tmps) = true) (ty : TypeId) (x : Operand) (ho : o.op = .load ty x)
    (g : Nat) (hx : a.eval x = .pointer (some ⟨g, 0, none⟩)) (t : TypeId) (cs : Array Value) (fr : Nat × Nat) (d : TypeDesc) (hg : w.heap[g]? = some (.cells cs t fr))
    (hu : P.underlying ty = some d) (hd : (match d with | .struct _ | .array _ _ => true | _ => false) = true) (hi : (P.info? ty).map (·.size) = some cs.size)
    (h : wpList P ops Q rest (a.put o.dst (.agg cs)) w) : wpList P ops Q (o :: rest) a w :=
  wpList_step fun K hK => by rw [if_pos hw]; exact wp_load_row ty x ho g hx t cs fr d hg hu hd hi (hK _ _ h)
theorem wpList_load_mid_g {P : Program} {ops : Array Oper} {rest : List Oper} {op : Oper} {a : Act} {w : World} {Q : Exit → Act → World → Prop} (hw : Region.wanted op (yielded ops a.tmps) = true) (ty : TypeId) (x : Operand) (ho : op.op = .load ty x)
    (b o : Nat) (hx : a.eval x = .pointer (some ⟨b, o, none⟩)) (cs : List Value) (d : TypeDesc) (hc : w.rangeAt b o cs)
    (hu : P.underlying ty = some d) (hd : d.isRow = true) (hi : (P.info? ty).map (·.size) = some cs.length)
    (h : wpList P ops Q rest (a.put op.dst (.agg cs.toArray)) w) : wpList P ops Q (op :: rest) a w :=
  wpList_step fun K hK => by rw [if_pos hw]; exact wp_load_mid ty x ho b o hx cs d hc hu hd hi (hK _ _ h)

set_option maxRecDepth 100000 in
set_option maxHeartbeats 2000000 in
theorem isZero19 (w : World) : Calls Trym.prog 19 #[.agg zs36] w fun e w' => e = .returned (.bool true) ∧ Below w.heap.size w w' := by
  have hnil : ∀ W, (binOp .eql 52 (.slice none 0 0) (.slice none 0 0)).run Trym.prog W = .ok (.bool true) W := fun W => Lib.run_eql_slice_nil W 52 49 none 0 0 0 0 Trym.underlying52
  have heq := eqlZ
  have KW := keep (heap_alloc_new w (.cells zs36 56))
  have KB := keep (below_alloc w (.cells zs36 56))
  have KJ := keep (show Option.map (fun x => x.size) (Trym.prog.info? 56) = some zs36.size from info56s)
  have KI := keep (show Option.map (fun x => x.size) (Trym.prog.info? 49) = some zs32.size from info49s)
  go_enter Trym.func19, Trym.ntmps19
  go_wp2_with (first | (rw [at_load 56 (.tmp 1)]; refine at_op ?_; refine wpList_load_row rfl 56 _ rfl w.heap.size rfl 56 zs36 (0, 0) _ KW.out Trym.underlying56 rfl KJ.out ?_))
  refine (fieldsZ (w.alloc (.cells zs36 56))).mono ?_
  rintro e w1 ⟨rfl, hbl⟩
  have KB1 := keep (KB.out.trans (hbl.mono KB.out.size))
  have KA := keep (((KB1.out).alloc (KB1.out).size (.cells zs32 49)).alloc (Nat.le_trans (KB1.out).size (by simp)) (.cells zs32 49))
  have K1 := keep (heap_alloc2_old w1 (.cells zs32 49) (.cells zs32 49))
  have K2 := keep (heap_alloc2_new w1 (.cells zs32 49) (.cells zs32 49))
  clear hbl
  go_wp2_with (first | (rw [at_store 49 (.tmp 5) (.tmp 14)]; refine at_op ?_; refine wpList_store_row rfl 49 _ _ rfl w1.heap.size zs32 rfl rfl 49 zs32 (heap_alloc_new _ _) KI.out rfl zs32_one ?_; rw [World.setRow_alloc_new]) | (rw [at_load_g 49 (.tmp 5)]; refine at_op ?_; refine wpList_load_row_g rfl 49 _ rfl w1.heap.size rfl 49 zs32 (0, 0) _ K1.out Trym.underlying49 rfl KI.out ?_) | (rw [at_load_g 49 (.tmp 8)]; refine at_op ?_; refine wpList_load_row_g rfl 49 _ rfl (w1.heap.size + 1) rfl 49 zs32 (0, 0) _ K2.out Trym.underlying49 rfl KI.out ?_))
  go_ret
  exact ⟨rfl, KA.out⟩

theorem info56m : (Trym.prog.info? 56).map (fun i => (i.zero.isSome, i.size, i.bytes)) = some (true, 36, 80) := by kernel_rfl
theorem make60 (n : Nat) (hn : n ≤ 1048576) (W : World) : ∃ z : Array Value, z.size = n * 36 ∧ (Instr.makeSlice 60 (.int .i64 (n : Int)) (.int .i64 (n : Int))).run Trym.prog W = .ok (.slice (some ⟨W.heap.size, 0, none⟩) n n) (W.alloc (.cells z 56)) := by
  obtain ⟨i, hi, hzz⟩ := Option.map_eq_some_iff.1 info56m
  simp only [Prod.mk.injEq] at hzz
  obtain ⟨hz, hs, hb⟩ := hzz
  obtain ⟨zv, hz⟩ := Option.isSome_iff_exists.1 hz
  have h := run_make (P := Trym.prog) W 60 56 i _ Trym.underlying60 hi hz .i64 .i64 n n (by omega) (Int.le_refl _) (by rw [hb]; omega) (by omega)
  refine ⟨_, ?_, by rw [h, hs]; rfl⟩
  rw [size_madeCells, Int.toNat_natCast]

/-- the first k entries of the shim are laid -/
def SLaid (A : Nat) (w : World) (n k : Nat) (es : List REnt) : Prop :=
  A < w.heap.size ∧ w.there A 0 (n * 36) ∧ ∀ (j : Nat) (e : REnt), j < k → es[j]? = some e → w.rangeAt A (j * 36) (eCells e)

theorem slaid_succ {A : Nat} {w w' : World} {n k : Nat} {es : List REnt} {e : REnt} (h : SLaid A w n k es) (hb : Below w.heap.size w w') (hk : k < n) (he : es[k]? = some e) (hl : ∀ (j : Nat) (e : REnt), es[j]? = some e → e.root.length = 32) :
    SLaid A (w'.setCells A (k * 36) (eCells e)) n (k + 1) es := by
  obtain ⟨hA, ht, hall⟩ := h
  have hsz := hb.size
  have ht' := there_same ht (hb.block A hA)
  have hsc := size_setCells' A (eCells e) (k * 36) w'
  refine ⟨by rw [hsc]; omega, World.there_setCells ht' _ _ _, fun j f hj hf => ?_⟩
  by_cases hjk : j = k
  · subst hjk
    rw [he] at hf
    injection hf with hf
    subst hf
    exact World.rangeAt_setCells_same _ _ _ _ (there_part ht' (by omega) (by rw [eCells_len (hl _ _ he)]; omega))
  · refine World.rangeAt_setCells_apart (range_same (hall j f (by omega) hf) (hb.block A hA)) _ _ _ (.inr (.inl ?_))
    rw [eCells_len (hl _ _ hf)]; omega

theorem rv_shim {q : Option Addr} {w w' : World} {n : Nat} {es : List REnt} (s : RV (fun g => g < w.heap.size) w q n es) (hb : Below w.heap.size w w') (h : SLaid w.heap.size w' n n es) : RV (fun g => g < w'.heap.size) w' (some ⟨w.heap.size, 0, none⟩) n es := by
  refine ⟨s.1, fun k e he => ⟨⟨w.heap.size, 0, rfl, h.1, ?_⟩, (s.2 k e he).2.of_same (fun g hg => ⟨Nat.lt_of_lt_of_le hg hb.size, hb.block g hg⟩)⟩⟩
  rw [Nat.zero_add]
  exact h.2.2 k e (by have := (List.getElem?_eq_some_iff.1 he).1; have := s.1; omega) he

theorem RV.next {w w' : World} {q : Option Addr} {n : Nat} {es : List REnt} (h : RV (fun g => g < w.heap.size) w q n es) (hb : Below w.heap.size w w') : RV (fun g => g < w'.heap.size) w' q n es :=
  h.of_same (fun g hg => ⟨Nat.lt_of_lt_of_le hg hb.size, hb.block g hg⟩)

def Since (w0 w : World) : Prop := Below w0.heap.size w0 w
theorem Since.next {w0 w w' : World} (h : Since w0 w) (hb : Below w.heap.size w w') : Since w0 w' := Below.trans h (hb.mono (Below.size h))

/-- from l on the leftmost entry at pos is the t-th, or none (-1) -/
def Left (es : List REnt) (pos : Int) (l : Nat) (t : Value) : Prop :=
  (t = .int .i64 (-1) ∧ ∀ (i : Nat) (e : REnt), l ≤ i → es[i]? = some e → e.p ≠ pos) ∨
  ∃ (j : Nat) (e : REnt), t = .int .i64 j ∧ es[j]? = some e ∧ e.p = pos ∧ l ≤ j ∧ ∀ (i : Nat) (f : REnt), l ≤ i → i < j → es[i]? = some f → f.p ≠ pos
theorem left_top {es : List REnt} {pos : Int} {n : Nat} (h : es.length = n) : Left es pos n (.int .i64 (-1)) := .inl ⟨rfl, fun i e hi he => by have := (List.getElem?_eq_some_iff.1 he).1; omega⟩
theorem left_yes {es : List REnt} {pos : Int} {l : Nat} {e : REnt} (he : es[l]? = some e) (hp : e.p = pos) : Left es pos l (.int .i64 l) := .inr ⟨l, e, rfl, he, hp, Nat.le_refl _, fun i f h1 h2 => by omega⟩
theorem left_no {es : List REnt} {pos : Int} {l : Nat} {t : Value} {e : REnt} (h : Left es pos (l + 1) t) (he : es[l]? = some e) (hp : e.p ≠ pos) : Left es pos l t := by
  have step : ∀ (i : Nat) (f : REnt), l ≤ i → es[i]? = some f → f.p ≠ pos ∨ l + 1 ≤ i := fun i f hi hf => by
    by_cases hil : i = l
    · subst hil; rw [he] at hf; injection hf with hf; subst hf; exact .inl hp
    · exact .inr (by omega)
  rcases h with ⟨rfl, h⟩ | ⟨j, f, rfl, hj, hpj, hlj, h⟩
  · exact .inl ⟨rfl, fun i f hi hf => (step i f hi hf).elim id (fun hi' => h i f hi' hf)⟩
  · exact .inr ⟨j, f, rfl, hj, hpj, by omega, fun i g hi hij hg => (step i g hi hg).elim id (fun hi' => h i g hi' hij hg)⟩
end Go.Proofs.Qxb6601530aMods
