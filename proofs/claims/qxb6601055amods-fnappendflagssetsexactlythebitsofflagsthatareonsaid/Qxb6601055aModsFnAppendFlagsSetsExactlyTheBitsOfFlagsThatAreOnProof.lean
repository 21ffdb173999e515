/- The proof of Rows.FnAppendFlagsSetsExactlyTheBitsOfFlagsThatAreOnSaid: the frame is the guide's template (turned at the slice of bools); the walk is Qxb6601055aModsOnWalk's. -/
import Derived.Test.Qxb6601055aModsRows
import Derived.Test.Qxb6601055aModsOnWalk
import Derived.Deep.Grids
import Derived.WalkKit
import Derived.ProofKit
import Derived.OpenShut
import Derived.ShutString
import Derived.ChangeOld
import Derived.Below
namespace Go.Proofs.Qxb6601055aMods.fnAppendFlagsSetsExactlyTheBitsOfFlagsThatAreOn
open Go.ChangeShapes Go.WideShapes Go.ChangeAt Go.RowKit
open Go.ChangeMaps (open_string shut_string)
set_option linter.unusedVariables false

theorem own : ownKnob Trym.prog.godebug = none := by kernel_rfl
theorem laidOut : laidOutB Trym.prog = true := by kernel_rfl

/-- WHAT THE WALK IS TOLD OF A SLICE OF INTEGERS THAT CAME IN: it is nil; or it leads to a row of 'cap' cells, the numbers 'zs' (the first 'len' are its elements, the rest its spare room), each fitting its kind. -/
def IsRow (k : IntKind) (w : World) (a : Option Addr) (len cap : Nat) (zs : List Int) : Prop :=
  (a = none ∧ len = 0 ∧ cap = 0 ∧ zs = []) ∨
  ∃ x, a = some x ∧ len ≤ cap ∧ cap ≤ maxLen ∧ zs.length = cap ∧ (∀ i, i < zs.length → w.cell? (x.add i) = some (.int k (zs.getD i 0))) ∧ ∀ n ∈ zs, (Lit.int k n).wf = true

/-- The same of a slice of bools. -/
def IsBools (w : World) (a : Option Addr) (len cap : Nat) (zs : List Bool) : Prop :=
  (a = none ∧ len = 0 ∧ cap = 0 ∧ zs = []) ∨
  ∃ x, a = some x ∧ zs.length = len ∧ ∀ i u, (zs.map Value.bool)[i]? = some u → w.cell? (x.add i) = some u

theorem sv_of_add {w : World} {x : Addr} {xs : List Value} (h : ∀ i u, xs[i]? = some u → w.cell? (x.add i) = some u) : SV w.heap.size w (some x) xs.length xs := by
  refine ⟨rfl, fun j u hj => ?_⟩
  have hl : 0 < xs.length := by have := (List.getElem?_eq_some_iff.1 hj).1; omega
  have h0 := h 0 xs[0] (List.getElem?_eq_getElem hl)
  obtain ⟨b, off, spot⟩ := x
  have hspot : spot = none := by simpa [Addr.add] using World.cell?_spot h0
  subst hspot
  refine ⟨b, off, rfl, ?_, ?_⟩
  · have := block_lt_of_cell h0
    simpa [Addr.add] using this
  · rw [← Go.WideShapes.add_plain]; exact h j u hj

theorem sv_row {w : World} {a : Option Addr} {len cap : Nat} {zs : List Int} (h : IsRow .u8 w a len cap zs) : SV w.heap.size w a len ((zs.take len).map (Value.int .u8)) ∧ (a = none → len = 0 ∧ cap = 0) ∧ ∀ n ∈ zs.take len, 0 ≤ n ∧ n ≤ 255 := by
  rcases h with ⟨rfl, rfl, rfl, rfl⟩ | ⟨x, rfl, hl, _, hz, hc, hw⟩
  · exact ⟨⟨rfl, fun j u hj => by simp at hj⟩, fun _ => ⟨rfl, rfl⟩, fun n hn => by simp at hn⟩
  · have e : ((zs.take len).map (Value.int .u8)).length = len := by simp; omega
    refine ⟨?_, fun h => (by cases h), fun n hn => bounds_u8 (hw n (List.mem_of_mem_take hn))⟩
    have := sv_of_add (w := w) (x := x) (xs := (zs.take len).map (Value.int .u8)) (fun i u hu => by
      have hi : i < len := by have := (List.getElem?_eq_some_iff.1 hu).1; omega
      rw [hc i (by omega), ← hu]
      simp [hi, List.getElem?_eq_getElem (show i < zs.length by omega)])
    rwa [e] at this

theorem sv_bools {w : World} {a : Option Addr} {len cap : Nat} {zs : List Bool} (h : IsBools w a len cap zs) : SV w.heap.size w a len (zs.map Value.bool) ∧ (a = none → len = 0 ∧ cap = 0) := by
  rcases h with ⟨rfl, rfl, rfl, rfl⟩ | ⟨x, rfl, hl, hc⟩
  · exact ⟨⟨rfl, fun j u hj => by simp at hj⟩, fun _ => ⟨rfl, rfl⟩⟩
  · have := sv_of_add hc
    rw [List.length_map, hl] at this
    exact ⟨this, fun h => (by cases h)⟩

theorem walk (a0 : Option Addr) (len0 cap0 : Nat) (z0 : List Int) (a1 : Option Addr) (len1 cap1 : Nat) (z1 : List Int) (a2 : Option Addr) (len2 cap2 : Nat) (z2 : List Bool) (w : World) (w0 : IsRow .u8 w a0 len0 cap0 z0) (w1 : IsRow .u8 w a1 len1 cap1 z1) (w2 : IsBools w a2 len2 cap2 z2) :
    Calls Trym.prog 5 #[.slice a0 len0 cap0, .slice a1 len1 cap1, .slice a2 len2 cap2] w fun e w' => e = .returned (.bool true) ∧ Below w.heap.size w w' := by
  obtain ⟨s0, e0, _⟩ := sv_row w0
  obtain ⟨s1, e1, b1⟩ := sv_row w1
  obtain ⟨s2, e2⟩ := sv_bools w2
  by_cases h : 262144 < len0 ∨ 262144 < len1 ∨ 262144 < len2 ∨ len1 ≠ len2
  · exact (on_early a0 a1 a2 len0 len1 len2 cap0 cap1 cap2 w h).mono fun e w' ⟨he, hw⟩ => ⟨he, by rw [hw]; exact Below.refl _ _⟩
  · obtain rfl : len1 = len2 := by omega
    exact on_main a0 a1 a2 len0 len1 cap0 cap1 cap2 _ _ z2 w (by omega) (by omega) b1 s0 s1 s2 e0 e1 e2

/-! ### THE ROW's STEP: WRITTEN OUT: LEAVE IT -/
set_option maxRecDepth 100000 in
theorem lifted (os : Os) (started : os.Started) (H : Type) (enc : TypeId × Value → H) :
    ReturnsInHanded {} Trym.checked os 5 .any (Rows.fnAppendFlagsSetsExactlyTheBitsOfFlagsThatAreOnSpec.pre6 enc Trym.prog Trym.f5 Rows.fnAppendFlagsSetsExactlyTheBitsOfFlagsThatAreOnRow.domain false) (Rows.fnAppendFlagsSetsExactlyTheBitsOfFlagsThatAreOnSpec.post enc Trym.prog Trym.f5 false true false false) := by
  refine returnsInHanded_of_change (C := Trym.checked) own started (by kernel_rfl) Trym.func5
    (ChangeSpec.witness6 (enc := enc) (C := Trym.checked) false ⟨#[], #[.slice none 0 0, .slice none 0 0, .slice none 0 0], []⟩ 8 (by kernel_rfl) (by kernel_rfl) (by kernel_rfl) (by kernel_rfl)) ?_
  intro W base args ds gs before hval0 hW hcnd _
  have hval : ∀ (j : Nat) t v, Trym.f5.params[j]? = some t → args[j]? = some v → Value.okWide Trym.prog W .any base t v := hval0
  have hW' := hW
  obtain ⟨p, q, hA0, hV, rfl, hfz, hnd⟩ := hW
  have hA : DataW.TrodAll enc Trym.prog W 0 (fun _ => true) true Trym.f5.params.toList args.toList ds p := hA0
  rw [Trym.params5] at hA hval
  obtain ⟨v0, vs0, d0, ds0, p0, q0, hargs, rfl, rfl, h0, r0⟩ := trodAll_cons hA
  obtain ⟨v1, vs1, d1, ds1, p1, q1, rfl, rfl, rfl, h1, r1⟩ := trodAll_cons r0
  obtain ⟨v2, vs2, d2, ds2, p2, q2, rfl, rfl, rfl, h2, r2⟩ := trodAll_cons r1
  obtain ⟨rfl, rfl, rfl⟩ := trodAll_nil r2
  obtain rfl : args = #[v0, v1, v2] := by cases args; simp_all
  obtain ⟨rfl, rfl⟩ := trodVars_none hV
  obtain ⟨a0, len0, cap0, rfl⟩ := okWide_slice Trym.underlying27 (hval 0 27 v0 rfl rfl)
  have k0 := h0
  have lt0 : ∀ x ∈ p0, x.block < W.heap.size := by obtain ⟨m, hm⟩ := k0; exact DataW.trod_lt m _ _ _ hm
  obtain ⟨z0, w0⟩ : ∃ zs, IsRow .u8 W a0 len0 cap0 zs := by
    obtain ⟨fuel, hf⟩ := h0
    rcases open_ints Trym.underlying27 Trym.underlying5 (by kernel_rfl) hf with ⟨hcs, _⟩ | ⟨x, l, c, zs, hcs, _, hl, hm, hz, _, hcell, hwz⟩
    · simp [Value.cells] at hcs
      obtain ⟨rfl, rfl, rfl⟩ := hcs
      exact ⟨[], .inl ⟨rfl, rfl, rfl, rfl⟩⟩
    · simp [Value.cells] at hcs
      obtain ⟨rfl, rfl, rfl⟩ := hcs
      exact ⟨zs, .inr ⟨_, rfl, hl, hm, by simpa using hz, hcell, hwz⟩⟩
  obtain ⟨a1, len1, cap1, rfl⟩ := okWide_slice Trym.underlying27 (hval 1 27 v1 rfl rfl)
  have k1 := h1
  have lt1 : ∀ x ∈ p1, x.block < W.heap.size := by obtain ⟨m, hm⟩ := k1; exact DataW.trod_lt m _ _ _ hm
  obtain ⟨z1, w1⟩ : ∃ zs, IsRow .u8 W a1 len1 cap1 zs := by
    obtain ⟨fuel, hf⟩ := h1
    rcases open_ints Trym.underlying27 Trym.underlying5 (by kernel_rfl) hf with ⟨hcs, _⟩ | ⟨x, l, c, zs, hcs, _, hl, hm, hz, _, hcell, hwz⟩
    · simp [Value.cells] at hcs
      obtain ⟨rfl, rfl, rfl⟩ := hcs
      exact ⟨[], .inl ⟨rfl, rfl, rfl, rfl⟩⟩
    · simp [Value.cells] at hcs
      obtain ⟨rfl, rfl, rfl⟩ := hcs
      exact ⟨zs, .inr ⟨_, rfl, hl, hm, by simpa using hz, hcell, hwz⟩⟩
  obtain ⟨a2, len2, cap2, rfl⟩ := okWide_slice Trym.underlying28 (hval 2 28 v2 rfl rfl)
  have k2 := h2
  have lt2 : ∀ x ∈ p2, x.block < W.heap.size := by obtain ⟨m, hm⟩ := k2; exact DataW.trod_lt m _ _ _ hm
  obtain ⟨z2, w2⟩ : ∃ zs, IsBools W a2 len2 cap2 zs := by
    obtain ⟨fuel, hf⟩ := h2
    rcases Deep.open_bools Trym.underlying28 Trym.underlying4 (by kernel_rfl) hf with ⟨hcs, _⟩ | ⟨x, l, c, B, hcs, _, hl, hm, _, hcell⟩
    · simp [Value.cells] at hcs
      obtain ⟨rfl, rfl, rfl⟩ := hcs
      exact ⟨[], .inl ⟨rfl, rfl, rfl, rfl⟩⟩
    · simp [Value.cells] at hcs
      obtain ⟨rfl, rfl, rfl⟩ := hcs
      refine ⟨(List.range len2).map B, .inr ⟨_, rfl, by simp, fun i u hu => ?_⟩⟩
      have hi : i < len2 := by have := (List.getElem?_eq_some_iff.1 hu).1; simpa using this
      rw [hcell i (by omega), ← hu]
      simp [hi]
  clear hA0 hval0
  refine (walk a0 len0 cap0 z0 a1 len1 cap1 z1 a2 len2 cap2 z2 W w0 w1 w2).mono fun e W' ⟨he, bel⟩ => ?_
  subst he
  exact ⟨_, rfl, _, _, _, [], _, [], hW', trodAll_mk1 (shut_bool Trym.underlying4 _), (trodAll_cons_mk (Below.trod laidOut (by kernel_rfl) (of_decide_eq_true (by kernel_rfl)) k0 bel lt0) (trodAll_cons_mk (Below.trod laidOut (by kernel_rfl) (of_decide_eq_true (by kernel_rfl)) k1 bel lt1) (trodAll_cons_mk (Below.trod laidOut (by kernel_rfl) (of_decide_eq_true (by kernel_rfl)) k2 bel lt2) trodAll_mk0))), rfl, bel.frame _, fun h => by cases h⟩

theorem over : Rows.fnAppendFlagsSetsExactlyTheBitsOfFlagsThatAreOnRow.holds Trym.pinned (OpenSpec.ofChange Rows.fnAppendFlagsSetsExactlyTheBitsOfFlagsThatAreOnSpec) :=
  OpenClaim.holds_of_wide 5 Trym.f5 rfl rfl rfl rfl rfl rfl rfl ⟨rfl, rfl, rfl, rfl, rfl⟩ rfl rfl rfl rfl rfl (by kernel_rfl) Trym.func5 (by kernel_rfl)
    (of_decide_eq_true (by kernel_rfl)) (by unfold Func.isWrapper; first | (rw [if_pos (by decide +kernel)]; kernel_rfl) | (rw [if_neg (by decide +kernel)]; exact ⟨rfl, rfl⟩))
    (fun os started H enc _ => lifted os started H enc)

/-- ████ THE STATEMENT ████ -/
theorem proved : Rows.FnAppendFlagsSetsExactlyTheBitsOfFlagsThatAreOnSaid := over
#print axioms proved
end Go.Proofs.Qxb6601055aMods.fnAppendFlagsSetsExactlyTheBitsOfFlagsThatAreOn
