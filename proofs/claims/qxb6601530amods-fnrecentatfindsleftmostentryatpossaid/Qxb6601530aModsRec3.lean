import Derived.Test.Qxb6601530aModsRec2
import Derived.Deep.RegionHeld3
namespace Go.Proofs.Qxb6601530aMods
open Go.RowKit
open Extern.Stop (cell)

theorem cons_of_len {α : Type} {d : List α} {n : Nat} (h : d.length = n + 1) : ∃ a r, d = a :: r ∧ r.length = n := by
  cases d with
  | nil => simp at h
  | cons a r => exact ⟨a, r, rfl, by simpa using h⟩
theorem list32 {α : Type} {d : List α} (h : d.length = 32) : ∃ a0 a1 a2 a3 a4 a5 a6 a7 a8 a9 a10 a11 a12 a13 a14 a15 a16 a17 a18 a19 a20 a21 a22 a23 a24 a25 a26 a27 a28 a29 a30 a31, d = [a0, a1, a2, a3, a4, a5, a6, a7, a8, a9, a10, a11, a12, a13, a14, a15, a16, a17, a18, a19, a20, a21, a22, a23, a24, a25, a26, a27, a28, a29, a30, a31] := by
  obtain ⟨a0, r0, rfl, h0⟩ := cons_of_len h
  obtain ⟨a1, r1, rfl, h1⟩ := cons_of_len h0
  obtain ⟨a2, r2, rfl, h2⟩ := cons_of_len h1
  obtain ⟨a3, r3, rfl, h3⟩ := cons_of_len h2
  obtain ⟨a4, r4, rfl, h4⟩ := cons_of_len h3
  obtain ⟨a5, r5, rfl, h5⟩ := cons_of_len h4
  obtain ⟨a6, r6, rfl, h6⟩ := cons_of_len h5
  obtain ⟨a7, r7, rfl, h7⟩ := cons_of_len h6
  obtain ⟨a8, r8, rfl, h8⟩ := cons_of_len h7
  obtain ⟨a9, r9, rfl, h9⟩ := cons_of_len h8
  obtain ⟨a10, r10, rfl, h10⟩ := cons_of_len h9
  obtain ⟨a11, r11, rfl, h11⟩ := cons_of_len h10
  obtain ⟨a12, r12, rfl, h12⟩ := cons_of_len h11
  obtain ⟨a13, r13, rfl, h13⟩ := cons_of_len h12
  obtain ⟨a14, r14, rfl, h14⟩ := cons_of_len h13
  obtain ⟨a15, r15, rfl, h15⟩ := cons_of_len h14
  obtain ⟨a16, r16, rfl, h16⟩ := cons_of_len h15
  obtain ⟨a17, r17, rfl, h17⟩ := cons_of_len h16
  obtain ⟨a18, r18, rfl, h18⟩ := cons_of_len h17
  obtain ⟨a19, r19, rfl, h19⟩ := cons_of_len h18
  obtain ⟨a20, r20, rfl, h20⟩ := cons_of_len h19
  obtain ⟨a21, r21, rfl, h21⟩ := cons_of_len h20
  obtain ⟨a22, r22, rfl, h22⟩ := cons_of_len h21
  obtain ⟨a23, r23, rfl, h23⟩ := cons_of_len h22
  obtain ⟨a24, r24, rfl, h24⟩ := cons_of_len h23
  obtain ⟨a25, r25, rfl, h25⟩ := cons_of_len h24
  obtain ⟨a26, r26, rfl, h26⟩ := cons_of_len h25
  obtain ⟨a27, r27, rfl, h27⟩ := cons_of_len h26
  obtain ⟨a28, r28, rfl, h28⟩ := cons_of_len h27
  obtain ⟨a29, r29, rfl, h29⟩ := cons_of_len h28
  obtain ⟨a30, r30, rfl, h30⟩ := cons_of_len h29
  obtain ⟨a31, r31, rfl, h31⟩ := cons_of_len h30
  cases r31 with
  | nil => exact ⟨_, _, _, _, _, _, _, _, _, _, _, _, _, _, _, _, _, _, _, _, _, _, _, _, _, _, _, _, _, _, _, _, rfl⟩
  | cons a r => simp at h31

/-- the cells of an entry, by its parts -/
def mkE (p ts : Int) (H : List Value) (sz : Int) (q : Option Addr) (m c : Nat) : List Value := .int .u64 p :: .int .u64 ts :: (H ++ [.int .u64 sz, .slice q m c])
theorem mkE_len (p ts : Int) {H : List Value} (sz : Int) (q : Option Addr) (m c : Nat) (h : H.length = 32) : (mkE p ts H sz q m c).length = 36 := by simp [mkE, h]

theorem built63 (p ts sz : Int) (H : List Value) (q : Option Addr) (m c : Nat) (h : H.length = 32) : Trym.prog.built 63 [(0, .int .u64 p), (1, .int .u64 ts), (2, .agg H.toArray), (3, .int .u64 sz), (4, .slice q m c)] = some (mkE p ts H sz q m c).toArray := by
  obtain ⟨a0, a1, a2, a3, a4, a5, a6, a7, a8, a9, a10, a11, a12, a13, a14, a15, a16, a17, a18, a19, a20, a21, a22, a23, a24, a25, a26, a27, a28, a29, a30, a31, rfl⟩ := list32 h
  kernel_rfl
theorem run_build63 (w : World) (p ts sz : Int) (H : List Value) (q : Option Addr) (m c : Nat) (h : H.length = 32) : (Instr.build 63 #[(0, .int .u64 p), (1, .int .u64 ts), (2, .agg H.toArray), (3, .int .u64 sz), (4, .slice q m c)]).run Trym.prog w = .ok (.agg (mkE p ts H sz q m c).toArray) w :=
  run_build w 63 _ _ (built63 p ts sz H q m c h)

theorem info63 : (Trym.prog.info? 63).map (fun i => (i.zero.isSome, i.size, i.bytes)) = some (true, 36, 80) := by kernel_rfl
theorem info63s : Option.map (fun x => x.size) (Trym.prog.info? 63) = some 36 := by kernel_rfl

theorem make45 (n : Nat) (hn : n ≤ 1048576) (W : World) : ∃ z : Array Value, z.size = n * 36 ∧ (Instr.makeSlice 45 (.int .i64 (n : Int)) (.int .i64 (n : Int))).run Trym.prog W = .ok (.slice (some ⟨W.heap.size, 0, none⟩) n n) (W.alloc (.cells z 63)) := by
  obtain ⟨i, hi, hzz⟩ := Option.map_eq_some_iff.1 info63
  simp only [Prod.mk.injEq] at hzz
  obtain ⟨hz, hs, hb⟩ := hzz
  obtain ⟨zv, hz⟩ := Option.isSome_iff_exists.1 hz
  have h := run_make (P := Trym.prog) W 45 63 i _ Trym.underlying45 hi hz .i64 .i64 n n (by omega) (Int.le_refl _) (by rw [hb]; omega) (by omega)
  refine ⟨_, ?_, by rw [h, hs]; rfl⟩
  rw [size_madeCells, Int.toNat_natCast]

/-- the first k entries of the new row are laid -/
def RLaid (A : Nat) (w : World) (n k : Nat) (es : List REnt) : Prop :=
  A < w.heap.size ∧ w.there A 0 (n * 36) ∧ es.length = k ∧ ∀ (j : Nat) (e : REnt), es[j]? = some e → w.rangeAt A (j * 36) (eCells e) ∧ EOk (fun g => A < g ∧ g < w.heap.size) w e ∧ e.m ≤ 1048576

theorem rlaid_succ {A : Nat} {w w' : World} {n k : Nat} {es : List REnt} {e : REnt} (h : RLaid A w n k es) (hb : Below w.heap.size w w') (hk : k < n) (he : EOk (fun g => w.heap.size ≤ g ∧ g < w'.heap.size) w' e) (hm : e.m ≤ 1048576) :
    RLaid A (w'.setCells A (k * 36) (eCells e)) n (k + 1) (es ++ [e]) := by
  obtain ⟨hA, ht, hl, hall⟩ := h
  have hsz := hb.size
  have ht' := there_same ht (hb.block A hA)
  have hsc := size_setCells' A (eCells e) (k * 36) w'
  refine ⟨by rw [hsc]; omega, World.there_setCells ht' _ _ _, by simp [hl], fun j f hj => ?_⟩
  by_cases hjk : j < k
  · rw [List.getElem?_append_left (by omega)] at hj
    obtain ⟨h1, h2, h3⟩ := hall j f hj
    refine ⟨World.rangeAt_setCells_apart (range_same h1 (hb.block A hA)) _ _ _ (.inr (.inl ?_)), h2.of_same (fun g hg => ⟨⟨hg.1, by rw [hsc]; omega⟩, ?_⟩), h3⟩
    · rw [eCells_len h2.1]; omega
    · rw [heap_setCells_ne A _ _ _ g (by omega)]; exact hb.block g hg.2
  · have hjl := (List.getElem?_eq_some_iff.1 hj).1
    simp at hjl
    obtain rfl : j = k := by omega
    rw [List.getElem?_append_right (by omega), hl, Nat.sub_self] at hj
    injection hj with hj
    subst hj
    refine ⟨World.rangeAt_setCells_same _ _ _ _ (there_part ht' (by omega) (by rw [eCells_len he.1]; omega)), he.of_same (fun g hg => ⟨⟨by omega, by rw [hsc]; omega⟩, heap_setCells_ne A _ _ _ g (by omega)⟩), hm⟩

/-- what a copy of entries hands back -/
def RCopied (w : World) (n : Nat) (en : Ending) (w' : World) : Prop :=
  ∃ q' c' es, en = .returned (.slice q' n c') ∧ Below w.heap.size w w' ∧ RV (fun g => g < w'.heap.size) w' q' n es ∧ (∀ (k : Nat) (e : REnt), es[k]? = some e → e.m ≤ 1048576) ∧ (q' = none → n = 0 ∧ c' = 0)

theorem rcopied_of {w w' : World} {n : Nat} {es : List REnt} (hb : Below w.heap.size w w') (h : RLaid w.heap.size w' n n es) :
    RCopied w n (.returned (.slice (some ⟨w.heap.size, 0, none⟩) n n)) w' := by
  obtain ⟨hA, ht, hl, hall⟩ := h
  refine ⟨_, _, es, rfl, hb, ⟨hl, fun k e he => ⟨⟨w.heap.size, 0, rfl, hA, ?_⟩, ?_⟩⟩, fun k e he => (hall k e he).2.2, fun h => (by cases h)⟩
  · rw [Nat.zero_add]; exact (hall k e he).1
  · exact (hall k e he).2.1.of_same (fun g hg => ⟨hg.2, rfl⟩)

/-- what the region's loads read -/
abbrev HeldE (g o : Nat) (p ts sz : Int) (H : List Value) (q : Option Addr) (m c : Nat) (wx : World) : Prop :=
  wx.cell? ⟨g, o, none⟩ = some (.int .u64 p) ∧ wx.cell? ⟨g, o + 1, none⟩ = some (.int .u64 ts) ∧ wx.rangeAt g (o + 2) H ∧ wx.cell? ⟨g, o + 34, none⟩ = some (.int .u64 sz) ∧ wx.cell? ⟨g, o + 35, none⟩ = some (.slice q m c)

theorem heldE_same {g o : Nat} {p ts sz : Int} {H : List Value} {q : Option Addr} {m c : Nat} {wx wy : World} (h : HeldE g o p ts sz H q m c wx) (hb : wy.heap[g]? = wx.heap[g]?) : HeldE g o p ts sz H q m c wy :=
  ⟨(World.cell?_of_block (a := ⟨g, o, none⟩) hb).trans h.1, (World.cell?_of_block (a := ⟨g, o + 1, none⟩) hb).trans h.2.1, range_same h.2.2.1 hb, (World.cell?_of_block (a := ⟨g, o + 34, none⟩) hb).trans h.2.2.2.1, (World.cell?_of_block (a := ⟨g, o + 35, none⟩) hb).trans h.2.2.2.2⟩
theorem heldE_of {g o : Nat} {e : REnt} {w : World} (h : w.rangeAt g o (eCells e)) (hl : e.root.length = 32) : HeldE g o e.p e.ts e.sz (hCells e.root) e.q e.m e.c w.drew :=
  ⟨ent_p h, ent_ts h, ent_root h, ent_sz h hl, ent_v h hl⟩

set_option maxHeartbeats 400000 in
theorem clone17_nil (w : World) : Calls Trym.prog 17 #[.slice none 0 0] w fun e w' => e = .returned (.slice none 0 0) ∧ w' = w := by
  have hnil : ∀ W, (binOp .eql 45 (.slice none 0 0) (.slice none 0 0)).run Trym.prog W = .ok (.bool true) W := fun W => Lib.run_eql_slice_nil W 45 63 none 0 0 0 0 Trym.underlying45
  go_enter Trym.func17, Trym.ntmps17
  go_wp2
  go_ret
  exact ⟨rfl, rfl⟩

-- CLONE17
theorem store_mid63 {W : World} {A x : Nat} {cs : List Value} (ht : W.there A x 36) (hl : cs.length = 36) (h1 : ∀ v ∈ cs, v.oneCell' = true) : (storeCells ⟨A, x, none⟩ cs).run Trym.prog W = .ok () (W.setCells A x cs) := by
  have := run_storeCells_cells (P := Trym.prog) A x cs 0 W (fun j hj => by simpa using (ht j (by omega)).1) (fun j hj => by simpa using (ht j (by omega)).2) h1
  simpa using this

attribute [-go_sem] Instr.build
attribute [local go_sem] run_build63

set_option maxRecDepth 100000 in
set_option maxHeartbeats 4000000 in
theorem clone17_some (ad : Addr) (n c : Nat) (es : List REnt) (w : World) (h : RV (fun g => g < w.heap.size) w (some ad) n es) (hn : n ≤ 1048576) (hsm : ∀ (k : Nat) (e : REnt), es[k]? = some e → e.m ≤ 1048576) :
    Calls Trym.prog 17 #[.slice (some ad) n c] w fun e w' => RCopied w n e w' := by
  have hnil : ∀ W, (binOp .eql 45 (.slice (some ad) n c) (.slice none 0 0)).run Trym.prog W = .ok (.bool false) W := fun W => Lib.run_eql_slice_nil W 45 63 (some ad) n c 0 0 Trym.underlying45
  obtain ⟨z, hmz, hmk⟩ := make45 n hn w
  have HS := keep hsm
  have KS := keep h
  clear h hsm
  go_enter Trym.func17, Trym.ntmps17
  go_wp2
  clear hmk hnil
  go_loopw [4] (fun i wr => ∃ (k : Nat) (fs : List REnt), k ≤ n ∧ i = .int .i64 k ∧ Below w.heap.size w wr ∧ RLaid w.heap.size wr n k fs) (fun i _ => n - (intOf i).toNat)
  case atStart => exact ⟨0, [], Nat.zero_le _, rfl, below_alloc _ _, by simp, by rw [← hmz]; exact there_new _ _ _, rfl, fun j d hj => by simp at hj⟩
  case round =>
    obtain ⟨k, fs, hk, rfl, hB, hL⟩ := hrel
    have KB := keep hB
    have KL := keep hL
    clear hB hL
    by_cases hlt : k < n
    · obtain ⟨e, g, o, he, hq, hg, hr, hok⟩ := KS.out.at k hlt
      injection hq with hq
      subst hq
      have hm := HS.out k e he
      have KH := keep (heldE_of (range_same hr (KB.out.block g hg)) hok.1)
      obtain ⟨hrl, heq, hs, hhv⟩ := hok
      have KV := keep (show HVp (fun g => g < wr.drew.heap.size) wr.drew e.q e.m hs from hhv.of_same (fun g hg => ⟨Nat.lt_of_lt_of_le hg KB.out.size, KB.out.block g hg⟩))
      have KE := keep heq
      have hH := hCells_len hrl
      have I1 : Option.map (fun x => x.size) (Trym.prog.info? 49) = some (hCells e.root).length := by rw [hCells_len hrl]; kernel_rfl
      have SU := keep (fun (w' : World) (q : Option Addr) (c : Nat) (hb : Below wr.drew.heap.size wr.drew w') (hv : HVp (fun g => wr.drew.heap.size ≤ g ∧ g < w'.heap.size) w' q e.m hs) (hq : q = none → e.m = 0 ∧ c = 0) => rlaid_succ (A := w.heap.size) (w := wr.drew) (w' := w') (k := k) (e := { e with q := q, c := c }) KL.out hb hlt ⟨hrl, hq, hs, hv⟩ hm)
      have EO := keep (fun (q : Option Addr) (c : Nat) => eCells_one { e with q := q, c := c })
      have KT := keep (fun (w' : World) (hb : Below wr.drew.heap.size wr.drew w') => there_part (o' := k * 36) (m := 36) (there_same KL.out.2.1 (hb.block _ KL.out.1)) (by omega) (by omega))
      have KG := keep (show g < wr.heap.size from Nat.lt_of_lt_of_le hg KB.out.size)
      obtain ⟨p, ts, root, sz, q, m, c'⟩ := e
      simp only at hm KH KV KE hH I1 SU EO
      have hlti : (k : Int) < (n : Int) := by omega
      have hgA : g < w.heap.size := hg
      clear hr he hhv heq hrl hg
      have hu49 := Trym.underlying49
      go_wp2_with fail
      go_region_held3 (HeldE g (o + k * 36) p ts sz (hCells root) q m c') (first | exact KH.out | assumption)
        (first | (go_at_call 31; refine (clone31_any q m c' hs _ KV.out KE.out hm).mono ?_; rintro e w' ⟨q', c2, rfl, hbl, hv, hq1, hq2⟩; have hS1 := heldE_same KH.out (hbl.block g KG.out); have hS2 := heldE_same hS1 (heap_setCells_ne w.heap.size (mkE p ts (hCells root) sz q' m c2) (k * 36) w' g (by omega)); have hlE := mkE_len p ts sz q' m c2 hH; have hst := store_mid63 (KT.out w' hbl) hlE (EO.out q' c2); have KN := keep (SU.out w' q' c2 hbl hv hq1); have KB2 := keep (hbl); clear hv hq1 hq2 hbl))
      clear hS1 hS2 hst hlE hH I1 hu49
      have KF := keep (below_setCells (KB.out.drew.trans (KB2.out.mono KB.out.size)) (Nat.le_refl w.heap.size) (mkE p ts (hCells root) sz q' m c2) (k * 36))
      go_wp2_with fail
      go_roundw
      case rel => exact ⟨k + 1, _, by omega, by go_num, KF.out, KN.out⟩
      case measure => simp [intOf]; omega
    · obtain rfl : k = n := by omega
      have KC := keep (rcopied_of KB.out KL.out)
      go_wp2
      go_ret
      exact KC.out

theorem clone17_any (q : Option Addr) (n c : Nat) (es : List REnt) (w : World) (h : RV (fun g => g < w.heap.size) w q n es) (hq : q = none → n = 0 ∧ c = 0) (hn : n ≤ 1048576) (hsm : ∀ (k : Nat) (e : REnt), es[k]? = some e → e.m ≤ 1048576) :
    Calls Trym.prog 17 #[.slice q n c] w fun e w' => RCopied w n e w' := by
  cases q with
  | some ad => exact clone17_some ad n c es w h hn hsm
  | none =>
    obtain ⟨rfl, rfl⟩ := hq rfl
    refine (clone17_nil w).mono ?_
    rintro e w' ⟨rfl, rfl⟩
    exact ⟨none, 0, es, rfl, Below.refl _ _, h, hsm, fun _ => ⟨rfl, rfl⟩⟩
end Go.Proofs.Qxb6601530aMods
