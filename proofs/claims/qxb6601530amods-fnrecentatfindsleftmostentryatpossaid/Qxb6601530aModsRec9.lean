import Derived.Test.Qxb6601530aModsRec8
namespace Go.Proofs.Qxb6601530aMods
open Go.RowKit
open Extern.Stop (cell)

set_option maxRecDepth 100000 in
set_option maxHeartbeats 4000000 in
theorem law4_true (pos : Int) (q : Option Addr) (n c : Nat) (es : List REnt) (w : World) (s : RV (fun g => g < w.heap.size) w q n es) (hq : q = none → n = 0 ∧ c = 0) :
    Calls Trym.prog 4 #[.bool true, .slice q n c, .int .u64 pos] w fun e w' => e = .returned (.bool true) ∧ Below w.heap.size w w' := by
  have S := keep s
  have HQ := keep hq
  clear s hq
  go_enter Trym.func4, Trym.ntmps4
  go_wp2_with fail
  refine (zzBytes15 true pos q n c es _ w S.out).mono ?_
  rintro e w0 ⟨⟨bb, rfl⟩, hw⟩
  subst hw
  cases bb with
  | false =>
    go_wp2
    go_ret
    exact ⟨rfl, Below.refl _ _⟩
  | true =>
  go_wp2_with fail
  refine (size16 q n c es _ w0 S.out).mono ?_
  rintro e w1 ⟨⟨r, rfl, hr0, hr1, hsm⟩, hw⟩
  subst hw
  by_cases hr : 1048576 < r
  · clear hsm
    go_wp2
    go_ret
    exact ⟨rfl, Below.refl _ _⟩
  obtain ⟨hn, hsm⟩ := hsm (by omega)
  have HSM := keep hsm
  clear hsm
  go_wp2_with fail
  refine (clone17_any q n c es w1 S.out HQ.out hn HSM.out).mono ?_
  rintro e w2 ⟨q2, c2, es2, rfl, hbl, hs2, hsm2, hq2⟩
  have HW := keep (show Since w1 w2 from hbl)
  replace S := keep hs2
  replace HSM := keep hsm2
  replace HQ := keep hq2
  clear hbl hs2 hsm2 hq2 hr hr0 hr1
  have KJ := keep (show Option.map (fun x => x.size) (Trym.prog.info? 56) = some zs36.size from info56s)
  go_wp2_with fail
  refine (atNil18 pos w2).mono ?_
  rintro e w3 ⟨rfl, hbl⟩
  replace HW := keep (HW.out.next hbl)
  clear hbl
  have KX := keep (heap_alloc_new w3 (.cells zs36 56))
  go_wp2_with (first | (rw [at_store 56 (.tmp 7) (.tmp 35)]; refine at_op ?_; refine wpList_store_row rfl 56 _ _ rfl w3.heap.size zs36 rfl rfl 56 zs36 (heap_alloc_new _ _) KJ.out rfl zs36_one ?_; rw [World.setRow_alloc_new]) | (rw [at_load_g 56 (.tmp 7)]; refine at_op ?_; refine wpList_load_row_g rfl 56 _ rfl w3.heap.size rfl 56 zs36 (0, 0) _ KX.out Trym.underlying56 rfl KJ.out ?_))
  refine (isZero19 (w3.alloc (.cells zs36 56))).mono ?_
  rintro e w4 ⟨rfl, hbl⟩
  replace HW := keep ((HW.out.next (below_alloc _ _)).next hbl)
  clear hbl
  go_wp2
  go_ret
  exact ⟨rfl, HW.out⟩

theorem rat_is_none {es : List REnt} {pos : Int} {v : Value} (h : RAt es pos v) (hno : ∀ (i : Nat) (e : REnt), 0 ≤ i → es[i]? = some e → e.p ≠ pos) : v = .tuple #[.agg zs36, .bool false] := by
  rcases h with ⟨rfl, _⟩ | ⟨j, e, he, hp, _, _⟩
  · rfl
  · exact absurd hp (hno j e (Nat.zero_le _) he)
theorem rat_is_some {es : List REnt} {pos : Int} {v : Value} {j : Nat} {e : REnt} (h : RAt es pos v) (he : es[j]? = some e) (hp : e.p = pos) (hno : ∀ (i : Nat) (f : REnt), 0 ≤ i → i < j → es[i]? = some f → f.p ≠ pos) : v = .tuple #[.agg (eCells e).toArray, .bool true] := by
  rcases h with ⟨_, h⟩ | ⟨j', e', he', hp', hno', rfl⟩
  · exact absurd hp (h j e he)
  · have : j' = j := by
      rcases Nat.lt_trichotomy j' j with h | h | h
      · exact absurd hp' (hno j' e' (Nat.zero_le _) h he')
      · exact h
      · exact absurd hp (hno' j e h he)
    subst this
    rw [he] at he'
    injection he' with he'
    subst he'
    rfl

theorem setRow_alloc2 (w : World) (A : Obj) (c c' : Array Value) (t : TypeId) : ((w.alloc A).alloc (.cells c t)).setRow (w.heap.size + 1) c' = (w.alloc A).alloc (.cells c' t) := by
  rw [show w.heap.size + 1 = (w.alloc A).heap.size by simp]
  exact World.setRow_alloc_new _ _ _ _

theorem mkE_parts {w : World} {b : Nat} {p ts sz : Int} {H : List Value} {q : Option Addr} {m c : Nat} (hl : H.length = 32) (h : w.rangeAt b 0 (mkE p ts H sz q m c)) :
    w.cell? ⟨b, 1, none⟩ = some (.int .u64 ts) ∧ w.rangeAt b 2 H ∧ w.cell? ⟨b, 34, none⟩ = some (.int .u64 sz) ∧ w.cell? ⟨b, 35, none⟩ = some (.slice q m c) := by
  refine ⟨?_, fun j v hj => ?_, ?_, ?_⟩
  · have := h 1 (.int .u64 ts) rfl
    rwa [Nat.zero_add] at this
  · have hjl := (List.getElem?_eq_some_iff.1 hj).1
    have := h (j + 2) v (by
      show (H ++ [.int .u64 sz, .slice q m c])[j]? = some v
      rw [List.getElem?_append_left hjl]
      exact hj)
    rwa [show 0 + (j + 2) = 2 + j by omega] at this
  · have := h 34 (.int .u64 sz) (by
      show (H ++ [.int .u64 sz, .slice q m c])[32]? = _
      rw [List.getElem?_append_right (by omega), hl]
      rfl)
    rwa [Nat.zero_add] at this
  · have := h 35 (.slice q m c) (by
      show (H ++ [.int .u64 sz, .slice q m c])[33]? = _
      rw [List.getElem?_append_right (by omega), hl]
      rfl)
    rwa [Nat.zero_add] at this

set_option maxRecDepth 100000 in
set_option maxHeartbeats 4000000 in
theorem law4_false (pos : Int) (q : Option Addr) (n c : Nat) (es : List REnt) (w : World) (s : RV (fun g => g < w.heap.size) w q n es) (hq : q = none → n = 0 ∧ c = 0) :
    Calls Trym.prog 4 #[.bool false, .slice q n c, .int .u64 pos] w fun e w' => e = .returned (.bool true) ∧ Below w.heap.size w w' := by
  have S := keep s
  have HQ := keep hq
  clear s hq
  go_enter Trym.func4, Trym.ntmps4
  go_wp2_with fail
  refine (zzBytes15 false pos q n c es _ w S.out).mono ?_
  rintro e w0 ⟨⟨bb, rfl⟩, hw⟩
  subst hw
  cases bb with
  | false =>
    go_wp2
    go_ret
    exact ⟨rfl, Below.refl _ _⟩
  | true =>
  go_wp2_with fail
  refine (size16 q n c es _ w0 S.out).mono ?_
  rintro e w1 ⟨⟨r, rfl, hr0, hr1, hsm⟩, hw⟩
  subst hw
  by_cases hr : 1048576 < r
  · clear hsm
    go_wp2
    go_ret
    exact ⟨rfl, Below.refl _ _⟩
  obtain ⟨hn, hsm⟩ := hsm (by omega)
  have HSM := keep hsm
  clear hsm
  go_wp2_with fail
  refine (clone17_any q n c es w1 S.out HQ.out hn HSM.out).mono ?_
  rintro e w2 ⟨q2, c2, es2, rfl, hbl, hs2, hsm2, hq2⟩
  have HW := keep (show Since w1 w2 from hbl)
  replace S := keep hs2
  replace HSM := keep hsm2
  replace HQ := keep hq2
  clear hbl hs2 hsm2 hq2 hr hr0 hr1
  have KJ := keep (show Option.map (fun x => x.size) (Trym.prog.info? 56) = some zs36.size from info56s)
  cases q2 with
  | none =>
    obtain ⟨rfl, rfl⟩ := HQ.out rfl
    have hnq : ∀ W, (binOp .neq 45 (.slice none 0 0) (.slice none 0 0)).run Trym.prog W = .ok (.bool false) W := fun W => run_neq_slice_nil_any W 45 63 none 0 0 0 0 Trym.underlying45
    have SH := S
    go_wp2_with fail
    clear hnq
    go_loop [11, 12] (fun t i => ∃ l : Nat, l ≤ 0 ∧ i = .int .i64 ((l : Int) - 1) ∧ Left es2 pos l t) (fun _ i => (intOf i + 1).toNat)
    case atStart => exact ⟨0, Nat.le_refl _, rfl, left_top S.out.1⟩
    case round =>
      obtain ⟨l, hl, rfl, hL⟩ := hrel
      obtain rfl : l = 0 := by omega
      rw [show (((0 : Nat) : Int) - 1) = -1 from rfl]
      rcases hL with ⟨rfl, hno⟩ | ⟨j, e, rfl, he, hp, _, hno⟩
      · go_wp2_with fail
        refine (at21 pos none 0 0 es2 w2 SH.out (by omega)).mono ?_
        rintro e w5 ⟨⟨v, rfl, hat⟩, hbl⟩
        obtain rfl : v = .tuple #[.agg zs36, .bool false] := rat_is_none hat hno
        replace HW := keep (HW.out.next hbl)
        clear hbl hat hno
        have KX := keep (heap_alloc_new w5 (.cells zs36 56))
        go_wp2_with (first | (rw [at_store 56 (.tmp 13) (.tmp 102)]; refine at_op ?_; refine wpList_store_row rfl 56 _ _ rfl w5.heap.size zs36 rfl rfl 56 zs36 (heap_alloc_new _ _) KJ.out rfl zs36_one ?_; rw [World.setRow_alloc_new]) | (rw [at_load_g 56 (.tmp 13)]; refine at_op ?_; refine wpList_load_row_g rfl 56 _ rfl w5.heap.size rfl 56 zs36 (0, 0) _ KX.out Trym.underlying56 rfl KJ.out ?_))
        refine (isZero19 (w5.alloc (.cells zs36 56))).mono ?_
        rintro e w6 ⟨rfl, hbl⟩
        replace HW := keep ((HW.out.next (below_alloc _ _)).next hbl)
        clear hbl
        go_wp2
        go_ret
        exact ⟨rfl, HW.out⟩
      · exfalso
        have := (List.getElem?_eq_some_iff.1 he).1
        have := S.out.1
        omega
  | some ad =>
    have hnq : ∀ W, (binOp .neq 45 (.slice (some ad) n c2) (.slice none 0 0)).run Trym.prog W = .ok (.bool true) W := fun W => run_neq_slice_nil_any W 45 63 (some ad) n c2 0 0 Trym.underlying45
    obtain ⟨z, hmz, hmk⟩ := make60 n hn w2
    have RL := keep (fun (j : Nat) (e : REnt) (he : es2[j]? = some e) => (S.out.2 j e he).2.1)
    go_wp2_with fail
    clear hmk hnq
    go_loopw [10] (fun i wr => ∃ k : Nat, k ≤ n ∧ i = .int .i64 k ∧ Below w2.heap.size w2 wr ∧ SLaid w2.heap.size wr n k es2) (fun i _ => n - (intOf i).toNat)
    case atStart => exact ⟨0, Nat.zero_le _, rfl, below_alloc _ _, by simp, by rw [← hmz]; exact there_new _ _ _, fun j d hj => by omega⟩
    case round =>
      obtain ⟨k, hk, rfl, hB, hL⟩ := hrel
      have KB := keep hB
      have KL := keep hL
      clear hB hL
      by_cases hlt : k < n
      · obtain ⟨e, g, o, he, hq, hg, hr, hok⟩ := S.out.at k hlt
        injection hq with hq
        subst hq
        have hm := HSM.out k e he
        have KH := keep (heldE_of (range_same hr (KB.out.block g hg)) hok.1)
        obtain ⟨hrl, heq, hs, hhv⟩ := hok
        have hH := hCells_len hrl
        have HO := keep (hCells_one e.root)
        have I1 : Option.map (fun x => x.size) (Trym.prog.info? 49) = some (hCells e.root).length := by rw [hCells_len hrl]; exact info49s
        have SU := keep (fun (w' : World) (hb : Below wr.drew.heap.size wr.drew w') => slaid_succ (A := w2.heap.size) (w := wr.drew) (w' := w') (k := k) (e := e) KL.out hb hlt he RL.out)
        have EO := keep (eCells_one e)
        have KT := keep (fun (w' : World) (hb : Below wr.drew.heap.size wr.drew w') => there_part (o' := k * 36) (m := 36) (there_same KL.out.2.1 (hb.block _ KL.out.1)) (by omega) (by omega))
        have KG := keep (show g < wr.heap.size from Nat.lt_of_lt_of_le hg KB.out.size)
        clear he hr hhv heq hrl
        obtain ⟨p, ts, root, sz, q, m, c'⟩ := e
        simp only at hm KH hH HO I1 SU EO
        have hlti : (k : Int) < (n : Int) := by omega
        have hgA : g < w2.heap.size := hg
        clear hg
        have hu49 := Trym.underlying49
        go_wp2_with fail
        go_region_held3 (HeldE g (o + k * 36) p ts sz (hCells root) q m c') (first | exact KH.out | assumption)
          (first | (go_at_call 20; refine (make20 p ts sz (hCells root) q m c' _ hH HO.out).mono ?_; rintro e w' ⟨rfl, hbl⟩; have hS1 := heldE_same KH.out (hbl.block g KG.out); have hS2 := heldE_same hS1 (heap_setCells_ne w2.heap.size (mkE p ts (hCells root) sz q m c') (k * 36) w' g (by omega)); have hlE := mkE_len p ts sz q m c' hH; have hst := store_mid63 (KT.out w' hbl) hlE EO.out; have KN := keep (SU.out w' hbl); have KB2 := keep (hbl); clear hbl))
        clear hS1 hS2 hst hlE hH I1 hu49
        have KF := keep (below_setCells (KB.out.drew.trans (KB2.out.mono KB.out.size)) (Nat.le_refl w2.heap.size) (mkE p ts (hCells root) sz q m c') (k * 36))
        go_wp2_with fail
        go_roundw
        case rel => exact ⟨k + 1, by omega, by go_num, KF.out, KN.out⟩
        case measure => simp [intOf]; omega
      · obtain rfl : k = n := by omega
        have SH := keep (rv_shim S.out KB.out KL.out)
        replace S := keep (S.out.next KB.out)
        replace HW := keep (HW.out.next KB.out)
        clear KB KL
        go_wp2_with fail
        go_loop [11, 12] (fun t i => ∃ l : Nat, l ≤ k ∧ i = .int .i64 ((l : Int) - 1) ∧ Left es2 pos l t) (fun _ i => (intOf i + 1).toNat)
        case atStart => exact ⟨k, Nat.le_refl _, by go_num, left_top S.out.1⟩
        case round =>
          obtain ⟨l, hl, rfl, hL⟩ := hrel
          cases l with
          | succ j =>
            rw [show (((j + 1 : Nat) : Int) - 1) = (j : Int) by omega]
            obtain ⟨e, g, o, he, hq, hg, hr, hok⟩ := S.out.at j (by omega)
            injection hq with hq
            subst hq
            have c0 := ent_p hr
            have hji : (j : Int) < (k : Int) := by omega
            by_cases hp : e.p = pos
            · have KN := keep (left_yes he hp)
              rw [hp] at c0
              clear he hr hok hL hp
              go_wp2
              go_round
              case rel => exact ⟨j, by omega, by go_num, KN.out⟩
              case measure => simp [intOf]
            · have KN := keep (left_no hL he hp)
              have hpe : (e.p == pos) = false := by simpa using hp
              clear he hr hok hL
              generalize e.p = ep at *
              go_wp2
              go_round
              case rel => exact ⟨j, by omega, by go_num, KN.out⟩
              case measure => simp [intOf]
          | zero =>
            rw [show (((0 : Nat) : Int) - 1) = -1 from rfl]
            rcases hL with ⟨rfl, hno⟩ | ⟨j, e, rfl, he, hp, _, hno⟩
            · go_wp2_with fail
              refine (at21 pos (some ⟨w2.heap.size, 0, none⟩) k k es2 wr SH.out (by omega)).mono ?_
              rintro e w5 ⟨⟨v, rfl, hat⟩, hbl⟩
              obtain rfl : v = .tuple #[.agg zs36, .bool false] := rat_is_none hat hno
              replace HW := keep (HW.out.next hbl)
              clear hbl hat hno
              have KX := keep (heap_alloc_new w5 (.cells zs36 56))
              go_wp2_with (first | (rw [at_store 56 (.tmp 13) (.tmp 102)]; refine at_op ?_; refine wpList_store_row rfl 56 _ _ rfl w5.heap.size zs36 rfl rfl 56 zs36 (heap_alloc_new _ _) KJ.out rfl zs36_one ?_; rw [World.setRow_alloc_new]) | (rw [at_load_g 56 (.tmp 13)]; refine at_op ?_; refine wpList_load_row_g rfl 56 _ rfl w5.heap.size rfl 56 zs36 (0, 0) _ KX.out Trym.underlying56 rfl KJ.out ?_))
              refine (isZero19 (w5.alloc (.cells zs36 56))).mono ?_
              rintro e w6 ⟨rfl, hbl⟩
              replace HW := keep ((HW.out.next (below_alloc _ _)).next hbl)
              clear hbl
              go_wp2
              go_ret
              exact ⟨rfl, HW.out⟩
            · have hjk : j < k := by have := (List.getElem?_eq_some_iff.1 he).1; have := S.out.1; omega
              go_wp2_with fail
              refine (at21 pos (some ⟨w2.heap.size, 0, none⟩) k k es2 wr SH.out (by omega)).mono ?_
              rintro e' w5 ⟨⟨v, rfl, hat⟩, hbl⟩
              obtain rfl : v = .tuple #[.agg (eCells e).toArray, .bool true] := rat_is_some hat he hp hno
              replace HW := keep (HW.out.next hbl)
              replace S := keep (S.out.next hbl)
              clear hbl hat hno SH
              have hm := HSM.out j e he
              obtain ⟨⟨g, o, hq, hg, hr⟩, hok⟩ := S.out.2 j e he
              injection hq with hq
              subst hq
              obtain ⟨hrl, heq, hs, hhv⟩ := hok
              have hjki : (j : Int) < (k : Int) := by omega
              have hel := eCells_len hrl
              have hH := hCells_len hrl
              have I2 := keep (show Option.map (fun x => x.size) (Trym.prog.info? 56) = some (eCells e).toArray.size by rw [List.size_toArray, hel]; exact info56s)
              have I3 := keep (show Option.map (fun x => x.size) (Trym.prog.info? 63) = some (eCells e).toArray.size by rw [List.size_toArray, hel]; exact info63s)
              have I4 := keep (show Option.map (fun x => x.size) (Trym.prog.info? 63) = some (eCells e).length by rw [hel]; exact info63s)
              have I5 := keep (show Option.map (fun x => x.size) (Trym.prog.info? 49) = some (hCells e.root).toArray.size by rw [List.size_toArray, hH]; exact info49s)
              have I6 := keep (show Option.map (fun x => x.size) (Trym.prog.info? 49) = some (hCells e.root).length by rw [hH]; exact info49s)
              have Z1 := keep (show zs36.size = (eCells e).toArray.size by simp only [List.size_toArray, hel]; rfl)
              have Z2 := keep (show zs32.size = (hCells e.root).toArray.size by simp only [List.size_toArray, hH]; rfl)
              have O1 := keep (all_oneCell_toArray (eCells_one e))
              have O2 := keep (all_oneCell_toArray (hCells_one e.root))
              have KX := keep (heap_alloc_new w5 (.cells (eCells e).toArray 56))
              have KF := keep (show Calls Trym.prog 22 #[.agg (eCells e).toArray] (w5.alloc (.cells (eCells e).toArray 56)) (fun e' w' => e' = .returned (.tuple #[.int .u64 pos, .int .u64 e.ts, .agg (hCells e.root).toArray, .int .u64 e.sz, .slice e.q e.m e.c]) ∧ Below (w5.alloc (.cells (eCells e).toArray 56)).heap.size (w5.alloc (.cells (eCells e).toArray 56)) w') by
                rw [← hp]
                exact fields22 e.p e.ts e.sz (hCells e.root) e.q e.m e.c _ hH (hCells_one e.root))
              have KP := keep (fun (w7 : World) => mkE_parts hH (range_of_row (w := (w7.alloc (.cells (hCells e.root).toArray 49)).alloc (.cells (eCells e).toArray 63)) (b := w7.heap.size + 1) (cs := mkE e.p e.ts (hCells e.root) e.sz e.q e.m e.c) (t := 63) (heap_alloc2_new w7 _ _)))
              have hneq := neq49_self e.root hrl
              have KR := keep hr
              have KV := keep hhv
              have KE := keep heq
              clear he hr hhv heq hrl hel hH hp
              generalize hCells e.root = H at *
              generalize eCells e = E at *
              go_wp2_with (first | (rw [at_store 56 (.tmp 13) (.tmp 102)]; refine at_op ?_; refine wpList_store_row rfl 56 _ _ rfl w5.heap.size E.toArray rfl rfl 56 zs36 (heap_alloc_new _ _) I2.out Z1.out O1.out ?_; rw [World.setRow_alloc_new]) | (rw [at_load 56 (.tmp 13)]; refine at_op ?_; refine wpList_load_row rfl 56 _ rfl w5.heap.size rfl 56 E.toArray (0, 0) _ KX.out Trym.underlying56 rfl I2.out ?_))
              refine KF.out.mono ?_
              rintro e' w7 ⟨rfl, hbl⟩
              have B7 := keep (((show Since w5 w5 from Below.refl _ _).next (below_alloc _ (.cells E.toArray 56))).next hbl)
              have B8 := keep (B7.out.next (below_alloc w7 (.cells H.toArray 49)))
              have B9 := keep (B8.out.next (below_alloc _ (.cells E.toArray 63)))
              have K17 := keep (heap_alloc2_old w7 (.cells H.toArray 49) (.cells E.toArray 63))
              have K20 := keep (heap_alloc2_new w7 (.cells H.toArray 49) (.cells zs36 63))
              obtain ⟨d1, d2, d34, d35⟩ := KP.out w7
              have KD := keep d2
              have KR8 := keep (range_same KR.out (Below.block B8.out g hg))
              have KV9 := keep (KV.out.of_same (J := fun g => g < ((w7.alloc (.cells H.toArray 49)).alloc (.cells E.toArray 63)).heap.size) (fun g hg => ⟨Nat.lt_of_lt_of_le hg (Below.size B9.out), Below.block B9.out g hg⟩))
              have HW9 := keep (HW.out.next B9.out)
              clear hbl d2 KF KP B7 B8 B9 S HW
              go_wp2_with (first | (rw [at_store 49 (.tmp 17) (.tmp 119)]; refine at_op ?_; refine wpList_store_row rfl 49 _ _ rfl w7.heap.size H.toArray rfl rfl 49 zs32 (heap_alloc_new _ _) I5.out Z2.out O2.out ?_; rw [World.setRow_alloc_new]) | (rw [at_load 63 (.tmp 124)]; refine at_op ?_; refine wpList_load_mid rfl 63 _ rfl g (o + j * 36) rfl E _ KR8.out Trym.underlying63 rfl I4.out ?_) | (rw [at_store 63 (.tmp 20) (.tmp 125)]; refine at_op ?_; refine wpList_store_row rfl 63 _ _ rfl (w7.heap.size + 1) E.toArray rfl rfl 63 zs36 K20.out I3.out Z1.out O1.out ?_; rw [setRow_alloc2]) | (rw [at_load_g 49 (.tmp 17)]; refine at_op ?_; refine wpList_load_row_g rfl 49 _ rfl w7.heap.size rfl 49 H.toArray (0, 0) _ K17.out Trym.underlying49 rfl I5.out ?_) | (rw [at_load_g 49 (.tmp 137)]; refine at_op ?_; refine wpList_load_mid_g rfl 49 _ rfl (w7.heap.size + 1) 2 rfl H _ KD.out Trym.underlying49 rfl I6.out ?_))
              refine (same23_any e.q e.m e.c hs _ KV9.out KE.out hm).mono ?_
              rintro e' w10 ⟨rfl, hbl⟩
              have HX := keep (HW9.out.next hbl)
              clear hbl
              go_wp2
              go_ret
              exact ⟨rfl, HX.out⟩
end Go.Proofs.Qxb6601530aMods
