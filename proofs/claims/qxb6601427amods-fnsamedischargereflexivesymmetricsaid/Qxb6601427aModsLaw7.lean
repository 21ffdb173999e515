import Derived.Test.Qxb6601427aModsLawKit
namespace Go.Proofs.Qxb6601427aMods
open Go.RowKit

set_option linter.unusedSimpArgs false in
set_option maxHeartbeats 4000000 in
theorem law7 (ia ib : List UInt8) (ha : ia.length = 16) (hb : ib.length = 16) (q1 q2 q3 q5 q6 q7 : Option Addr) (n1 n2 n3 n5 n6 n7 c1 c2 c3 c5 c6 c7 : Nat) (ss ts : List ByteArray) (ds es : List (List Int)) (gs hs : List Int) (w : World)
    (s1 : SV w.heap.size w q1 n1 (ss.map Value.string)) (s2 : DV w.heap.size w q2 n2 ds) (s3 : SV w.heap.size w q3 n3 (gs.map (Value.int .u8)))
    (s5 : SV w.heap.size w q5 n5 (ts.map Value.string)) (s6 : DV w.heap.size w q6 n6 es) (s7 : SV w.heap.size w q7 n7 (hs.map (Value.int .u8)))
    (e1 : q1 = none → n1 = 0 ∧ c1 = 0) (e2 : q2 = none → n2 = 0 ∧ c2 = 0) (e3 : q3 = none → n3 = 0 ∧ c3 = 0) (e5 : q5 = none → n5 = 0 ∧ c5 = 0) (e6 : q6 = none → n6 = 0 ∧ c6 = 0) (e7 : q7 = none → n7 = 0 ∧ c7 = 0) :
    Calls Trym.prog 7 #[.agg (idCells ia), .slice q1 n1 c1, .slice q2 n2 c2, .slice q3 n3 c3, .agg (idCells ib), .slice q5 n5 c5, .slice q6 n6 c6, .slice q7 n7 c7] w fun e w' => e = .returned (.bool true) ∧ Below w.heap.size w w' := by
  have z0 := below_alloc w (.cells (idCells ia) 30)
  have z1 := below_alloc (w.alloc (.cells (idCells ia) 30)) (.cells (idCells ib) 30)
  have HW := keep (Since.next (w0 := w) z0 z1)
  have S1 := keep ((s1.next z0).next z1)
  have S2 := keep ((s2.next z0).next z1)
  have S3 := keep ((s3.next z0).next z1)
  have S5 := keep ((s5.next z0).next z1)
  have S6 := keep ((s6.next z0).next z1)
  have S7 := keep ((s7.next z0).next z1)
  have RA := keep (show RowAt _ _ _ _ from heap_alloc2_old w (.cells (idCells ia) 30) (.cells (idCells ib) 30))
  have RB := keep (show RowAt _ _ _ _ from heap_alloc2_new w (.cells (idCells ia) 30) (.cells (idCells ib) 30))
  have IA := keep (show Option.map (fun x => x.size) (Trym.prog.info? 30) = some (idCells ia).size by rw [idCells_size ha]; kernel_rfl)
  have IB := keep (show Option.map (fun x => x.size) (Trym.prog.info? 30) = some (idCells ib).size by rw [idCells_size hb]; kernel_rfl)
  have E1 := keep e1
  have E2 := keep e2
  have E3 := keep e3
  have E5 := keep e5
  have E6 := keep e6
  have E7 := keep e7
  have MA := keep (fun I => make20_any I ia ha)
  have MB := keep (fun I => make20_any I ib hb)
  clear s1 s2 s3 s5 s6 s7 z0 z1 e1 e2 e3 e5 e6 e7
  go_enter Trym.func7, Trym.ntmps7
  go_wp2_with (first | (rw [at_load 30 (.tmp 8)]; refine at_op ?_; refine wpList_load_row rfl 30 _ rfl w.heap.size rfl 30 (idCells ia) (0, 0) _ RA.out Trym.underlying30 rfl IA.out ?_) | (rw [at_load 30 (.tmp 12)]; refine at_op ?_; refine wpList_load_row rfl 30 _ rfl (w.heap.size + 1) rfl 30 (idCells ib) (0, 0) _ RB.out Trym.underlying30 rfl IB.out ?_))
  refine (zzBytes24 _ _ q1 q2 q3 q5 q6 q7 n1 n2 n3 n5 n6 n7 c1 c2 c3 c5 c6 c7 ss ts ds es _ ⟨_, rfl⟩ ⟨_, rfl⟩ S1.out S2.out S5.out S6.out).mono ?_
  rintro e w1 ⟨⟨b, rfl⟩, hbl⟩
  generalize (w.alloc (.cells (idCells ia) 30)).alloc (.cells (idCells ib) 30) = W0 at *
  replace HW := keep (HW.out.next hbl)
  replace S1 := keep (S1.out.next hbl)
  replace S2 := keep (S2.out.next hbl)
  replace S3 := keep (S3.out.next hbl)
  replace S5 := keep (S5.out.next hbl)
  replace S6 := keep (S6.out.next hbl)
  replace S7 := keep (S7.out.next hbl)
  replace RA := keep (RA.out.next hbl)
  replace RB := keep (RB.out.next hbl)
  clear hbl
  cases b
  · go_wp2
    go_ret
    exact ⟨rfl, HW.out⟩
  go_wp2_with fail
  refine (size16 q1 q2 q3 n1 n2 n3 c1 c2 c3 ss ds w1 S1.out S2.out).mono ?_
  rintro e w2 ⟨⟨r1, rfl, x1, x2, X1⟩, hw⟩
  subst hw
  have X1' := keep X1
  clear X1
  go_wp2_with fail
  refine (size16 q5 q6 q7 n5 n6 n7 c5 c6 c7 ts es w2 S5.out S6.out).mono ?_
  rintro e w3 ⟨⟨r2, rfl, y1, y2, Y1⟩, hw⟩
  subst hw
  have Y1' := keep Y1
  clear Y1
  by_cases hr : 1048576 < r1 + r2
  · go_wp2
    go_ret
    exact ⟨rfl, HW.out⟩
  obtain ⟨k1, k2, k3, KD⟩ := X1'.out (by omega)
  obtain ⟨k5, k6, k7, KE⟩ := Y1'.out (by omega)
  have KD' := keep KD
  have KE' := keep KE
  clear KD KE X1' Y1'
  by_cases h12 : n1 ≠ n2
  · have h12' : ((n1 : Int) != (n2 : Int)) = true := by rw [bne_iff_ne]; omega
    go_wp2
    go_ret
    exact ⟨rfl, HW.out⟩
  obtain rfl : n1 = n2 := by omega
  by_cases h56 : n5 ≠ n6
  · have h56' : ((n5 : Int) != (n6 : Int)) = true := by rw [bne_iff_ne]; omega
    go_wp2
    go_ret
    exact ⟨rfl, HW.out⟩
  obtain rfl : n5 = n6 := by omega
  clear h12 h56
  go_wp2_with fail
  refine (clone17_any q1 n1 c1 ss w3 S1.out E1.out k1).mono ?_
  rintro e w4 ⟨p1, d1, rfl, hbl, O1, N1⟩
  replace S1 := keep (SV.of_owns O1).2.1
  replace E1 := keep (SV.of_owns O1).2.2
  clear O1 N1
  replace HW := keep (HW.out.next hbl)
  replace S2 := keep (S2.out.next hbl)
  replace S3 := keep (S3.out.next hbl)
  replace S5 := keep (S5.out.next hbl)
  replace S6 := keep (S6.out.next hbl)
  replace S7 := keep (S7.out.next hbl)
  replace RA := keep (RA.out.next hbl)
  replace RB := keep (RB.out.next hbl)
  clear hbl
  go_wp2_with fail
  refine (clone18_any q2 n1 c2 ds w4 S2.out E2.out k1 KD'.out).mono ?_
  rintro e w5 ⟨p2, d2, rfl, hbl, O1, N1, N2⟩
  replace S2 := keep O1.toDV
  replace E2 := keep N1
  clear O1 N1 N2
  replace HW := keep (HW.out.next hbl)
  replace S1 := keep (S1.out.next hbl)
  replace S3 := keep (S3.out.next hbl)
  replace S5 := keep (S5.out.next hbl)
  replace S6 := keep (S6.out.next hbl)
  replace S7 := keep (S7.out.next hbl)
  replace RA := keep (RA.out.next hbl)
  replace RB := keep (RB.out.next hbl)
  clear hbl
  go_wp2_with fail
  refine (clone19_any q3 n3 c3 gs w5 S3.out E3.out k3).mono ?_
  rintro e w6 ⟨p3, d3, rfl, hbl, O1, N1⟩
  replace S3 := keep (SV.of_owns O1).2.1
  replace E3 := keep (SV.of_owns O1).2.2
  clear O1 N1
  replace HW := keep (HW.out.next hbl)
  replace S1 := keep (S1.out.next hbl)
  replace S2 := keep (S2.out.next hbl)
  replace S5 := keep (S5.out.next hbl)
  replace S6 := keep (S6.out.next hbl)
  replace S7 := keep (S7.out.next hbl)
  replace RA := keep (RA.out.next hbl)
  replace RB := keep (RB.out.next hbl)
  clear hbl
  go_wp2_with fail
  refine (clone17_any q5 n5 c5 ts w6 S5.out E5.out k5).mono ?_
  rintro e w7 ⟨p5, d5, rfl, hbl, O1, N1⟩
  replace S5 := keep (SV.of_owns O1).2.1
  replace E5 := keep (SV.of_owns O1).2.2
  clear O1 N1
  replace HW := keep (HW.out.next hbl)
  replace S1 := keep (S1.out.next hbl)
  replace S2 := keep (S2.out.next hbl)
  replace S3 := keep (S3.out.next hbl)
  replace S6 := keep (S6.out.next hbl)
  replace S7 := keep (S7.out.next hbl)
  replace RA := keep (RA.out.next hbl)
  replace RB := keep (RB.out.next hbl)
  clear hbl
  go_wp2_with fail
  refine (clone18_any q6 n5 c6 es w7 S6.out E6.out k5 KE'.out).mono ?_
  rintro e w8 ⟨p6, d6, rfl, hbl, O1, N1, N2⟩
  replace S6 := keep O1.toDV
  replace E6 := keep N1
  clear O1 N1 N2
  replace HW := keep (HW.out.next hbl)
  replace S1 := keep (S1.out.next hbl)
  replace S2 := keep (S2.out.next hbl)
  replace S3 := keep (S3.out.next hbl)
  replace S5 := keep (S5.out.next hbl)
  replace S7 := keep (S7.out.next hbl)
  replace RA := keep (RA.out.next hbl)
  replace RB := keep (RB.out.next hbl)
  clear hbl
  go_wp2_with fail
  refine (clone19_any q7 n7 c7 hs w8 S7.out E7.out k7).mono ?_
  rintro e w9 ⟨p7, d7, rfl, hbl, O1, N1⟩
  replace S7 := keep (SV.of_owns O1).2.1
  replace E7 := keep (SV.of_owns O1).2.2
  clear O1 N1
  replace HW := keep (HW.out.next hbl)
  replace S1 := keep (S1.out.next hbl)
  replace S2 := keep (S2.out.next hbl)
  replace S3 := keep (S3.out.next hbl)
  replace S5 := keep (S5.out.next hbl)
  replace S6 := keep (S6.out.next hbl)
  replace RA := keep (RA.out.next hbl)
  replace RB := keep (RB.out.next hbl)
  clear hbl
  go_wp2_with (rw [at_load 30 (.tmp 8)]; refine at_op ?_; refine wpList_load_row rfl 30 _ rfl w.heap.size rfl 30 (idCells ia) (0, 0) _ RA.out Trym.underlying30 rfl IA.out ?_)
  refine (MA.out (fun g => g < w9.heap.size) p1 p2 p3 n1 n3 d1 d2 d3 ss ds w9 k1 S1.out S2.out (fun _ h => h) E1.out).mono ?_
  rintro e w10 ⟨cq, cc, rfl, hbl, cv⟩
  have okA := (Dis.mk ia cq n1 cc p3 n3 d3 gs ss ds).ok_of ha k1 (S3.out.next hbl) (cv_small hbl.size cv)
  have vA : dCells ia (.slice cq n1 cc) (.slice p3 n3 d3) = (Dis.mk ia cq n1 cc p3 n3 d3 gs ss ds).cells := rfl
  rw [vA]
  generalize hA : Dis.mk ia cq n1 cc p3 n3 d3 gs ss ds = A at *
  have JA := keep (show Option.map (fun x => x.size) (Trym.prog.info? 42) = some A.cells.size by rw [Dis.cells_size okA.1]; kernel_rfl)
  have ZA := keep (show zs18.size = A.cells.size by rw [Dis.cells_size okA.1]; rfl)
  have OA := keep okA
  have FA := keep (dis_parts hA)
  clear okA vA cv hA
  replace HW := keep (HW.out.next hbl)
  replace S1 := keep (S1.out.next hbl)
  replace S2 := keep (S2.out.next hbl)
  replace S3 := keep (S3.out.next hbl)
  replace S5 := keep (S5.out.next hbl)
  replace S6 := keep (S6.out.next hbl)
  replace S7 := keep (S7.out.next hbl)
  replace RA := keep (RA.out.next hbl)
  replace RB := keep (RB.out.next hbl)
  clear hbl
  have hbl := below_alloc w10 (.cells A.cells 42)
  have PA := keep (show RowAt _ _ _ _ from heap_alloc_new w10 (.cells A.cells 42))
  replace OA := keep (OA.out.next hbl)
  replace HW := keep (HW.out.next hbl)
  replace S1 := keep (S1.out.next hbl)
  replace S2 := keep (S2.out.next hbl)
  replace S3 := keep (S3.out.next hbl)
  replace S5 := keep (S5.out.next hbl)
  replace S6 := keep (S6.out.next hbl)
  replace S7 := keep (S7.out.next hbl)
  replace RA := keep (RA.out.next hbl)
  replace RB := keep (RB.out.next hbl)
  clear hbl
  go_upto_region 14 with (rw [at_store 42 (.tmp 17) (.tmp 68)]; refine at_op ?_; refine wpList_store_row rfl 42 _ _ rfl w10.heap.size A.cells rfl rfl 42 zs18 (heap_alloc_new _ _) JA.out ZA.out (Dis.cells_one A) ?_; rw [World.setRow_alloc_new])
  generalize hwx : w10.alloc (.cells A.cells 42) = w11 at *
  clear hwx
  generalize hgx : w10.heap.size = gA at *
  clear hgx
  go_wp2_with (rw [at_load 30 (.tmp 12)]; refine at_op ?_; refine wpList_load_row rfl 30 _ rfl (w.heap.size + 1) rfl 30 (idCells ib) (0, 0) _ RB.out Trym.underlying30 rfl IB.out ?_)
  refine (MB.out (fun g => g < w11.heap.size) p5 p6 p7 n5 n7 d5 d6 d7 ts es w11 k5 S5.out S6.out (fun _ h => h) E5.out).mono ?_
  rintro e w12 ⟨cq, cc, rfl, hbl, cv⟩
  have okB := (Dis.mk ib cq n5 cc p7 n7 d7 hs ts es).ok_of hb k5 (S7.out.next hbl) (cv_small hbl.size cv)
  have vB : dCells ib (.slice cq n5 cc) (.slice p7 n7 d7) = (Dis.mk ib cq n5 cc p7 n7 d7 hs ts es).cells := rfl
  rw [vB]
  generalize hB : Dis.mk ib cq n5 cc p7 n7 d7 hs ts es = B at *
  have JB := keep (show Option.map (fun x => x.size) (Trym.prog.info? 42) = some B.cells.size by rw [Dis.cells_size okB.1]; kernel_rfl)
  have ZB := keep (show zs18.size = B.cells.size by rw [Dis.cells_size okB.1]; rfl)
  have OB := keep okB
  have FB := keep (dis_parts hB)
  clear okB vB cv hB
  replace HW := keep (HW.out.next hbl)
  replace S1 := keep (S1.out.next hbl)
  replace S2 := keep (S2.out.next hbl)
  replace S3 := keep (S3.out.next hbl)
  replace S5 := keep (S5.out.next hbl)
  replace S6 := keep (S6.out.next hbl)
  replace S7 := keep (S7.out.next hbl)
  replace RA := keep (RA.out.next hbl)
  replace RB := keep (RB.out.next hbl)
  replace OA := keep (OA.out.next hbl)
  replace PA := keep (PA.out.next hbl)
  clear hbl
  have hbl := below_alloc w12 (.cells B.cells 42)
  have PB := keep (show RowAt _ _ _ _ from heap_alloc_new w12 (.cells B.cells 42))
  replace OB := keep (OB.out.next hbl)
  replace HW := keep (HW.out.next hbl)
  replace S1 := keep (S1.out.next hbl)
  replace S2 := keep (S2.out.next hbl)
  replace S3 := keep (S3.out.next hbl)
  replace S5 := keep (S5.out.next hbl)
  replace S6 := keep (S6.out.next hbl)
  replace S7 := keep (S7.out.next hbl)
  replace RA := keep (RA.out.next hbl)
  replace RB := keep (RB.out.next hbl)
  replace OA := keep (OA.out.next hbl)
  replace PA := keep (PA.out.next hbl)
  clear hbl
  go_upto_region 15 with (rw [at_store 42 (.tmp 18) (.tmp 73)]; refine at_op ?_; refine wpList_store_row rfl 42 _ _ rfl w12.heap.size B.cells rfl rfl 42 zs18 (heap_alloc_new _ _) JB.out ZB.out (Dis.cells_one B) ?_; rw [World.setRow_alloc_new])
  generalize hwx : w12.alloc (.cells B.cells 42) = w13 at *
  clear hwx
  generalize hgx : w12.heap.size = gB at *
  clear hgx
  have HS0 := keep (held_of RA.out)
  have HBW := keep (Array.getElem?_eq_some_iff.1 RA.out).1
  have hu30 := Trym.underlying30
  have hi30 : Option.map (fun x => x.size) (Trym.prog.info? 30) = some (ia.map Extern.Stop.cell).length := by rw [List.length_map, ha]; kernel_rfl
  simp only [Act.put]
  go_cut [19] from 74 to 81 (fun x wc => ∃ (g : Nat) (C : Dis), x = .pointer (some ⟨g, 0, none⟩) ∧ RowAt wc g C.cells 42 ∧ C.ok wc.heap.size wc ∧ C.says ia gs n1 ss ds ∧ Below w13.heap.size w13 wc)
  case first =>
    go_region_held3 (Held w13 w.heap.size (ia.map Extern.Stop.cell)) (first | assumption | exact held_drew HS0.out | exact held_alloc (by assumption) _)
      (first
        | (go_at_call 17; refine (clone17_any p1 n1 d1 ss _ ?_ E1.out k1).mono ?_; exact S1.out.next (And.left (b := World.rangeAt _ _ _ _) (by assumption)); rintro e w' ⟨x1, y1, rfl, hbl, O1, N1⟩; have hS1 := held_next (by assumption) hbl; have T1 := keep (SV.of_owns O1).2; (try have R19 := keep (row_alloc3 hbl)); clear hbl O1 N1)
        | (go_at_call 18; rw [calls_alloc]; refine at_op ?_; refine (clone18_any p2 n1 d2 ds _ ?_ E2.out k1 KD'.out).mono ?_; exact S2.out.next (And.left (b := World.rangeAt _ _ _ _) (by assumption)); rintro e w' ⟨x2, y2, rfl, hbl, O1, N1, N2⟩; have hS2 := held_next (by assumption) hbl; obtain ⟨L2, U2, t2, a2⟩ := dvi_ex O1; have T2 := keep t2; replace T1 := keep (And.intro ((T1.out.1.next (below_alloc _ _)).next hbl) T1.out.2); have R19 := keep (row_alloc2 hS1 hbl); have G2 := keep (a2 _ (lt_row hbl)); clear hbl O1 N1 N2 t2 a2)
        | (go_at_call 18; refine (clone18_any p2 n1 d2 ds _ ?_ E2.out k1 KD'.out).mono ?_; exact S2.out.next (And.left (b := World.rangeAt _ _ _ _) (by assumption)); rintro e w' ⟨x2, y2, rfl, hbl, O1, N1, N2⟩; have hS2 := held_next (by assumption) hbl; obtain ⟨L2, U2, t2, a2⟩ := dvi_ex O1; have T2 := keep t2; replace T1 := keep (And.intro (T1.out.1.next hbl) T1.out.2); (try (have G2 := keep (a2 _ (lt_of_row R19.out.1)); replace R19 := keep (And.intro (R19.out.1.next hbl) R19.out.2))); clear hbl O1 N1 N2 t2 a2)
        | (go_at_call 19; rw [calls_alloc]; refine at_op ?_; refine (clone19_any p3 n3 d3 gs _ ?_ E3.out k3).mono ?_; exact S3.out.next (And.left (b := World.rangeAt _ _ _ _) (by assumption)); rintro e w' ⟨x3, y3, rfl, hbl, O1, N1⟩; have hS3 := held_next (by assumption) hbl; obtain ⟨L3, U3, t3, a3⟩ := svi_ex O1; have T3 := keep t3; have R19 := keep (row_alloc2 hS2 hbl); have G2 := keep (away_ge T2.out); have G3 := keep (a3 _ (lt_row hbl)); replace T1 := keep (And.intro ((T1.out.1.next (below_alloc _ _)).next hbl) T1.out.2); replace T2 := keep ((T2.out.next (below_alloc _ _)).next hbl); clear hbl O1 N1 t3 a3)
        | (go_at_call 19; refine (clone19_any p3 n3 d3 gs _ ?_ E3.out k3).mono ?_; exact S3.out.next (And.left (b := World.rangeAt _ _ _ _) (by assumption)); rintro e w' ⟨x3, y3, rfl, hbl, O1, N1⟩; have hS3 := held_next (by assumption) hbl; obtain ⟨L3, U3, t3, a3⟩ := svi_ex O1; have T3 := keep t3; (try (have G3 := keep (a3 _ (lt_of_row R19.out.1)); replace R19 := keep (And.intro (R19.out.1.next hbl) R19.out.2))); replace T1 := keep (And.intro (T1.out.1.next hbl) T1.out.2); replace T2 := keep (T2.out.next hbl); clear hbl O1 N1 t3 a3)
        | (go_at_call 20; rw [calls_alloc]; refine at_op ?_; refine (MA.out (fun b => L2 ≤ b ∧ b < U2) x1 x2 x3 n1 n3 y1 y2 y3 ss ds _ k1 ?_ ?_ ?_ T1.out.2).mono ?_; exact T1.out.1.next (below_alloc _ _); exact (T2.out.next (below_alloc _ _)).1; exact dvi_lt (T2.out.next (below_alloc _ _)); rintro e w' ⟨cq, cc, rfl, hbl, cv⟩; have hS4 := held_next (by assumption) hbl; have R19 := keep (row_alloc2 hS3 hbl); have G2 := keep (away_ge T2.out); have G3 := keep (away_ge' T3.out); have GL := keep (lt_row hbl); have U2' := keep (u_alloc T2.out hbl); replace T3 := keep ((T3.out.next (below_alloc _ _)).next hbl); have okC := (Dis.mk ia cq n1 cc x3 n3 y3 gs ss ds).ok_of ha k1 T3.out.small (cv_small2 U2'.out.2 cv); (try have okS := keep ((Dis.mk ia cq n1 cc x3 n3 y3 gs ss ds).ok_set ha k1 T3.out cv hbl.size U2'.out.1 G2.out G3.out GL.out)); have sC := keep (dis_parts (ids := ia) (cq := cq) (sq := x3) (n := n1) (cc := cc) (m := n3) (sc := y3) (gs := gs) (ss := ss) (ds := ds) rfl); have vC : dCells ia (.slice cq n1 cc) (.slice x3 n3 y3) = (Dis.mk ia cq n1 cc x3 n3 y3 gs ss ds).cells := rfl; rw [vC]; generalize Dis.mk ia cq n1 cc x3 n3 y3 gs ss ds = C at *; have hcs := Dis.cells_size okC.1; have hst2 := store_new C okC.1 w'; unfold zs18 at hst2; (try have hst1 := store_old C okC.1 R19.out.1); (try have hS5 := held_set hS4 HBW.out R19.out.2 C.cells); have OC := keep okC; clear hbl cv okC vC)
        | (go_at_call 20; refine (MA.out (fun b => L2 ≤ b ∧ b < U2) x1 x2 x3 n1 n3 y1 y2 y3 ss ds _ k1 ?_ ?_ ?_ T1.out.2).mono ?_; exact T1.out.1; exact T2.out.1; exact dvi_lt T2.out; rintro e w' ⟨cq, cc, rfl, hbl, cv⟩; have hS4 := held_next (by assumption) hbl; (try (have GL := keep (lt_of_row R19.out.1); replace R19 := keep (And.intro (R19.out.1.next hbl) R19.out.2))); have U2' := keep (And.intro T2.out.2 (Nat.le_trans T2.out.2 hbl.size)); replace T3 := keep (T3.out.next hbl); have okC := (Dis.mk ia cq n1 cc x3 n3 y3 gs ss ds).ok_of ha k1 T3.out.small (cv_small2 U2'.out.2 cv); (try have okS := keep ((Dis.mk ia cq n1 cc x3 n3 y3 gs ss ds).ok_set ha k1 T3.out cv hbl.size U2'.out.1 G2.out G3.out GL.out)); have sC := keep (dis_parts (ids := ia) (cq := cq) (sq := x3) (n := n1) (cc := cc) (m := n3) (sc := y3) (gs := gs) (ss := ss) (ds := ds) rfl); have vC : dCells ia (.slice cq n1 cc) (.slice x3 n3 y3) = (Dis.mk ia cq n1 cc x3 n3 y3 gs ss ds).cells := rfl; rw [vC]; generalize Dis.mk ia cq n1 cc x3 n3 y3 gs ss ds = C at *; have hcs := Dis.cells_size okC.1; have hst2 := store_new C okC.1 w'; unfold zs18 at hst2; (try have hst1 := store_old C okC.1 R19.out.1); (try have hS5 := held_set hS4 HBW.out R19.out.2 C.cells); have OC := keep okC; clear hbl cv okC vC))
    all_goals go_wp2_with fail
    all_goals go_meet
    all_goals (first | exact ⟨_, C, rfl, heap_alloc_new _ _, OC.out.next (below_alloc _ _), sC.out, And.left (b := World.rangeAt _ _ _ _) (by assumption)⟩ | exact ⟨_, C, rfl, row_set R19.out.1 _, okS.out _, sC.out, And.left (b := World.rangeAt _ _ _ _) (by assumption)⟩)
  case rest =>
    obtain ⟨gC, C, rfl, PC, OC, FC, hbl⟩ := hcut
    replace PC := keep PC
    replace OC := keep OC
    have FC' := keep FC
    clear FC
    replace HW := keep (HW.out.next hbl)
    replace OA := keep (OA.out.next hbl)
    replace OB := keep (OB.out.next hbl)
    replace PA := keep (PA.out.next hbl)
    replace PB := keep (PB.out.next hbl)
    clear hbl
    clear hi30 hu30
    have SAA := keep (same_self A)
    have SBB := keep (same_self B)
    have SAC := keep (same_says FA.out FC'.out)
    have SCA := keep (same_says FC'.out FA.out)
    have SAB := keep (same_symm A B)
    have JC := keep (show Option.map (fun x => x.size) (Trym.prog.info? 42) = some C.cells.size by rw [Dis.cells_size OC.out.1]; kernel_rfl)
    go_wp2_with (first | (rw [at_load 42 (.tmp 17)]; refine at_op ?_; refine wpList_load_row rfl 42 _ rfl gA rfl 42 A.cells (0, 0) _ PA.out Trym.underlying42 rfl JA.out ?_) | (rw [at_load_g 42 (.tmp 17)]; refine at_op ?_; refine wpList_load_row_g rfl 42 _ rfl gA rfl 42 A.cells (0, 0) _ PA.out Trym.underlying42 rfl JA.out ?_) | (rw [at_load 42 (.tmp 18)]; refine at_op ?_; refine wpList_load_row rfl 42 _ rfl gB rfl 42 B.cells (0, 0) _ PB.out Trym.underlying42 rfl JB.out ?_) | (rw [at_load_g 42 (.tmp 18)]; refine at_op ?_; refine wpList_load_row_g rfl 42 _ rfl gB rfl 42 B.cells (0, 0) _ PB.out Trym.underlying42 rfl JB.out ?_) | (rw [at_load 42 (.tmp 19)]; refine at_op ?_; refine wpList_load_row rfl 42 _ rfl gC rfl 42 C.cells (0, 0) _ PC.out Trym.underlying42 rfl JC.out ?_) | (rw [at_load_g 42 (.tmp 19)]; refine at_op ?_; refine wpList_load_row_g rfl 42 _ rfl gC rfl 42 C.cells (0, 0) _ PC.out Trym.underlying42 rfl JC.out ?_))
    refine (same22_any A A wc OA.out OA.out).mono ?_
    rw [SAA.out]
    rintro e w15 ⟨rfl, hbl⟩
    replace HW := keep (HW.out.next hbl)
    replace OA := keep (OA.out.next hbl)
    replace OB := keep (OB.out.next hbl)
    replace PA := keep (PA.out.next hbl)
    replace PB := keep (PB.out.next hbl)
    replace PC := keep (PC.out.next hbl)
    replace OC := keep (OC.out.next hbl)
    clear hbl
    go_wp2_with (first | (rw [at_load 42 (.tmp 17)]; refine at_op ?_; refine wpList_load_row rfl 42 _ rfl gA rfl 42 A.cells (0, 0) _ PA.out Trym.underlying42 rfl JA.out ?_) | (rw [at_load_g 42 (.tmp 17)]; refine at_op ?_; refine wpList_load_row_g rfl 42 _ rfl gA rfl 42 A.cells (0, 0) _ PA.out Trym.underlying42 rfl JA.out ?_) | (rw [at_load 42 (.tmp 18)]; refine at_op ?_; refine wpList_load_row rfl 42 _ rfl gB rfl 42 B.cells (0, 0) _ PB.out Trym.underlying42 rfl JB.out ?_) | (rw [at_load_g 42 (.tmp 18)]; refine at_op ?_; refine wpList_load_row_g rfl 42 _ rfl gB rfl 42 B.cells (0, 0) _ PB.out Trym.underlying42 rfl JB.out ?_) | (rw [at_load 42 (.tmp 19)]; refine at_op ?_; refine wpList_load_row rfl 42 _ rfl gC rfl 42 C.cells (0, 0) _ PC.out Trym.underlying42 rfl JC.out ?_) | (rw [at_load_g 42 (.tmp 19)]; refine at_op ?_; refine wpList_load_row_g rfl 42 _ rfl gC rfl 42 C.cells (0, 0) _ PC.out Trym.underlying42 rfl JC.out ?_))
    refine (same22_any B B w15 OB.out OB.out).mono ?_
    rw [SBB.out]
    rintro e w16 ⟨rfl, hbl⟩
    replace HW := keep (HW.out.next hbl)
    replace OA := keep (OA.out.next hbl)
    replace OB := keep (OB.out.next hbl)
    replace PA := keep (PA.out.next hbl)
    replace PB := keep (PB.out.next hbl)
    replace PC := keep (PC.out.next hbl)
    replace OC := keep (OC.out.next hbl)
    clear hbl
    go_wp2_with (first | (rw [at_load 42 (.tmp 17)]; refine at_op ?_; refine wpList_load_row rfl 42 _ rfl gA rfl 42 A.cells (0, 0) _ PA.out Trym.underlying42 rfl JA.out ?_) | (rw [at_load_g 42 (.tmp 17)]; refine at_op ?_; refine wpList_load_row_g rfl 42 _ rfl gA rfl 42 A.cells (0, 0) _ PA.out Trym.underlying42 rfl JA.out ?_) | (rw [at_load 42 (.tmp 18)]; refine at_op ?_; refine wpList_load_row rfl 42 _ rfl gB rfl 42 B.cells (0, 0) _ PB.out Trym.underlying42 rfl JB.out ?_) | (rw [at_load_g 42 (.tmp 18)]; refine at_op ?_; refine wpList_load_row_g rfl 42 _ rfl gB rfl 42 B.cells (0, 0) _ PB.out Trym.underlying42 rfl JB.out ?_) | (rw [at_load 42 (.tmp 19)]; refine at_op ?_; refine wpList_load_row rfl 42 _ rfl gC rfl 42 C.cells (0, 0) _ PC.out Trym.underlying42 rfl JC.out ?_) | (rw [at_load_g 42 (.tmp 19)]; refine at_op ?_; refine wpList_load_row_g rfl 42 _ rfl gC rfl 42 C.cells (0, 0) _ PC.out Trym.underlying42 rfl JC.out ?_))
    refine (same22_any A C w16 OA.out OC.out).mono ?_
    rw [SAC.out]
    rintro e w17 ⟨rfl, hbl⟩
    replace HW := keep (HW.out.next hbl)
    replace OA := keep (OA.out.next hbl)
    replace OB := keep (OB.out.next hbl)
    replace PA := keep (PA.out.next hbl)
    replace PB := keep (PB.out.next hbl)
    replace PC := keep (PC.out.next hbl)
    replace OC := keep (OC.out.next hbl)
    clear hbl
    go_wp2_with (first | (rw [at_load 42 (.tmp 17)]; refine at_op ?_; refine wpList_load_row rfl 42 _ rfl gA rfl 42 A.cells (0, 0) _ PA.out Trym.underlying42 rfl JA.out ?_) | (rw [at_load_g 42 (.tmp 17)]; refine at_op ?_; refine wpList_load_row_g rfl 42 _ rfl gA rfl 42 A.cells (0, 0) _ PA.out Trym.underlying42 rfl JA.out ?_) | (rw [at_load 42 (.tmp 18)]; refine at_op ?_; refine wpList_load_row rfl 42 _ rfl gB rfl 42 B.cells (0, 0) _ PB.out Trym.underlying42 rfl JB.out ?_) | (rw [at_load_g 42 (.tmp 18)]; refine at_op ?_; refine wpList_load_row_g rfl 42 _ rfl gB rfl 42 B.cells (0, 0) _ PB.out Trym.underlying42 rfl JB.out ?_) | (rw [at_load 42 (.tmp 19)]; refine at_op ?_; refine wpList_load_row rfl 42 _ rfl gC rfl 42 C.cells (0, 0) _ PC.out Trym.underlying42 rfl JC.out ?_) | (rw [at_load_g 42 (.tmp 19)]; refine at_op ?_; refine wpList_load_row_g rfl 42 _ rfl gC rfl 42 C.cells (0, 0) _ PC.out Trym.underlying42 rfl JC.out ?_))
    refine (same22_any C A w17 OC.out OA.out).mono ?_
    rw [SCA.out]
    rintro e w18 ⟨rfl, hbl⟩
    replace HW := keep (HW.out.next hbl)
    replace OA := keep (OA.out.next hbl)
    replace OB := keep (OB.out.next hbl)
    replace PA := keep (PA.out.next hbl)
    replace PB := keep (PB.out.next hbl)
    replace PC := keep (PC.out.next hbl)
    replace OC := keep (OC.out.next hbl)
    clear hbl
    go_upto_region 20 with fail
    have HS0 := keep (show Held20 w18 gA gB A.cells B.cells w18 from ⟨PA.out, PB.out, Below.refl _ _⟩)
    refine wp_region_held_drew (S := Held20 w18 gA gB A.cells B.cells) (by kernel_rfl) (held20_drew HS0.out) (fun hHeld => ?_)
    refine wpAnyH_take (i := 0) (v := .agg A.cells) rfl (by kernel_rfl) (by kernel_rfl) (by kernel_rfl) (fun _ _ _ h => h) (yields_row rfl 42 (.tmp 17) rfl gA rfl 42 A.cells (0, 0) _ (fun _ h => h.1) Trym.underlying42 rfl JA.out) hHeld ?_
    simp only [Act.put, List.setIfInBounds_toArray, List.set_cons_zero, List.set_cons_succ]
    refine wpAnyH_take (i := 1) (v := .agg B.cells) rfl (by kernel_rfl) (by kernel_rfl) (by kernel_rfl) (fun _ _ _ h => h) (yields_row rfl 42 (.tmp 18) rfl gB rfl 42 B.cells (0, 0) _ (fun _ h => h.2.1) Trym.underlying42 rfl JB.out) hHeld ?_
    simp only [Act.put, List.setIfInBounds_toArray, List.set_cons_zero, List.set_cons_succ]
    refine wpAnyH_take (i := 3) (v := .agg B.cells) rfl (by kernel_rfl) (by kernel_rfl) (by kernel_rfl) (fun _ _ _ h => h) (yields_row rfl 42 (.tmp 18) rfl gB rfl 42 B.cells (0, 0) _ (fun _ h => h.2.1) Trym.underlying42 rfl JB.out) hHeld ?_
    simp only [Act.put, List.setIfInBounds_toArray, List.set_cons_zero, List.set_cons_succ]
    refine wpAnyH_take (i := 4) (v := .agg A.cells) rfl (by kernel_rfl) (by kernel_rfl) (by kernel_rfl) (fun _ _ _ h => h) (yields_row rfl 42 (.tmp 17) rfl gA rfl 42 A.cells (0, 0) _ (fun _ h => h.1) Trym.underlying42 rfl JA.out) hHeld ?_
    simp only [Act.put, List.setIfInBounds_toArray, List.set_cons_zero, List.set_cons_succ]
    refine wpAnyH_ready (rs := [2]) (by kernel_rfl) (by simp) ?_
    refine AllReadyH.cons rfl (fun K hK => ?_) AllReadyH.nil
    go_simp
    refine (same22_any A B _ (OA.out.next hHeld.2.2) (OB.out.next hHeld.2.2)).mono ?_
    rintro e w19 ⟨rfl, hbl⟩
    have hS1 := held20_next hHeld hbl
    refine hK.out _ _ hS1 (fun hHeld1 => ?_)
    clear hK K hbl hS1 hHeld
    try simp only [Act.put, List.setIfInBounds_toArray, List.set_cons_zero, List.set_cons_succ]
    refine wpAnyH_ready (rs := [5]) (by kernel_rfl) (by simp) ?_
    refine AllReadyH.cons rfl (fun K hK => ?_) AllReadyH.nil
    go_simp
    refine (same22_any B A _ (OB.out.next hHeld1.2.2) (OA.out.next hHeld1.2.2)).mono ?_
    rw [← SAB.out]
    rintro e w20 ⟨rfl, hbl⟩
    have hS1 := held20_next hHeld1 hbl
    refine hK.out _ _ hS1 (fun hHeld2 => ?_)
    clear hK K hbl hS1 hHeld1
    try simp only [Act.put, List.setIfInBounds_toArray, List.set_cons_zero, List.set_cons_succ]
    refine wpAnyH_ready (rs := [6]) (by kernel_rfl) (by simp) ?_
    refine AllReadyH.cons rfl (fun K hK => ?_) AllReadyH.nil
    go_simp
    refine hK.out _ _ hHeld2 (fun _ => ?_)
    clear hK K
    try simp only [Act.put, List.setIfInBounds_toArray, List.set_cons_zero, List.set_cons_succ]
    refine wpAnyH_ready (rs := [7]) (by kernel_rfl) (by simp) ?_
    refine AllReadyH.cons rfl (fun K hK => ?_) AllReadyH.nil
    go_simp
    refine hK.out _ _ hHeld2 (fun _ => ?_)
    clear hK K
    try simp only [Act.put, List.setIfInBounds_toArray, List.set_cons_zero, List.set_cons_succ]
    refine wpAnyH_done (by kernel_rfl) ?_ _
    go_wp2
    go_ret
    exact ⟨retb (by simp), HW.out.next hHeld2.2.2⟩
end Go.Proofs.Qxb6601427aMods
