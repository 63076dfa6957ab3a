/- Instruction.Unmarshal, walked: atomic codes. (Printed by wip/genunm.py.) -/
import Derived.Test.YtobgjmgepckijaaGreatDoorUnm
import Derived.Deep.RegionWith
import Derived.Deep.Cut
import Derived.Deep.CutRange
import Derived.StillTailTactics
import Derived.Outline
namespace Go.Proofs.YtobgjmgepckijaaGreatDoor
open Go.RowKit
set_option linter.unusedVariables false
set_option linter.unusedSimpArgs false
set_option maxHeartbeats 4000000 in
set_option maxRecDepth 100000 in
theorem U_atomic (big : Bool) (ib so : Nat) (d s off c b0 b1 b2 b3 b4 b5 b6 b7 op : Int) (rest : List Int) (w : World) (hs : SrcAt w so (b0 :: b1 :: b2 :: b3 :: b4 :: b5 :: b6 :: b7 :: rest)) (hi : InsAt w ib 0 0 0 0 0) (hib : so < ib)
    (p0 : 0 ≤ b0) (q0 : b0 < 256) (p1 : 0 ≤ b1) (q1 : b1 < 256) (p2 : 0 ≤ b2) (q2 : b2 < 256) (p3 : 0 ≤ b3) (q3 : b3 < 256) (p4 : 0 ≤ b4) (q4 : b4 < 256) (p5 : 0 ≤ b5) (q5 : b5 < 256) (p6 : 0 ≤ b6) (q6 : b6 < 256) (p7 : 0 ≤ b7) (q7 : b7 < 256)
    (hd : dstOf big b1 = d) (hs' : srcOf big b1 = s) (ho : IntKind.i16.wrap (num2 big b2 b3) = off) (hc : c32 (num4 big b4 b5 b6 b7) = c)
    (e2 : (b0 == 24) = false) (e3 : (oJump b0 == 128 && s == 0 && d == 0) = false) (e4 : cALU (oClass b0) = false) (e5 : (oClass b0 == 3) = true) (e6 : (oMode b0 == 192) = true) (e7 : bits .or .u32 b0 (bits .and .u32 (wrap64 (c * 256) % 4294967296) 130816) = op) (e8 : (op == 24) = false) :
    Calls Tryz.prog 57 #[.pointer (some ⟨ib, 0, none⟩), .iface 67 (.pointer (some ⟨so, 0, none⟩)), ordV big, .string ⟨#[108, 105, 110, 117, 120]⟩] w
      (UnmPost w ib so op d s off c rest) := by
  have hm := make8
  have hltI := heap_lt hi
  have hltS := src_lt hs
  have HS := Lib.hid hs
  have HI := Lib.hid hi
  have HR1 := Lib.hid hd
  have HR2 := Lib.hid hs'
  have HR3 := Lib.hid ho
  have HR4 := Lib.hid hc
  clear hs hi hd hs' ho hc
  have e9 : (bits .or .u32 b0 (bits .and .u32 (wrap64 (c * 256) % 4294967296) 130816) == 24) = false := by rw [e7]; exact e8
  have E7 := Lib.hid e7
  clear e7
  cases big
  · skip
    rw [ordF]
    go_enter Tryz.func57, Tryz.ntmps57
    go_wp2_with fail
    refine (RF_some so w.heap.size b0 b1 b2 b3 b4 b5 b6 b7 0 0 0 0 0 0 0 0 rest _ (src_grown HS.out (World.grownBy_alloc w _ none)) (heap_at rfl) hltS).mono ?_
    rintro e w1 ⟨rfl, hS1, hE1, ho1, hB1⟩
    have hI1 : InsAt w1 ib 0 0 0 0 0 := (ho1 ib (by simp; omega) (by omega) (by omega)).trans (insAt_grown HI.out (World.grownBy_alloc w _ none))
    have hK1 : Kept2 w w1 so ib := ⟨((Below.refl so w).alloc (Nat.le_of_lt hltS) _).trans hB1, fun k hk hks hkb => (ho1 k (by simp; omega) hks (by omega)).trans (Below.heap_alloc w _ k hk)⟩
    have f0 := frozen_of_row w1 ib 0 _ _ hI1
    have f1 := frozen_of_row w1 ib 1 _ _ hI1
    have f2 := frozen_of_row w1 ib 2 _ _ hI1
    have a0 : w1.cell? ⟨ib, 0, none⟩ = some (.int .u32 0) := cell_of_row _ _ 0 _ _ _ hI1
    have a1 : w1.cell? ⟨ib, 1, none⟩ = some (.int .u8 0) := cell_of_row _ _ 1 _ _ _ hI1
    have a2 : w1.cell? ⟨ib, 2, none⟩ = some (.int .u8 0) := cell_of_row _ _ 2 _ _ _ hI1
    have d0 : w1.cell? ⟨w.heap.size, 0, none⟩ = some (.int .u8 b0) := cell_of_row _ _ 0 _ _ _ hE1
    have d1 : w1.cell? ⟨w.heap.size, 1, none⟩ = some (.int .u8 b1) := cell_of_row _ _ 1 _ _ _ hE1
    have z1 := eqLL
    have z2 := eqBB
    have z3 := eqBL
    have hE := Lib.hid hE1
    have hI := Lib.hid hI1
    clear hE1 hI1
    go_wp2_with fail
    refine wp_gen (fun W => UState w W ib so w.heap.size b0 (dstOf false b1) (srcOf false b1) 0 0 b0 b1 b2 b3 b4 b5 b6 b7 rest) ⟨insAt_set2 (insAt_set1 (insAt_set0 hI.out _) _) _, eight_set (eight_set (eight_set hE.out (by omega) _ _) (by omega) _ _) (by omega) _ _, src_set (src_set (src_set hS1 hib _ _) hib _ _) hib _ _, ((hK1.setIb hib _ _).setIb hib _ _).setIb hib _ _⟩ ?_
    clear f0 f1 f2 a0 a1 a2 d0 d1 z1 z2 z3 hE hI hS1 ho1 hB1 hK1
    rintro W ⟨hI, hE, hS, hK⟩
    have n1 := na_le_Uint16
    have n2 := me_le_Uint16
    have n3 := na_le_Uint32
    have n4 := me_le_Uint32
    go_cut [] from 68 to 78 (fun wx => UState w wx ib so w.heap.size b0 (dstOf false b1) (srcOf false b1) (IntKind.i16.wrap (num2 false b2 b3)) 0 b0 b1 b2 b3 b4 b5 b6 b7 rest)
    case first =>
      go_region_with (
        go_at_call 177
        refine (le_get16_2 w.heap.size _ _ _ _ _ _ _ _ _ (eight_drew hE) p2 q2 p3 q3).mono ?_
        rintro e W2 ⟨rfl, hg⟩
        have hI2 := insAt_grown hI (grownBy_trans (grownBy_drew (World.grownBy.refl W none)) hg)
        have f3 := frozen_of_row W2 ib 3 _ _ hI2
        have a3 : W2.cell? ⟨ib, 3, none⟩ = some (.int .i16 0) := cell_of_row _ _ 3 _ _ _ hI2)
      all_goals
        go_wp2_with fail
        go_meet
        have hg2 := grownBy_trans (grownBy_drew (World.grownBy.refl W none)) hg
        exact ⟨insAt_set3 hI2 _, eight_set (eight_grown hE hg2) (by omega) _ _, src_set (src_grown hS hg2) hib _ _, (hK.grown hg2 hltS).setIb hib _ _⟩
    case rest =>
    obtain ⟨hI3, hE3, hS3, hK3⟩ := hcut
    clear hI hE hS hK
    go_wp2_with fail
    go_cut [] from 79 to 90 (fun wx => UState w wx ib so w.heap.size b0 (dstOf false b1) (srcOf false b1) (IntKind.i16.wrap (num2 false b2 b3)) (c32 (num4 false b4 b5 b6 b7)) b0 b1 b2 b3 b4 b5 b6 b7 rest)
    case first =>
      go_region_with (
        go_at_call 178
        refine (le_get32_4 w.heap.size _ _ _ _ _ _ _ _ _ (eight_drew hE3) p4 q4 p5 q5 p6 q6 p7 q7).mono ?_
        rintro e W2 ⟨rfl, hg⟩
        have hI2 := insAt_grown hI3 (grownBy_trans (grownBy_drew (World.grownBy.refl wc none)) hg)
        have f4 := frozen_of_row W2 ib 4 _ _ hI2
        have a4 : W2.cell? ⟨ib, 4, none⟩ = some (.int .i64 0) := cell_of_row _ _ 4 _ _ _ hI2)
      all_goals
        go_wp2_with fail
        go_meet
        have hg2 := grownBy_trans (grownBy_drew (World.grownBy.refl wc none)) hg
        exact ⟨insAt_set4 hI2 _, eight_set (eight_grown hE3 hg2) (by omega) _ _, src_set (src_grown hS3 hg2) hib _ _, (hK3.grown hg2 hltS).setIb hib _ _⟩
    case rest =>
    obtain ⟨hI4, hE4, hS4, hK4⟩ := hcut
    clear hI3 hE3 hS3 hK3
    rw [HR1.out, HR2.out, HR3.out, HR4.out] at hI4
    have c0 : wc.cell? ⟨ib, 0, none⟩ = some (.int .u32 b0) := cell_of_row _ _ 0 _ _ _ hI4
    have c1 : wc.cell? ⟨ib, 1, none⟩ = some (.int .u8 d) := cell_of_row _ _ 1 _ _ _ hI4
    have c2 : wc.cell? ⟨ib, 2, none⟩ = some (.int .u8 s) := cell_of_row _ _ 2 _ _ _ hI4
    have c3 : wc.cell? ⟨ib, 3, none⟩ = some (.int .i16 off) := cell_of_row _ _ 3 _ _ _ hI4
    have c4 : wc.cell? ⟨ib, 4, none⟩ = some (.int .i64 c) := cell_of_row _ _ 4 _ _ _ hI4
    have f0 := frozen_of_row wc ib 0 _ _ hI4
    have f3 := frozen_of_row wc ib 3 _ _ hI4
    have f4 := frozen_of_row wc ib 4 _ _ hI4
    have HI4 := Lib.hid hI4
    clear hI4
    go_wp2_with (first
      | (go_at_call 97; refine (IsBuiltinCall_any ib b0 d s wc c0 c1 c2).mono ?_; rintro e w' ⟨rfl, rfl⟩)
      | (go_at_call 63; refine (Class_any _ _).mono ?_; rintro e w' ⟨rfl, rfl⟩)
      | (go_at_call 74; refine (isALU_any _ _).mono ?_; rintro e w' ⟨rfl, rfl⟩)
      | (go_at_call 64; refine (Mode_any _ _).mono ?_; rintro e w' ⟨rfl, rfl⟩)
      | (go_at_call 95; refine (IsDW_any _ _).mono ?_; rintro e w' ⟨rfl, rfl⟩)
      | (go_at_call 75; refine (ALUOp_any _ _).mono ?_; rintro e w' ⟨rfl, rfl⟩)
      | (go_at_call 102; refine (builtinFor_any _ _ k0 k1).mono ?_; rintro e w' ⟨rfl, rfl⟩)
      | (go_at_call 99; refine (SetALUOp_any _ 0 _ (by decide) (by decide) (by decide) E4.out).mono ?_; rintro e w' ⟨rfl, rfl⟩))
    refine wp_region_still_tail 14 (by kernel_rfl) (by kernel_rfl) ?_
    rw [show ({ wc with drawn := wc.drawn + 1 } : World) = wc.drew from rfl]
    simp only [List.take_succ_cons, List.take_zero, List.drop_succ_cons, List.drop_zero]
    repeat still_step
    refine wpStill_nil ?_
    have g0 : wc.drew.cell? ⟨ib, 0, none⟩ = some (.int .u32 b0) := c0
    go_wp2_with (first
      | (go_at_call 97; refine (IsBuiltinCall_any ib b0 d s wc c0 c1 c2).mono ?_; rintro e w' ⟨rfl, rfl⟩)
      | (go_at_call 63; refine (Class_any _ _).mono ?_; rintro e w' ⟨rfl, rfl⟩)
      | (go_at_call 74; refine (isALU_any _ _).mono ?_; rintro e w' ⟨rfl, rfl⟩)
      | (go_at_call 64; refine (Mode_any _ _).mono ?_; rintro e w' ⟨rfl, rfl⟩)
      | (go_at_call 95; refine (IsDW_any _ _).mono ?_; rintro e w' ⟨rfl, rfl⟩)
      | (go_at_call 75; refine (ALUOp_any _ _).mono ?_; rintro e w' ⟨rfl, rfl⟩)
      | (go_at_call 102; refine (builtinFor_any _ _ k0 k1).mono ?_; rintro e w' ⟨rfl, rfl⟩)
      | (go_at_call 99; refine (SetALUOp_any _ 0 _ (by decide) (by decide) (by decide) E4.out).mono ?_; rintro e w' ⟨rfl, rfl⟩))
    go_ret
    have hq : InsAt (wc.setCell ⟨ib, 0, none⟩ (.int .u32 (bits .or .u32 b0 (bits .and .u32 (wrap64 (c * 256) % 4294967296) 130816)))) ib op d s off c := by
      rw [E7.out]
      exact insAt_set0 HI4.out op
    exact ⟨rfl, hq, src_set hS4 hib _ _, (hK4.setIb hib _ _).drew⟩
  · skip
    rw [ordT]
    go_enter Tryz.func57, Tryz.ntmps57
    go_wp2_with fail
    refine (RF_some so w.heap.size b0 b1 b2 b3 b4 b5 b6 b7 0 0 0 0 0 0 0 0 rest _ (src_grown HS.out (World.grownBy_alloc w _ none)) (heap_at rfl) hltS).mono ?_
    rintro e w1 ⟨rfl, hS1, hE1, ho1, hB1⟩
    have hI1 : InsAt w1 ib 0 0 0 0 0 := (ho1 ib (by simp; omega) (by omega) (by omega)).trans (insAt_grown HI.out (World.grownBy_alloc w _ none))
    have hK1 : Kept2 w w1 so ib := ⟨((Below.refl so w).alloc (Nat.le_of_lt hltS) _).trans hB1, fun k hk hks hkb => (ho1 k (by simp; omega) hks (by omega)).trans (Below.heap_alloc w _ k hk)⟩
    have f0 := frozen_of_row w1 ib 0 _ _ hI1
    have f1 := frozen_of_row w1 ib 1 _ _ hI1
    have f2 := frozen_of_row w1 ib 2 _ _ hI1
    have a0 : w1.cell? ⟨ib, 0, none⟩ = some (.int .u32 0) := cell_of_row _ _ 0 _ _ _ hI1
    have a1 : w1.cell? ⟨ib, 1, none⟩ = some (.int .u8 0) := cell_of_row _ _ 1 _ _ _ hI1
    have a2 : w1.cell? ⟨ib, 2, none⟩ = some (.int .u8 0) := cell_of_row _ _ 2 _ _ _ hI1
    have d0 : w1.cell? ⟨w.heap.size, 0, none⟩ = some (.int .u8 b0) := cell_of_row _ _ 0 _ _ _ hE1
    have d1 : w1.cell? ⟨w.heap.size, 1, none⟩ = some (.int .u8 b1) := cell_of_row _ _ 1 _ _ _ hE1
    have z1 := eqLL
    have z2 := eqBB
    have z3 := eqBL
    have hE := Lib.hid hE1
    have hI := Lib.hid hI1
    clear hE1 hI1
    go_wp2_with fail
    refine wp_gen (fun W => UState w W ib so w.heap.size b0 (dstOf true b1) (srcOf true b1) 0 0 b0 b1 b2 b3 b4 b5 b6 b7 rest) ⟨insAt_set2 (insAt_set1 (insAt_set0 hI.out _) _) _, eight_set (eight_set (eight_set hE.out (by omega) _ _) (by omega) _ _) (by omega) _ _, src_set (src_set (src_set hS1 hib _ _) hib _ _) hib _ _, ((hK1.setIb hib _ _).setIb hib _ _).setIb hib _ _⟩ ?_
    clear f0 f1 f2 a0 a1 a2 d0 d1 z1 z2 z3 hE hI hS1 ho1 hB1 hK1
    rintro W ⟨hI, hE, hS, hK⟩
    have n1 := na_be_Uint16
    have n2 := me_be_Uint16
    have n3 := na_be_Uint32
    have n4 := me_be_Uint32
    go_cut [] from 68 to 78 (fun wx => UState w wx ib so w.heap.size b0 (dstOf true b1) (srcOf true b1) (IntKind.i16.wrap (num2 true b2 b3)) 0 b0 b1 b2 b3 b4 b5 b6 b7 rest)
    case first =>
      go_region_with (
        go_at_call 169
        refine (be_get16_2 w.heap.size _ _ _ _ _ _ _ _ _ (eight_drew hE) p2 q2 p3 q3).mono ?_
        rintro e W2 ⟨rfl, hg⟩
        have hI2 := insAt_grown hI (grownBy_trans (grownBy_drew (World.grownBy.refl W none)) hg)
        have f3 := frozen_of_row W2 ib 3 _ _ hI2
        have a3 : W2.cell? ⟨ib, 3, none⟩ = some (.int .i16 0) := cell_of_row _ _ 3 _ _ _ hI2)
      all_goals
        go_wp2_with fail
        go_meet
        have hg2 := grownBy_trans (grownBy_drew (World.grownBy.refl W none)) hg
        exact ⟨insAt_set3 hI2 _, eight_set (eight_grown hE hg2) (by omega) _ _, src_set (src_grown hS hg2) hib _ _, (hK.grown hg2 hltS).setIb hib _ _⟩
    case rest =>
    obtain ⟨hI3, hE3, hS3, hK3⟩ := hcut
    clear hI hE hS hK
    go_wp2_with fail
    go_cut [] from 79 to 90 (fun wx => UState w wx ib so w.heap.size b0 (dstOf true b1) (srcOf true b1) (IntKind.i16.wrap (num2 true b2 b3)) (c32 (num4 true b4 b5 b6 b7)) b0 b1 b2 b3 b4 b5 b6 b7 rest)
    case first =>
      go_region_with (
        go_at_call 170
        refine (be_get32_4 w.heap.size _ _ _ _ _ _ _ _ _ (eight_drew hE3) p4 q4 p5 q5 p6 q6 p7 q7).mono ?_
        rintro e W2 ⟨rfl, hg⟩
        have hI2 := insAt_grown hI3 (grownBy_trans (grownBy_drew (World.grownBy.refl wc none)) hg)
        have f4 := frozen_of_row W2 ib 4 _ _ hI2
        have a4 : W2.cell? ⟨ib, 4, none⟩ = some (.int .i64 0) := cell_of_row _ _ 4 _ _ _ hI2)
      all_goals
        go_wp2_with fail
        go_meet
        have hg2 := grownBy_trans (grownBy_drew (World.grownBy.refl wc none)) hg
        exact ⟨insAt_set4 hI2 _, eight_set (eight_grown hE3 hg2) (by omega) _ _, src_set (src_grown hS3 hg2) hib _ _, (hK3.grown hg2 hltS).setIb hib _ _⟩
    case rest =>
    obtain ⟨hI4, hE4, hS4, hK4⟩ := hcut
    clear hI3 hE3 hS3 hK3
    rw [HR1.out, HR2.out, HR3.out, HR4.out] at hI4
    have c0 : wc.cell? ⟨ib, 0, none⟩ = some (.int .u32 b0) := cell_of_row _ _ 0 _ _ _ hI4
    have c1 : wc.cell? ⟨ib, 1, none⟩ = some (.int .u8 d) := cell_of_row _ _ 1 _ _ _ hI4
    have c2 : wc.cell? ⟨ib, 2, none⟩ = some (.int .u8 s) := cell_of_row _ _ 2 _ _ _ hI4
    have c3 : wc.cell? ⟨ib, 3, none⟩ = some (.int .i16 off) := cell_of_row _ _ 3 _ _ _ hI4
    have c4 : wc.cell? ⟨ib, 4, none⟩ = some (.int .i64 c) := cell_of_row _ _ 4 _ _ _ hI4
    have f0 := frozen_of_row wc ib 0 _ _ hI4
    have f3 := frozen_of_row wc ib 3 _ _ hI4
    have f4 := frozen_of_row wc ib 4 _ _ hI4
    have HI4 := Lib.hid hI4
    clear hI4
    go_wp2_with (first
      | (go_at_call 97; refine (IsBuiltinCall_any ib b0 d s wc c0 c1 c2).mono ?_; rintro e w' ⟨rfl, rfl⟩)
      | (go_at_call 63; refine (Class_any _ _).mono ?_; rintro e w' ⟨rfl, rfl⟩)
      | (go_at_call 74; refine (isALU_any _ _).mono ?_; rintro e w' ⟨rfl, rfl⟩)
      | (go_at_call 64; refine (Mode_any _ _).mono ?_; rintro e w' ⟨rfl, rfl⟩)
      | (go_at_call 95; refine (IsDW_any _ _).mono ?_; rintro e w' ⟨rfl, rfl⟩)
      | (go_at_call 75; refine (ALUOp_any _ _).mono ?_; rintro e w' ⟨rfl, rfl⟩)
      | (go_at_call 102; refine (builtinFor_any _ _ k0 k1).mono ?_; rintro e w' ⟨rfl, rfl⟩)
      | (go_at_call 99; refine (SetALUOp_any _ 0 _ (by decide) (by decide) (by decide) E4.out).mono ?_; rintro e w' ⟨rfl, rfl⟩))
    refine wp_region_still_tail 14 (by kernel_rfl) (by kernel_rfl) ?_
    rw [show ({ wc with drawn := wc.drawn + 1 } : World) = wc.drew from rfl]
    simp only [List.take_succ_cons, List.take_zero, List.drop_succ_cons, List.drop_zero]
    repeat still_step
    refine wpStill_nil ?_
    have g0 : wc.drew.cell? ⟨ib, 0, none⟩ = some (.int .u32 b0) := c0
    go_wp2_with (first
      | (go_at_call 97; refine (IsBuiltinCall_any ib b0 d s wc c0 c1 c2).mono ?_; rintro e w' ⟨rfl, rfl⟩)
      | (go_at_call 63; refine (Class_any _ _).mono ?_; rintro e w' ⟨rfl, rfl⟩)
      | (go_at_call 74; refine (isALU_any _ _).mono ?_; rintro e w' ⟨rfl, rfl⟩)
      | (go_at_call 64; refine (Mode_any _ _).mono ?_; rintro e w' ⟨rfl, rfl⟩)
      | (go_at_call 95; refine (IsDW_any _ _).mono ?_; rintro e w' ⟨rfl, rfl⟩)
      | (go_at_call 75; refine (ALUOp_any _ _).mono ?_; rintro e w' ⟨rfl, rfl⟩)
      | (go_at_call 102; refine (builtinFor_any _ _ k0 k1).mono ?_; rintro e w' ⟨rfl, rfl⟩)
      | (go_at_call 99; refine (SetALUOp_any _ 0 _ (by decide) (by decide) (by decide) E4.out).mono ?_; rintro e w' ⟨rfl, rfl⟩))
    go_ret
    have hq : InsAt (wc.setCell ⟨ib, 0, none⟩ (.int .u32 (bits .or .u32 b0 (bits .and .u32 (wrap64 (c * 256) % 4294967296) 130816)))) ib op d s off c := by
      rw [E7.out]
      exact insAt_set0 HI4.out op
    exact ⟨rfl, hq, src_set hS4 hib _ _, (hK4.setIb hib _ _).drew⟩
end Go.Proofs.YtobgjmgepckijaaGreatDoor
