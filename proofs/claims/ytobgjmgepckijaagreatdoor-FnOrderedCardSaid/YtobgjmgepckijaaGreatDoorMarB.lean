/- Instruction.Marshal, walked: divisions and rests with a sign. -/
import Derived.Test.YtobgjmgepckijaaGreatDoorMar
import Derived.Deep.RegionHeld3
import Derived.Deep.RegionWith
import Derived.StillTailTactics
import Derived.Outline
namespace Go.Proofs.YtobgjmgepckijaaGreatDoor
open Go.RowKit
set_option linter.unusedVariables false
set_option linter.unusedSimpArgs false
set_option maxHeartbeats 4000000 in
set_option maxRecDepth 100000 in
theorem Mar_alu304 (big : Bool) (op d s c : Int) (sk : Nat) (v : Value) (bs : List Int) (w : World) (hs : SinkAt w sk v bs) (hl : bs.length ≤ 10000) (d0 : 0 ≤ d) (d1 : d ≤ 10) (s0 : 0 ≤ s) (s1 : s ≤ 10)
    (e1 : (op == 65535) = false) (e2 : (op == 24) = false) (e3 : (oJump op == 128 && s == 0 && d == 0) = false) (e4 : cALU (oClass op) = true) (e5 : oALU op = 304) (e6 : bits .and .u32 (oSetALU op 48) 4294967040 = 0) :
    Calls Tryz.prog 54 #[.agg #[.int .u32 op, .int .u8 d, .int .u8 s, .int .i16 0, .int .i64 c, .pointer none], .iface 55 (.pointer (some ⟨sk, 0, none⟩)), ordV big] w
      (MarPost w sk bs (rawB big (bits .and .u32 (oSetALU op 48) 255 % 256) (regsOf big d s) 1 (wrap32 c % 4294967296))) := by
  obtain ⟨hown, hk⟩ := hs
  have hm := make8
  have HS := Lib.hid hown
  have HK := Lib.hid hk
  have hlt := heap_lt hk
  have hl' : (bs.length : Int) ≤ 10000 := by omega
  clear hown hk
  have E4 := Lib.hid e4
  have f1 : (oALU op == 304) = true := by rw [e5]; rfl
  have f2 : (oALU op == 400) = false := by rw [e5]; rfl
  have f3 : (oALU op == 432) = false := by rw [e5]; rfl
  have f4 : (oALU op == 688) = false := by rw [e5]; rfl
  have f5 : (oALU op == 944) = false := by rw [e5]; rfl
  clear e5
  cases big
  · rw [rawF]
    rw [ordF]
    go_enter Tryz.func54, Tryz.ntmps54
    go_wp2_with (first
      | (go_at_call 95; refine (IsDW_any _ _).mono ?_; rintro e w' ⟨rfl, rfl⟩)
      | (go_at_call 96; refine (regs_any false _ _ _ d0 d1 s0 s1).mono ?_; rintro e w' ⟨rfl, rfl⟩)
      | (go_at_call 97; refine (IsBuiltinCall_any _ op d s _ (by go_simp) (by go_simp) (by go_simp)).mono ?_; rintro e w' ⟨rfl, rfl⟩)
      | (go_at_call 63; refine (Class_any _ _).mono ?_; rintro e w' ⟨rfl, rfl⟩)
      | (go_at_call 74; refine (isALU_any _ _).mono ?_; rintro e w' ⟨rfl, rfl⟩)
      | (go_at_call 30; refine (AtomicOp_any _ _).mono ?_; rintro e w' ⟨rfl, rfl⟩)
      | (go_at_call 75; refine (ALUOp_any _ _).mono ?_; rintro e w' ⟨rfl, rfl⟩)
      | (go_at_call 99; refine (SetALUOp_any _ 48 _ (by decide) (by decide) (by decide) E4.out).mono ?_; rintro e w' ⟨rfl, rfl⟩)
      | (go_at_call 100; refine (bpfOpCode_any _ _ e6).mono ?_; rintro e w' ⟨rfl, rfl⟩))
    refine wp_gen (fun W => W.heap[w.heap.size]? = some (.cells #[.int .u32 (oSetALU op 48), .int .u8 d, .int .u8 s, .int .i16 1, .int .i64 c, .pointer none] 79 (0, 0)) ∧ Eight W (w.heap.size + 1) (bits .and .u32 (oSetALU op 48) 255 % 256) (regsOf false d s) 0 0 0 0 0 0 ∧ SinkAt W sk v bs ∧ Below sk w W) ?_ ?_
    · refine ⟨heap_up (heap_at rfl), heap_at (by simp), sink_up (sink_up ⟨HS.out, HK.out⟩ _) _, ((Below.refl sk w).alloc (Nat.le_of_lt hlt) _).alloc (by simp; omega) _⟩
    rintro W ⟨hI, hE, hS, hB⟩
    have c3 : W.cell? ⟨w.heap.size, 3, none⟩ = some (.int .i16 1) := cell_of_row _ _ 3 _ _ _ hI
    have hsz := heap_lt hE
    clear hm e1 e2 e3 e4 e6 f1 f2 f3 f4 f5
    have n1 := na_le_PutUint16
    have n2 := me_le_PutUint16
    have n3 := na_le_PutUint32
    have n4 := me_le_PutUint32
    have n5 := me_Write
    refine wp_region_still_tail 9 (by kernel_rfl) (by kernel_rfl) ?_
    rw [show ({ W with drawn := W.drawn + 1 } : World) = W.drew from rfl]
    simp only [List.take_succ_cons, List.take_zero, List.drop_succ_cons, List.drop_zero]
    repeat still_step
    refine wpStill_nil ?_
    go_wp2_with (go_at_call 173; refine (le_put16_2 (w.heap.size + 1) _ _ _ _ _ _ _ _ _ _ (eight_drew hE)).mono ?_; rintro e w1 ⟨rfl, hE1, hg1⟩)
    have hS1 := sink_kept hS (grownBy_trans (grownBy_drew (World.grownBy.refl W _)) hg1) (by omega) (fun e => by have := (HS.out.lt _ e).2; omega)
    have hB1 := hB.grown (grownBy_trans (grownBy_drew (World.grownBy.refl W _)) hg1) (Nat.le_trans (Nat.le_of_lt hlt) hB.size) (fun k h => by simp at h; omega)
    have hI1 := (grownBy_trans (grownBy_drew (World.grownBy.refl W _)) hg1).block _ (heap_lt hI) (by simp)
    rw [hI] at hI1
    clear c3 hI hE hS hB hg1
    go_wp2_with fail
    refine wp_region_still_tail 8 (by kernel_rfl) (by kernel_rfl) ?_
    rw [show ({ w1 with drawn := w1.drawn + 1 } : World) = w1.drew from rfl]
    simp only [List.take_succ_cons, List.take_zero, List.drop_succ_cons, List.drop_zero]
    repeat still_step
    refine wpStill_nil ?_
    go_wp2_with (go_at_call 174; refine (le_put32_4 (w.heap.size + 1) _ _ _ _ _ _ _ _ _ _ (eight_drew hE1)).mono ?_; rintro e w2 ⟨rfl, hE2, hg2⟩)
    have hS2 := sink_kept hS1 (grownBy_trans (grownBy_drew (World.grownBy.refl w1 _)) hg2) (by omega) (fun e => by have := (HS.out.lt _ e).2; omega)
    have hB2 := hB1.grown (grownBy_trans (grownBy_drew (World.grownBy.refl w1 _)) hg2) (Nat.le_trans (Nat.le_of_lt hlt) hB1.size) (fun k h => by simp at h; omega)
    have hI2 := (grownBy_trans (grownBy_drew (World.grownBy.refl w1 _)) hg2).block _ (heap_lt hI1) (by simp)
    rw [hI1] at hI2
    clear hE1 hS1 hB1 hg2 hI1
    refine (Write_any sk (w.heap.size + 1) v bs _ _ _ _ _ _ _ _ w2 hS2 hE2 (by omega) (fun e => by have := (HS.out.lt _ e).2; omega) hl).mono ?_
    rintro e w3 ⟨rfl, ⟨v3, hS3, hv3⟩, hD3, hB3⟩
    go_wp2_with fail
    go_ret2
    exact ⟨8, rfl, ⟨v3, hS3⟩, hB2.trans hB3⟩
  · rw [rawT]
    rw [ordT]
    go_enter Tryz.func54, Tryz.ntmps54
    go_wp2_with (first
      | (go_at_call 95; refine (IsDW_any _ _).mono ?_; rintro e w' ⟨rfl, rfl⟩)
      | (go_at_call 96; refine (regs_any true _ _ _ d0 d1 s0 s1).mono ?_; rintro e w' ⟨rfl, rfl⟩)
      | (go_at_call 97; refine (IsBuiltinCall_any _ op d s _ (by go_simp) (by go_simp) (by go_simp)).mono ?_; rintro e w' ⟨rfl, rfl⟩)
      | (go_at_call 63; refine (Class_any _ _).mono ?_; rintro e w' ⟨rfl, rfl⟩)
      | (go_at_call 74; refine (isALU_any _ _).mono ?_; rintro e w' ⟨rfl, rfl⟩)
      | (go_at_call 30; refine (AtomicOp_any _ _).mono ?_; rintro e w' ⟨rfl, rfl⟩)
      | (go_at_call 75; refine (ALUOp_any _ _).mono ?_; rintro e w' ⟨rfl, rfl⟩)
      | (go_at_call 99; refine (SetALUOp_any _ 48 _ (by decide) (by decide) (by decide) E4.out).mono ?_; rintro e w' ⟨rfl, rfl⟩)
      | (go_at_call 100; refine (bpfOpCode_any _ _ e6).mono ?_; rintro e w' ⟨rfl, rfl⟩))
    refine wp_gen (fun W => W.heap[w.heap.size]? = some (.cells #[.int .u32 (oSetALU op 48), .int .u8 d, .int .u8 s, .int .i16 1, .int .i64 c, .pointer none] 79 (0, 0)) ∧ Eight W (w.heap.size + 1) (bits .and .u32 (oSetALU op 48) 255 % 256) (regsOf true d s) 0 0 0 0 0 0 ∧ SinkAt W sk v bs ∧ Below sk w W) ?_ ?_
    · refine ⟨heap_up (heap_at rfl), heap_at (by simp), sink_up (sink_up ⟨HS.out, HK.out⟩ _) _, ((Below.refl sk w).alloc (Nat.le_of_lt hlt) _).alloc (by simp; omega) _⟩
    rintro W ⟨hI, hE, hS, hB⟩
    have c3 : W.cell? ⟨w.heap.size, 3, none⟩ = some (.int .i16 1) := cell_of_row _ _ 3 _ _ _ hI
    have hsz := heap_lt hE
    clear hm e1 e2 e3 e4 e6 f1 f2 f3 f4 f5
    have n1 := na_be_PutUint16
    have n2 := me_be_PutUint16
    have n3 := na_be_PutUint32
    have n4 := me_be_PutUint32
    have n5 := me_Write
    refine wp_region_still_tail 9 (by kernel_rfl) (by kernel_rfl) ?_
    rw [show ({ W with drawn := W.drawn + 1 } : World) = W.drew from rfl]
    simp only [List.take_succ_cons, List.take_zero, List.drop_succ_cons, List.drop_zero]
    repeat still_step
    refine wpStill_nil ?_
    go_wp2_with (go_at_call 165; refine (be_put16_2 (w.heap.size + 1) _ _ _ _ _ _ _ _ _ _ (eight_drew hE)).mono ?_; rintro e w1 ⟨rfl, hE1, hg1⟩)
    have hS1 := sink_kept hS (grownBy_trans (grownBy_drew (World.grownBy.refl W _)) hg1) (by omega) (fun e => by have := (HS.out.lt _ e).2; omega)
    have hB1 := hB.grown (grownBy_trans (grownBy_drew (World.grownBy.refl W _)) hg1) (Nat.le_trans (Nat.le_of_lt hlt) hB.size) (fun k h => by simp at h; omega)
    have hI1 := (grownBy_trans (grownBy_drew (World.grownBy.refl W _)) hg1).block _ (heap_lt hI) (by simp)
    rw [hI] at hI1
    clear c3 hI hE hS hB hg1
    go_wp2_with fail
    refine wp_region_still_tail 8 (by kernel_rfl) (by kernel_rfl) ?_
    rw [show ({ w1 with drawn := w1.drawn + 1 } : World) = w1.drew from rfl]
    simp only [List.take_succ_cons, List.take_zero, List.drop_succ_cons, List.drop_zero]
    repeat still_step
    refine wpStill_nil ?_
    go_wp2_with (go_at_call 166; refine (be_put32_4 (w.heap.size + 1) _ _ _ _ _ _ _ _ _ _ (eight_drew hE1)).mono ?_; rintro e w2 ⟨rfl, hE2, hg2⟩)
    have hS2 := sink_kept hS1 (grownBy_trans (grownBy_drew (World.grownBy.refl w1 _)) hg2) (by omega) (fun e => by have := (HS.out.lt _ e).2; omega)
    have hB2 := hB1.grown (grownBy_trans (grownBy_drew (World.grownBy.refl w1 _)) hg2) (Nat.le_trans (Nat.le_of_lt hlt) hB1.size) (fun k h => by simp at h; omega)
    have hI2 := (grownBy_trans (grownBy_drew (World.grownBy.refl w1 _)) hg2).block _ (heap_lt hI1) (by simp)
    rw [hI1] at hI2
    clear hE1 hS1 hB1 hg2 hI1
    refine (Write_any sk (w.heap.size + 1) v bs _ _ _ _ _ _ _ _ w2 hS2 hE2 (by omega) (fun e => by have := (HS.out.lt _ e).2; omega) hl).mono ?_
    rintro e w3 ⟨rfl, ⟨v3, hS3, hv3⟩, hD3, hB3⟩
    go_wp2_with fail
    go_ret2
    exact ⟨8, rfl, ⟨v3, hS3⟩, hB2.trans hB3⟩
set_option maxHeartbeats 4000000 in
set_option maxRecDepth 100000 in
theorem Mar_alu400 (big : Bool) (op d s c : Int) (sk : Nat) (v : Value) (bs : List Int) (w : World) (hs : SinkAt w sk v bs) (hl : bs.length ≤ 10000) (d0 : 0 ≤ d) (d1 : d ≤ 10) (s0 : 0 ≤ s) (s1 : s ≤ 10)
    (e1 : (op == 65535) = false) (e2 : (op == 24) = false) (e3 : (oJump op == 128 && s == 0 && d == 0) = false) (e4 : cALU (oClass op) = true) (e5 : oALU op = 400) (e6 : bits .and .u32 (oSetALU op 144) 4294967040 = 0) :
    Calls Tryz.prog 54 #[.agg #[.int .u32 op, .int .u8 d, .int .u8 s, .int .i16 0, .int .i64 c, .pointer none], .iface 55 (.pointer (some ⟨sk, 0, none⟩)), ordV big] w
      (MarPost w sk bs (rawB big (bits .and .u32 (oSetALU op 144) 255 % 256) (regsOf big d s) 1 (wrap32 c % 4294967296))) := by
  obtain ⟨hown, hk⟩ := hs
  have hm := make8
  have HS := Lib.hid hown
  have HK := Lib.hid hk
  have hlt := heap_lt hk
  have hl' : (bs.length : Int) ≤ 10000 := by omega
  clear hown hk
  have E4 := Lib.hid e4
  have f1 : (oALU op == 304) = false := by rw [e5]; rfl
  have f2 : (oALU op == 400) = true := by rw [e5]; rfl
  have f3 : (oALU op == 432) = false := by rw [e5]; rfl
  have f4 : (oALU op == 688) = false := by rw [e5]; rfl
  have f5 : (oALU op == 944) = false := by rw [e5]; rfl
  clear e5
  cases big
  · rw [rawF]
    rw [ordF]
    go_enter Tryz.func54, Tryz.ntmps54
    go_wp2_with (first
      | (go_at_call 95; refine (IsDW_any _ _).mono ?_; rintro e w' ⟨rfl, rfl⟩)
      | (go_at_call 96; refine (regs_any false _ _ _ d0 d1 s0 s1).mono ?_; rintro e w' ⟨rfl, rfl⟩)
      | (go_at_call 97; refine (IsBuiltinCall_any _ op d s _ (by go_simp) (by go_simp) (by go_simp)).mono ?_; rintro e w' ⟨rfl, rfl⟩)
      | (go_at_call 63; refine (Class_any _ _).mono ?_; rintro e w' ⟨rfl, rfl⟩)
      | (go_at_call 74; refine (isALU_any _ _).mono ?_; rintro e w' ⟨rfl, rfl⟩)
      | (go_at_call 30; refine (AtomicOp_any _ _).mono ?_; rintro e w' ⟨rfl, rfl⟩)
      | (go_at_call 75; refine (ALUOp_any _ _).mono ?_; rintro e w' ⟨rfl, rfl⟩)
      | (go_at_call 99; refine (SetALUOp_any _ 144 _ (by decide) (by decide) (by decide) E4.out).mono ?_; rintro e w' ⟨rfl, rfl⟩)
      | (go_at_call 100; refine (bpfOpCode_any _ _ e6).mono ?_; rintro e w' ⟨rfl, rfl⟩))
    refine wp_gen (fun W => W.heap[w.heap.size]? = some (.cells #[.int .u32 (oSetALU op 144), .int .u8 d, .int .u8 s, .int .i16 1, .int .i64 c, .pointer none] 79 (0, 0)) ∧ Eight W (w.heap.size + 1) (bits .and .u32 (oSetALU op 144) 255 % 256) (regsOf false d s) 0 0 0 0 0 0 ∧ SinkAt W sk v bs ∧ Below sk w W) ?_ ?_
    · refine ⟨heap_up (heap_at rfl), heap_at (by simp), sink_up (sink_up ⟨HS.out, HK.out⟩ _) _, ((Below.refl sk w).alloc (Nat.le_of_lt hlt) _).alloc (by simp; omega) _⟩
    rintro W ⟨hI, hE, hS, hB⟩
    have c3 : W.cell? ⟨w.heap.size, 3, none⟩ = some (.int .i16 1) := cell_of_row _ _ 3 _ _ _ hI
    have hsz := heap_lt hE
    clear hm e1 e2 e3 e4 e6 f1 f2 f3 f4 f5
    have n1 := na_le_PutUint16
    have n2 := me_le_PutUint16
    have n3 := na_le_PutUint32
    have n4 := me_le_PutUint32
    have n5 := me_Write
    refine wp_region_still_tail 9 (by kernel_rfl) (by kernel_rfl) ?_
    rw [show ({ W with drawn := W.drawn + 1 } : World) = W.drew from rfl]
    simp only [List.take_succ_cons, List.take_zero, List.drop_succ_cons, List.drop_zero]
    repeat still_step
    refine wpStill_nil ?_
    go_wp2_with (go_at_call 173; refine (le_put16_2 (w.heap.size + 1) _ _ _ _ _ _ _ _ _ _ (eight_drew hE)).mono ?_; rintro e w1 ⟨rfl, hE1, hg1⟩)
    have hS1 := sink_kept hS (grownBy_trans (grownBy_drew (World.grownBy.refl W _)) hg1) (by omega) (fun e => by have := (HS.out.lt _ e).2; omega)
    have hB1 := hB.grown (grownBy_trans (grownBy_drew (World.grownBy.refl W _)) hg1) (Nat.le_trans (Nat.le_of_lt hlt) hB.size) (fun k h => by simp at h; omega)
    have hI1 := (grownBy_trans (grownBy_drew (World.grownBy.refl W _)) hg1).block _ (heap_lt hI) (by simp)
    rw [hI] at hI1
    clear c3 hI hE hS hB hg1
    go_wp2_with fail
    refine wp_region_still_tail 8 (by kernel_rfl) (by kernel_rfl) ?_
    rw [show ({ w1 with drawn := w1.drawn + 1 } : World) = w1.drew from rfl]
    simp only [List.take_succ_cons, List.take_zero, List.drop_succ_cons, List.drop_zero]
    repeat still_step
    refine wpStill_nil ?_
    go_wp2_with (go_at_call 174; refine (le_put32_4 (w.heap.size + 1) _ _ _ _ _ _ _ _ _ _ (eight_drew hE1)).mono ?_; rintro e w2 ⟨rfl, hE2, hg2⟩)
    have hS2 := sink_kept hS1 (grownBy_trans (grownBy_drew (World.grownBy.refl w1 _)) hg2) (by omega) (fun e => by have := (HS.out.lt _ e).2; omega)
    have hB2 := hB1.grown (grownBy_trans (grownBy_drew (World.grownBy.refl w1 _)) hg2) (Nat.le_trans (Nat.le_of_lt hlt) hB1.size) (fun k h => by simp at h; omega)
    have hI2 := (grownBy_trans (grownBy_drew (World.grownBy.refl w1 _)) hg2).block _ (heap_lt hI1) (by simp)
    rw [hI1] at hI2
    clear hE1 hS1 hB1 hg2 hI1
    refine (Write_any sk (w.heap.size + 1) v bs _ _ _ _ _ _ _ _ w2 hS2 hE2 (by omega) (fun e => by have := (HS.out.lt _ e).2; omega) hl).mono ?_
    rintro e w3 ⟨rfl, ⟨v3, hS3, hv3⟩, hD3, hB3⟩
    go_wp2_with fail
    go_ret2
    exact ⟨8, rfl, ⟨v3, hS3⟩, hB2.trans hB3⟩
  · rw [rawT]
    rw [ordT]
    go_enter Tryz.func54, Tryz.ntmps54
    go_wp2_with (first
      | (go_at_call 95; refine (IsDW_any _ _).mono ?_; rintro e w' ⟨rfl, rfl⟩)
      | (go_at_call 96; refine (regs_any true _ _ _ d0 d1 s0 s1).mono ?_; rintro e w' ⟨rfl, rfl⟩)
      | (go_at_call 97; refine (IsBuiltinCall_any _ op d s _ (by go_simp) (by go_simp) (by go_simp)).mono ?_; rintro e w' ⟨rfl, rfl⟩)
      | (go_at_call 63; refine (Class_any _ _).mono ?_; rintro e w' ⟨rfl, rfl⟩)
      | (go_at_call 74; refine (isALU_any _ _).mono ?_; rintro e w' ⟨rfl, rfl⟩)
      | (go_at_call 30; refine (AtomicOp_any _ _).mono ?_; rintro e w' ⟨rfl, rfl⟩)
      | (go_at_call 75; refine (ALUOp_any _ _).mono ?_; rintro e w' ⟨rfl, rfl⟩)
      | (go_at_call 99; refine (SetALUOp_any _ 144 _ (by decide) (by decide) (by decide) E4.out).mono ?_; rintro e w' ⟨rfl, rfl⟩)
      | (go_at_call 100; refine (bpfOpCode_any _ _ e6).mono ?_; rintro e w' ⟨rfl, rfl⟩))
    refine wp_gen (fun W => W.heap[w.heap.size]? = some (.cells #[.int .u32 (oSetALU op 144), .int .u8 d, .int .u8 s, .int .i16 1, .int .i64 c, .pointer none] 79 (0, 0)) ∧ Eight W (w.heap.size + 1) (bits .and .u32 (oSetALU op 144) 255 % 256) (regsOf true d s) 0 0 0 0 0 0 ∧ SinkAt W sk v bs ∧ Below sk w W) ?_ ?_
    · refine ⟨heap_up (heap_at rfl), heap_at (by simp), sink_up (sink_up ⟨HS.out, HK.out⟩ _) _, ((Below.refl sk w).alloc (Nat.le_of_lt hlt) _).alloc (by simp; omega) _⟩
    rintro W ⟨hI, hE, hS, hB⟩
    have c3 : W.cell? ⟨w.heap.size, 3, none⟩ = some (.int .i16 1) := cell_of_row _ _ 3 _ _ _ hI
    have hsz := heap_lt hE
    clear hm e1 e2 e3 e4 e6 f1 f2 f3 f4 f5
    have n1 := na_be_PutUint16
    have n2 := me_be_PutUint16
    have n3 := na_be_PutUint32
    have n4 := me_be_PutUint32
    have n5 := me_Write
    refine wp_region_still_tail 9 (by kernel_rfl) (by kernel_rfl) ?_
    rw [show ({ W with drawn := W.drawn + 1 } : World) = W.drew from rfl]
    simp only [List.take_succ_cons, List.take_zero, List.drop_succ_cons, List.drop_zero]
    repeat still_step
    refine wpStill_nil ?_
    go_wp2_with (go_at_call 165; refine (be_put16_2 (w.heap.size + 1) _ _ _ _ _ _ _ _ _ _ (eight_drew hE)).mono ?_; rintro e w1 ⟨rfl, hE1, hg1⟩)
    have hS1 := sink_kept hS (grownBy_trans (grownBy_drew (World.grownBy.refl W _)) hg1) (by omega) (fun e => by have := (HS.out.lt _ e).2; omega)
    have hB1 := hB.grown (grownBy_trans (grownBy_drew (World.grownBy.refl W _)) hg1) (Nat.le_trans (Nat.le_of_lt hlt) hB.size) (fun k h => by simp at h; omega)
    have hI1 := (grownBy_trans (grownBy_drew (World.grownBy.refl W _)) hg1).block _ (heap_lt hI) (by simp)
    rw [hI] at hI1
    clear c3 hI hE hS hB hg1
    go_wp2_with fail
    refine wp_region_still_tail 8 (by kernel_rfl) (by kernel_rfl) ?_
    rw [show ({ w1 with drawn := w1.drawn + 1 } : World) = w1.drew from rfl]
    simp only [List.take_succ_cons, List.take_zero, List.drop_succ_cons, List.drop_zero]
    repeat still_step
    refine wpStill_nil ?_
    go_wp2_with (go_at_call 166; refine (be_put32_4 (w.heap.size + 1) _ _ _ _ _ _ _ _ _ _ (eight_drew hE1)).mono ?_; rintro e w2 ⟨rfl, hE2, hg2⟩)
    have hS2 := sink_kept hS1 (grownBy_trans (grownBy_drew (World.grownBy.refl w1 _)) hg2) (by omega) (fun e => by have := (HS.out.lt _ e).2; omega)
    have hB2 := hB1.grown (grownBy_trans (grownBy_drew (World.grownBy.refl w1 _)) hg2) (Nat.le_trans (Nat.le_of_lt hlt) hB1.size) (fun k h => by simp at h; omega)
    have hI2 := (grownBy_trans (grownBy_drew (World.grownBy.refl w1 _)) hg2).block _ (heap_lt hI1) (by simp)
    rw [hI1] at hI2
    clear hE1 hS1 hB1 hg2 hI1
    refine (Write_any sk (w.heap.size + 1) v bs _ _ _ _ _ _ _ _ w2 hS2 hE2 (by omega) (fun e => by have := (HS.out.lt _ e).2; omega) hl).mono ?_
    rintro e w3 ⟨rfl, ⟨v3, hS3, hv3⟩, hD3, hB3⟩
    go_wp2_with fail
    go_ret2
    exact ⟨8, rfl, ⟨v3, hS3⟩, hB2.trans hB3⟩
end Go.Proofs.YtobgjmgepckijaaGreatDoor
