/- Instruction.String, walked: jumps, calls, the return. (Printed by wip/gentext.py.) -/
import Derived.Test.YtobgjmgepckijaaDoorTextB
import Derived.Deep.RegionHeld
import Derived.WalkMore
import Derived.Deep.DeepCutAuto
import Derived.ScopeJumps
import Derived.Outline
namespace Go.Proofs.YtobgjmgepckijaaDoor
open Go.RowKit
set_option linter.unusedVariables false
set_option linter.unusedSimpArgs false
set_option maxHeartbeats 4000000 in
set_option maxRecDepth 100000 in
theorem IT_exit (op dst src off c : Int) (r : ByteArray) (p : Option Addr) (w : World) (g : SGood op dst src off c r) (ht : PowTab w) (hr : RefOf p r w) (hj : oJump op = 144) :
    Calls Tryd.prog 38 #[asmP op dst src off c p] w (STPost (catS [sCode op]) w) := by
  have HJ := Lib.hid hj
  unfold STPost
  have HK := Lib.hid (fun W (h : PowTab W) => Dec_any c W g.c0 g.c1 h)
  have HO := Lib.hid (fun W (h : PowTab W) => Dec_any off W (by have := g.o0; omega) (by have := g.o1; omega) h)
  have HD := Lib.hid (fun W => reg_eq g.d0 g.d1 ▸ RegString dst W g.d0 g.d1)
  have HS := Lib.hid (fun W => reg_eq g.s0 g.s1 ▸ RegString src W g.s0 g.s1)
  have HC := Lib.hid (fun W => code_same op g.mem ▸ CodeString op W g.mem)
  have zK := decS_size g.c0 g.c1
  have zO := decS_size (n := off) (by have := g.o0; omega) (by have := g.o1; omega)
  have zD := sReg_size g.d0 g.d1
  have zS := sReg_size g.s0 g.s1
  have zC := sCode_size op g.mem
  have zR := g.rs
  have p0 := (wordOps_lt op g.mem).1
  obtain ⟨K, hK⟩ : ∃ K, decS c = K := ⟨_, rfl⟩
  obtain ⟨O, hO⟩ : ∃ O, decS off = O := ⟨_, rfl⟩
  obtain ⟨D, hD⟩ : ∃ D, sRegS dst = D := ⟨_, rfl⟩
  obtain ⟨S, hS⟩ : ∃ S, sRegS src = S := ⟨_, rfl⟩
  obtain ⟨C, hC⟩ : ∃ C, sCode op = C := ⟨_, rfl⟩
  rw [hK] at HK zK
  rw [hO] at HO zO
  rw [hD] at HD zD
  rw [hS] at HS zS
  rw [hC] at HC zC
  have HP := Lib.hid ht
  have HR := Lib.hid hr
  have n65 := op_ne65 g.mem
  have o0 := g.o0
  have o1 := g.o1
  have t3 : IntKind.i64.wrap off = off := by rw [IntKind.wrap_i64]; omega
  rw [hC]
  clear hK hO hD hS hC g ht hr hj
  go_enter Tryd.func38, Tryd.ntmps38
  go_wp2_with fail
  go_step3
  go_wp2_with fail
  refine calls_gen (St w (w.heap.size + 1) op dst src off c p [] 0) St.start ?_
  intro W B
  refine (JumpOp_b HJ.out W).mono ?_
  rintro e w' ⟨rfl, rfl⟩
  obtain ⟨c0, c1, c2, c3, c4, c5⟩ := B.cells
  go_wp2_with (first
    | (go_at_call 32; refine (HC.out _).mono ?_; rintro e w' ⟨rfl, hb⟩; replace B := B.below hb; clear hb c0 c1 c2 c3 c4 c5; obtain ⟨c0, c1, c2, c3, c4, c5⟩ := B.cells)
    | (go_at_call 46
       refine (B.write _ (by first | omega | (simp only [ByteArray.size_append, szS, List.size_toArray, List.length_cons, List.length_nil]; omega)) (by decide)).mono ?_
       rintro e w' ⟨rfl, B'⟩
       replace B := B'
       clear B' c0 c1 c2 c3 c4 c5
       obtain ⟨c0, c1, c2, c3, c4, c5⟩ := B.cells)
    | (go_at_call 39; with_reducible refine (HK.out _ (B.pow HP.out)).mono ?_; rintro e w' ⟨rfl, hb⟩; replace B := B.below hb; clear hb c0 c1 c2 c3 c4 c5; obtain ⟨c0, c1, c2, c3, c4, c5⟩ := B.cells)
    | (go_at_call 39; with_reducible refine (HO.out _ (B.pow HP.out)).mono ?_; rintro e w' ⟨rfl, hb⟩; replace B := B.below hb; clear hb c0 c1 c2 c3 c4 c5; obtain ⟨c0, c1, c2, c3, c4, c5⟩ := B.cells)
    | (go_at_call 30; with_reducible refine (HD.out _).mono ?_; rintro e w' ⟨rfl, rfl⟩)
    | (go_at_call 30; with_reducible refine (HS.out _).mono ?_; rintro e w' ⟨rfl, rfl⟩)
    | (go_at_call 63; refine (LoadFromMap_any _ op src _ c0 c2).mono ?_; rintro e w' ⟨rfl, nq, rfl⟩; replace B := B.drewN nq; clear c0 c1 c2 c3 c4 c5; obtain ⟨c0, c1, c2, c3, c4, c5⟩ := B.cells)
    | (go_at_call 56; refine (JumpOp_b HJ.out _).mono ?_; rintro e w' ⟨rfl, rfl⟩)
    | (go_at_call 44; refine (Class_b HCl.out _).mono ?_; rintro e w' ⟨rfl, rfl⟩)
    | (go_at_call 45; refine (isLS_b HLS.out _).mono ?_; rintro e w' ⟨rfl, rfl⟩)
    | (go_at_call 51; refine (isALU_b HAL.out _).mono ?_; rintro e w' ⟨rfl, rfl⟩)
    | (go_at_call 55; refine (isJump_b HJU.out _).mono ?_; rintro e w' ⟨rfl, rfl⟩)
    | (go_at_call 48; refine (Mode_b HM.out _).mono ?_; rintro e w' ⟨rfl, rfl⟩)
    | (go_at_call 52; refine (ALUOp_b HAO.out _).mono ?_; rintro e w' ⟨rfl, rfl⟩)
    | (go_at_call 66; refine (SwapOp _).mono ?_; rintro e w' ⟨rfl, rfl⟩)
    | (go_at_call 54; refine (HSR.out _).mono ?_; rintro e w' ⟨rfl, rfl⟩)
    | (go_at_call 33; refine (HB.out _ (B.pow HP.out)).mono ?_; rintro e w' ⟨rfl, hb⟩; replace B := B.below hb; clear hb c0 c1 c2 c3 c4 c5; obtain ⟨c0, c1, c2, c3, c4, c5⟩ := B.cells)
    | (go_at_call 57; refine B.string.mono ?_; rintro e w' ⟨rfl, hbe⟩))
  rw [Exit.noGoto_ret]
  go_ret
  exact ⟨rfl, hbe⟩
set_option maxHeartbeats 4000000 in
set_option maxRecDepth 100000 in
theorem IT_call1 (op dst src off c : Int) (r : ByteArray) (p : Option Addr) (w : World) (g : SGood op dst src off c r) (ht : PowTab w) (hr : RefOf p r w) (hj : oJump op = 128) (n24 : (op == 24) = false) (k : Int) (hk : oClass op = k) (hl : cLS k = false) (ha : cALU k = false) (hu : cJump k = true) (hs : (src == 1) = true) (ho : (off == 0) = true) :
    Calls Tryd.prog 38 #[asmP op dst src off c p] w (STPost (refC (catS [sCode op ++ ⟨#[32]⟩, decS c]) r) w) := by
  have HJ := Lib.hid (hj)
  have HCl := Lib.hid (hk)
  have HLS := Lib.hid (hl)
  have HAL := Lib.hid (ha)
  have HJU := Lib.hid (hu)
  unfold STPost
  have HK := Lib.hid (fun W (h : PowTab W) => Dec_any c W g.c0 g.c1 h)
  have HO := Lib.hid (fun W (h : PowTab W) => Dec_any off W (by have := g.o0; omega) (by have := g.o1; omega) h)
  have HD := Lib.hid (fun W => reg_eq g.d0 g.d1 ▸ RegString dst W g.d0 g.d1)
  have HS := Lib.hid (fun W => reg_eq g.s0 g.s1 ▸ RegString src W g.s0 g.s1)
  have HC := Lib.hid (fun W => code_same op g.mem ▸ CodeString op W g.mem)
  have zK := decS_size g.c0 g.c1
  have zO := decS_size (n := off) (by have := g.o0; omega) (by have := g.o1; omega)
  have zD := sReg_size g.d0 g.d1
  have zS := sReg_size g.s0 g.s1
  have zC := sCode_size op g.mem
  have zR := g.rs
  have p0 := (wordOps_lt op g.mem).1
  obtain ⟨K, hK⟩ : ∃ K, decS c = K := ⟨_, rfl⟩
  obtain ⟨O, hO⟩ : ∃ O, decS off = O := ⟨_, rfl⟩
  obtain ⟨D, hD⟩ : ∃ D, sRegS dst = D := ⟨_, rfl⟩
  obtain ⟨S, hS⟩ : ∃ S, sRegS src = S := ⟨_, rfl⟩
  obtain ⟨C, hC⟩ : ∃ C, sCode op = C := ⟨_, rfl⟩
  rw [hK] at HK zK
  rw [hO] at HO zO
  rw [hD] at HD zD
  rw [hS] at HS zS
  rw [hC] at HC zC
  have HP := Lib.hid ht
  have HR := Lib.hid hr
  have n65 := op_ne65 g.mem
  have o0 := g.o0
  have o1 := g.o1
  have t3 : IntKind.i64.wrap off = off := by rw [IntKind.wrap_i64]; omega
  rw [hC]
  rw [hK]
  clear hK hO hD hS hC g ht hr hj hk hl ha hu
  go_enter Tryd.func38, Tryd.ntmps38
  go_wp2_with fail
  go_step3
  go_wp2_with fail
  refine calls_gen (St w (w.heap.size + 1) op dst src off c p [] 0) St.start ?_
  intro W B
  refine (JumpOp_b HJ.out W).mono ?_
  rintro e w' ⟨rfl, rfl⟩
  obtain ⟨c0, c1, c2, c3, c4, c5⟩ := B.cells
  go_wp2_with (first
    | (go_at_call 32; refine (HC.out _).mono ?_; rintro e w' ⟨rfl, hb⟩; replace B := B.below hb; clear hb c0 c1 c2 c3 c4 c5; obtain ⟨c0, c1, c2, c3, c4, c5⟩ := B.cells)
    | (go_at_call 46
       refine (B.write _ (by first | omega | (simp only [ByteArray.size_append, szS, List.size_toArray, List.length_cons, List.length_nil]; omega)) (by decide)).mono ?_
       rintro e w' ⟨rfl, B'⟩
       replace B := B'
       clear B' c0 c1 c2 c3 c4 c5
       obtain ⟨c0, c1, c2, c3, c4, c5⟩ := B.cells)
    | (go_at_call 39; with_reducible refine (HK.out _ (B.pow HP.out)).mono ?_; rintro e w' ⟨rfl, hb⟩; replace B := B.below hb; clear hb c0 c1 c2 c3 c4 c5; obtain ⟨c0, c1, c2, c3, c4, c5⟩ := B.cells)
    | (go_at_call 39; with_reducible refine (HO.out _ (B.pow HP.out)).mono ?_; rintro e w' ⟨rfl, hb⟩; replace B := B.below hb; clear hb c0 c1 c2 c3 c4 c5; obtain ⟨c0, c1, c2, c3, c4, c5⟩ := B.cells)
    | (go_at_call 30; with_reducible refine (HD.out _).mono ?_; rintro e w' ⟨rfl, rfl⟩)
    | (go_at_call 30; with_reducible refine (HS.out _).mono ?_; rintro e w' ⟨rfl, rfl⟩)
    | (go_at_call 63; refine (LoadFromMap_any _ op src _ c0 c2).mono ?_; rintro e w' ⟨rfl, nq, rfl⟩; replace B := B.drewN nq; clear c0 c1 c2 c3 c4 c5; obtain ⟨c0, c1, c2, c3, c4, c5⟩ := B.cells)
    | (go_at_call 56; refine (JumpOp_b HJ.out _).mono ?_; rintro e w' ⟨rfl, rfl⟩)
    | (go_at_call 44; refine (Class_b HCl.out _).mono ?_; rintro e w' ⟨rfl, rfl⟩)
    | (go_at_call 45; refine (isLS_b HLS.out _).mono ?_; rintro e w' ⟨rfl, rfl⟩)
    | (go_at_call 51; refine (isALU_b HAL.out _).mono ?_; rintro e w' ⟨rfl, rfl⟩)
    | (go_at_call 55; refine (isJump_b HJU.out _).mono ?_; rintro e w' ⟨rfl, rfl⟩)
    | (go_at_call 48; refine (Mode_b HM.out _).mono ?_; rintro e w' ⟨rfl, rfl⟩)
    | (go_at_call 52; refine (ALUOp_b HAO.out _).mono ?_; rintro e w' ⟨rfl, rfl⟩)
    | (go_at_call 66; refine (SwapOp _).mono ?_; rintro e w' ⟨rfl, rfl⟩)
    | (go_at_call 54; refine (HSR.out _).mono ?_; rintro e w' ⟨rfl, rfl⟩)
    | (go_at_call 33; refine (HB.out _ (B.pow HP.out)).mono ?_; rintro e w' ⟨rfl, hb⟩; replace B := B.below hb; clear hb c0 c1 c2 c3 c4 c5; obtain ⟨c0, c1, c2, c3, c4, c5⟩ := B.cells)
    )
  go_step3
  go_wp2_with fail
  refine (Reference_any op dst src off c p r _ (B.ref HR.out)).mono ?_
  rintro e w' ⟨rfl, hb⟩
  replace B := B.below hb
  clear hb c0 c1 c2 c3 c4 c5
  obtain ⟨c0, c1, c2, c3, c4, c5⟩ := B.cells
  rcases ref_kinds r with hr0 | ⟨hl, hbr, hT⟩
  · subst hr0
    go_wp2_with (go_at_call 57; refine B.string.mono ?_; rintro e w' ⟨rfl, hbe⟩)
    rw [Exit.noGoto_ret]
    go_ret
    exact ⟨by rw [show ∀ T, refC T ⟨#[]⟩ = T from fun _ => rfl]; rfl, hbe⟩
  · go_wp2_with (first
      | (go_at_call 67; refine (Reference_any op dst src off c p r _ (B.ref HR.out)).mono ?_; rintro e w' ⟨rfl, hb⟩; replace B := B.below hb; clear hb)
      | (go_at_call 32; refine (HC.out _).mono ?_; rintro e w' ⟨rfl, hb⟩; replace B := B.below hb; clear hb c0 c1 c2 c3 c4 c5; obtain ⟨c0, c1, c2, c3, c4, c5⟩ := B.cells)
      | (go_at_call 46
         refine (B.write _ (by first | omega | (simp only [ByteArray.size_append, szS, List.size_toArray, List.length_cons, List.length_nil]; omega)) (by decide)).mono ?_
         rintro e w' ⟨rfl, B'⟩
         replace B := B'
         clear B' c0 c1 c2 c3 c4 c5
         obtain ⟨c0, c1, c2, c3, c4, c5⟩ := B.cells)
      | (go_at_call 39; with_reducible refine (HK.out _ (B.pow HP.out)).mono ?_; rintro e w' ⟨rfl, hb⟩; replace B := B.below hb; clear hb c0 c1 c2 c3 c4 c5; obtain ⟨c0, c1, c2, c3, c4, c5⟩ := B.cells)
      | (go_at_call 39; with_reducible refine (HO.out _ (B.pow HP.out)).mono ?_; rintro e w' ⟨rfl, hb⟩; replace B := B.below hb; clear hb c0 c1 c2 c3 c4 c5; obtain ⟨c0, c1, c2, c3, c4, c5⟩ := B.cells)
      | (go_at_call 30; with_reducible refine (HD.out _).mono ?_; rintro e w' ⟨rfl, rfl⟩)
      | (go_at_call 30; with_reducible refine (HS.out _).mono ?_; rintro e w' ⟨rfl, rfl⟩)
      | (go_at_call 63; refine (LoadFromMap_any _ op src _ c0 c2).mono ?_; rintro e w' ⟨rfl, nq, rfl⟩; replace B := B.drewN nq; clear c0 c1 c2 c3 c4 c5; obtain ⟨c0, c1, c2, c3, c4, c5⟩ := B.cells)
      | (go_at_call 56; refine (JumpOp_b HJ.out _).mono ?_; rintro e w' ⟨rfl, rfl⟩)
      | (go_at_call 44; refine (Class_b HCl.out _).mono ?_; rintro e w' ⟨rfl, rfl⟩)
      | (go_at_call 45; refine (isLS_b HLS.out _).mono ?_; rintro e w' ⟨rfl, rfl⟩)
      | (go_at_call 51; refine (isALU_b HAL.out _).mono ?_; rintro e w' ⟨rfl, rfl⟩)
      | (go_at_call 55; refine (isJump_b HJU.out _).mono ?_; rintro e w' ⟨rfl, rfl⟩)
      | (go_at_call 48; refine (Mode_b HM.out _).mono ?_; rintro e w' ⟨rfl, rfl⟩)
      | (go_at_call 52; refine (ALUOp_b HAO.out _).mono ?_; rintro e w' ⟨rfl, rfl⟩)
      | (go_at_call 66; refine (SwapOp _).mono ?_; rintro e w' ⟨rfl, rfl⟩)
      | (go_at_call 54; refine (HSR.out _).mono ?_; rintro e w' ⟨rfl, rfl⟩)
      | (go_at_call 33; refine (HB.out _ (B.pow HP.out)).mono ?_; rintro e w' ⟨rfl, hb⟩; replace B := B.below hb; clear hb c0 c1 c2 c3 c4 c5; obtain ⟨c0, c1, c2, c3, c4, c5⟩ := B.cells)
      | (go_at_call 57; refine B.string.mono ?_; rintro e w' ⟨rfl, hbe⟩))
    rw [Exit.noGoto_ret]
    go_ret
    exact ⟨by rw [hT, ← catS_snoc]; rfl, hbe⟩
set_option maxHeartbeats 4000000 in
set_option maxRecDepth 100000 in
theorem IT_call2 (op dst src off c : Int) (r : ByteArray) (p : Option Addr) (w : World) (g : SGood op dst src off c r) (ht : PowTab w) (hr : RefOf p r w) (hj : oJump op = 128) (n24 : (op == 24) = false) (k : Int) (hk : oClass op = k) (hl : cLS k = false) (ha : cALU k = false) (hu : cJump k = true) (hs : (src == 1) = false) (hs2 : (src == 2) = true) :
    Calls Tryd.prog 38 #[asmP op dst src off c p] w (STPost (refC (catS [sCode op ++ ⟨#[32]⟩, ⟨#[75, 102, 117, 110, 99, 40]⟩ ++ decS c ++ ⟨#[41]⟩]) r) w) := by
  have HJ := Lib.hid (hj)
  have HCl := Lib.hid (hk)
  have HLS := Lib.hid (hl)
  have HAL := Lib.hid (ha)
  have HJU := Lib.hid (hu)
  unfold STPost
  have HK := Lib.hid (fun W (h : PowTab W) => Dec_any c W g.c0 g.c1 h)
  have HO := Lib.hid (fun W (h : PowTab W) => Dec_any off W (by have := g.o0; omega) (by have := g.o1; omega) h)
  have HD := Lib.hid (fun W => reg_eq g.d0 g.d1 ▸ RegString dst W g.d0 g.d1)
  have HS := Lib.hid (fun W => reg_eq g.s0 g.s1 ▸ RegString src W g.s0 g.s1)
  have HC := Lib.hid (fun W => code_same op g.mem ▸ CodeString op W g.mem)
  have zK := decS_size g.c0 g.c1
  have zO := decS_size (n := off) (by have := g.o0; omega) (by have := g.o1; omega)
  have zD := sReg_size g.d0 g.d1
  have zS := sReg_size g.s0 g.s1
  have zC := sCode_size op g.mem
  have zR := g.rs
  have p0 := (wordOps_lt op g.mem).1
  obtain ⟨K, hK⟩ : ∃ K, decS c = K := ⟨_, rfl⟩
  obtain ⟨O, hO⟩ : ∃ O, decS off = O := ⟨_, rfl⟩
  obtain ⟨D, hD⟩ : ∃ D, sRegS dst = D := ⟨_, rfl⟩
  obtain ⟨S, hS⟩ : ∃ S, sRegS src = S := ⟨_, rfl⟩
  obtain ⟨C, hC⟩ : ∃ C, sCode op = C := ⟨_, rfl⟩
  rw [hK] at HK zK
  rw [hO] at HO zO
  rw [hD] at HD zD
  rw [hS] at HS zS
  rw [hC] at HC zC
  have HP := Lib.hid ht
  have HR := Lib.hid hr
  have n65 := op_ne65 g.mem
  have o0 := g.o0
  have o1 := g.o1
  have t3 : IntKind.i64.wrap off = off := by rw [IntKind.wrap_i64]; omega
  rw [hC]
  rw [hK]
  clear hK hO hD hS hC g ht hr hj hk hl ha hu
  go_enter Tryd.func38, Tryd.ntmps38
  go_wp2_with fail
  go_step3
  go_wp2_with fail
  refine calls_gen (St w (w.heap.size + 1) op dst src off c p [] 0) St.start ?_
  intro W B
  refine (JumpOp_b HJ.out W).mono ?_
  rintro e w' ⟨rfl, rfl⟩
  obtain ⟨c0, c1, c2, c3, c4, c5⟩ := B.cells
  go_wp2_with (first
    | (go_at_call 32; refine (HC.out _).mono ?_; rintro e w' ⟨rfl, hb⟩; replace B := B.below hb; clear hb c0 c1 c2 c3 c4 c5; obtain ⟨c0, c1, c2, c3, c4, c5⟩ := B.cells)
    | (go_at_call 46
       refine (B.write _ (by first | omega | (simp only [ByteArray.size_append, szS, List.size_toArray, List.length_cons, List.length_nil]; omega)) (by decide)).mono ?_
       rintro e w' ⟨rfl, B'⟩
       replace B := B'
       clear B' c0 c1 c2 c3 c4 c5
       obtain ⟨c0, c1, c2, c3, c4, c5⟩ := B.cells)
    | (go_at_call 39; with_reducible refine (HK.out _ (B.pow HP.out)).mono ?_; rintro e w' ⟨rfl, hb⟩; replace B := B.below hb; clear hb c0 c1 c2 c3 c4 c5; obtain ⟨c0, c1, c2, c3, c4, c5⟩ := B.cells)
    | (go_at_call 39; with_reducible refine (HO.out _ (B.pow HP.out)).mono ?_; rintro e w' ⟨rfl, hb⟩; replace B := B.below hb; clear hb c0 c1 c2 c3 c4 c5; obtain ⟨c0, c1, c2, c3, c4, c5⟩ := B.cells)
    | (go_at_call 30; with_reducible refine (HD.out _).mono ?_; rintro e w' ⟨rfl, rfl⟩)
    | (go_at_call 30; with_reducible refine (HS.out _).mono ?_; rintro e w' ⟨rfl, rfl⟩)
    | (go_at_call 63; refine (LoadFromMap_any _ op src _ c0 c2).mono ?_; rintro e w' ⟨rfl, nq, rfl⟩; replace B := B.drewN nq; clear c0 c1 c2 c3 c4 c5; obtain ⟨c0, c1, c2, c3, c4, c5⟩ := B.cells)
    | (go_at_call 56; refine (JumpOp_b HJ.out _).mono ?_; rintro e w' ⟨rfl, rfl⟩)
    | (go_at_call 44; refine (Class_b HCl.out _).mono ?_; rintro e w' ⟨rfl, rfl⟩)
    | (go_at_call 45; refine (isLS_b HLS.out _).mono ?_; rintro e w' ⟨rfl, rfl⟩)
    | (go_at_call 51; refine (isALU_b HAL.out _).mono ?_; rintro e w' ⟨rfl, rfl⟩)
    | (go_at_call 55; refine (isJump_b HJU.out _).mono ?_; rintro e w' ⟨rfl, rfl⟩)
    | (go_at_call 48; refine (Mode_b HM.out _).mono ?_; rintro e w' ⟨rfl, rfl⟩)
    | (go_at_call 52; refine (ALUOp_b HAO.out _).mono ?_; rintro e w' ⟨rfl, rfl⟩)
    | (go_at_call 66; refine (SwapOp _).mono ?_; rintro e w' ⟨rfl, rfl⟩)
    | (go_at_call 54; refine (HSR.out _).mono ?_; rintro e w' ⟨rfl, rfl⟩)
    | (go_at_call 33; refine (HB.out _ (B.pow HP.out)).mono ?_; rintro e w' ⟨rfl, hb⟩; replace B := B.below hb; clear hb c0 c1 c2 c3 c4 c5; obtain ⟨c0, c1, c2, c3, c4, c5⟩ := B.cells)
    )
  go_step3
  go_wp2_with fail
  refine (Reference_any op dst src off c p r _ (B.ref HR.out)).mono ?_
  rintro e w' ⟨rfl, hb⟩
  replace B := B.below hb
  clear hb c0 c1 c2 c3 c4 c5
  obtain ⟨c0, c1, c2, c3, c4, c5⟩ := B.cells
  rcases ref_kinds r with hr0 | ⟨hl, hbr, hT⟩
  · subst hr0
    go_wp2_with (go_at_call 57; refine B.string.mono ?_; rintro e w' ⟨rfl, hbe⟩)
    rw [Exit.noGoto_ret]
    go_ret
    exact ⟨by rw [show ∀ T, refC T ⟨#[]⟩ = T from fun _ => rfl]; rfl, hbe⟩
  · go_wp2_with (first
      | (go_at_call 67; refine (Reference_any op dst src off c p r _ (B.ref HR.out)).mono ?_; rintro e w' ⟨rfl, hb⟩; replace B := B.below hb; clear hb)
      | (go_at_call 32; refine (HC.out _).mono ?_; rintro e w' ⟨rfl, hb⟩; replace B := B.below hb; clear hb c0 c1 c2 c3 c4 c5; obtain ⟨c0, c1, c2, c3, c4, c5⟩ := B.cells)
      | (go_at_call 46
         refine (B.write _ (by first | omega | (simp only [ByteArray.size_append, szS, List.size_toArray, List.length_cons, List.length_nil]; omega)) (by decide)).mono ?_
         rintro e w' ⟨rfl, B'⟩
         replace B := B'
         clear B' c0 c1 c2 c3 c4 c5
         obtain ⟨c0, c1, c2, c3, c4, c5⟩ := B.cells)
      | (go_at_call 39; with_reducible refine (HK.out _ (B.pow HP.out)).mono ?_; rintro e w' ⟨rfl, hb⟩; replace B := B.below hb; clear hb c0 c1 c2 c3 c4 c5; obtain ⟨c0, c1, c2, c3, c4, c5⟩ := B.cells)
      | (go_at_call 39; with_reducible refine (HO.out _ (B.pow HP.out)).mono ?_; rintro e w' ⟨rfl, hb⟩; replace B := B.below hb; clear hb c0 c1 c2 c3 c4 c5; obtain ⟨c0, c1, c2, c3, c4, c5⟩ := B.cells)
      | (go_at_call 30; with_reducible refine (HD.out _).mono ?_; rintro e w' ⟨rfl, rfl⟩)
      | (go_at_call 30; with_reducible refine (HS.out _).mono ?_; rintro e w' ⟨rfl, rfl⟩)
      | (go_at_call 63; refine (LoadFromMap_any _ op src _ c0 c2).mono ?_; rintro e w' ⟨rfl, nq, rfl⟩; replace B := B.drewN nq; clear c0 c1 c2 c3 c4 c5; obtain ⟨c0, c1, c2, c3, c4, c5⟩ := B.cells)
      | (go_at_call 56; refine (JumpOp_b HJ.out _).mono ?_; rintro e w' ⟨rfl, rfl⟩)
      | (go_at_call 44; refine (Class_b HCl.out _).mono ?_; rintro e w' ⟨rfl, rfl⟩)
      | (go_at_call 45; refine (isLS_b HLS.out _).mono ?_; rintro e w' ⟨rfl, rfl⟩)
      | (go_at_call 51; refine (isALU_b HAL.out _).mono ?_; rintro e w' ⟨rfl, rfl⟩)
      | (go_at_call 55; refine (isJump_b HJU.out _).mono ?_; rintro e w' ⟨rfl, rfl⟩)
      | (go_at_call 48; refine (Mode_b HM.out _).mono ?_; rintro e w' ⟨rfl, rfl⟩)
      | (go_at_call 52; refine (ALUOp_b HAO.out _).mono ?_; rintro e w' ⟨rfl, rfl⟩)
      | (go_at_call 66; refine (SwapOp _).mono ?_; rintro e w' ⟨rfl, rfl⟩)
      | (go_at_call 54; refine (HSR.out _).mono ?_; rintro e w' ⟨rfl, rfl⟩)
      | (go_at_call 33; refine (HB.out _ (B.pow HP.out)).mono ?_; rintro e w' ⟨rfl, hb⟩; replace B := B.below hb; clear hb c0 c1 c2 c3 c4 c5; obtain ⟨c0, c1, c2, c3, c4, c5⟩ := B.cells)
      | (go_at_call 57; refine B.string.mono ?_; rintro e w' ⟨rfl, hbe⟩))
    rw [Exit.noGoto_ret]
    go_ret
    exact ⟨by rw [hT, ← catS_snoc]; rfl, hbe⟩
set_option maxHeartbeats 4000000 in
set_option maxRecDepth 100000 in
theorem IT_call0 (op dst src off c : Int) (r : ByteArray) (p : Option Addr) (w : World) (g : SGood op dst src off c r) (ht : PowTab w) (hr : RefOf p r w) (hj : oJump op = 128) (n24 : (op == 24) = false) (k : Int) (hk : oClass op = k) (hl : cLS k = false) (ha : cALU k = false) (hu : cJump k = true) (hs : (src == 1) = false) (hs2 : (src == 2) = false) (k0 : 400 ≤ c) (k1 : c < 268435456) :
    Calls Tryd.prog 38 #[asmP op dst src off c p] w (STPost (refC (catS [sCode op ++ ⟨#[32]⟩, bnS c]) r) w) := by
  have HJ := Lib.hid (hj)
  have HCl := Lib.hid (hk)
  have HLS := Lib.hid (hl)
  have HAL := Lib.hid (ha)
  have HJU := Lib.hid (hu)
  have HB := Lib.hid (fun W h => Builtin_any c W k0 k1 h)
  unfold STPost
  have HK := Lib.hid (fun W (h : PowTab W) => Dec_any c W g.c0 g.c1 h)
  have HO := Lib.hid (fun W (h : PowTab W) => Dec_any off W (by have := g.o0; omega) (by have := g.o1; omega) h)
  have HD := Lib.hid (fun W => reg_eq g.d0 g.d1 ▸ RegString dst W g.d0 g.d1)
  have HS := Lib.hid (fun W => reg_eq g.s0 g.s1 ▸ RegString src W g.s0 g.s1)
  have HC := Lib.hid (fun W => code_same op g.mem ▸ CodeString op W g.mem)
  have zK := decS_size g.c0 g.c1
  have zO := decS_size (n := off) (by have := g.o0; omega) (by have := g.o1; omega)
  have zD := sReg_size g.d0 g.d1
  have zS := sReg_size g.s0 g.s1
  have zC := sCode_size op g.mem
  have zR := g.rs
  have p0 := (wordOps_lt op g.mem).1
  obtain ⟨K, hK⟩ : ∃ K, decS c = K := ⟨_, rfl⟩
  obtain ⟨O, hO⟩ : ∃ O, decS off = O := ⟨_, rfl⟩
  obtain ⟨D, hD⟩ : ∃ D, sRegS dst = D := ⟨_, rfl⟩
  obtain ⟨S, hS⟩ : ∃ S, sRegS src = S := ⟨_, rfl⟩
  obtain ⟨C, hC⟩ : ∃ C, sCode op = C := ⟨_, rfl⟩
  rw [hK] at HK zK
  rw [hO] at HO zO
  rw [hD] at HD zD
  rw [hS] at HS zS
  rw [hC] at HC zC
  have HP := Lib.hid ht
  have HR := Lib.hid hr
  have n65 := op_ne65 g.mem
  have o0 := g.o0
  have o1 := g.o1
  have t3 : IntKind.i64.wrap off = off := by rw [IntKind.wrap_i64]; omega
  rw [hC]
  have zN := bnS_size (c := c) (by omega) k1
  obtain ⟨N, hN⟩ : ∃ N, bnS c = N := ⟨_, rfl⟩
  rw [hN] at HB zN
  rw [hN]
  clear hK hO hD hS hC g ht hr hj hk hl ha hu hN
  go_enter Tryd.func38, Tryd.ntmps38
  go_wp2_with fail
  go_step3
  go_wp2_with fail
  refine calls_gen (St w (w.heap.size + 1) op dst src off c p [] 0) St.start ?_
  intro W B
  refine (JumpOp_b HJ.out W).mono ?_
  rintro e w' ⟨rfl, rfl⟩
  obtain ⟨c0, c1, c2, c3, c4, c5⟩ := B.cells
  go_wp2_with (first
    | (go_at_call 32; refine (HC.out _).mono ?_; rintro e w' ⟨rfl, hb⟩; replace B := B.below hb; clear hb c0 c1 c2 c3 c4 c5; obtain ⟨c0, c1, c2, c3, c4, c5⟩ := B.cells)
    | (go_at_call 46
       refine (B.write _ (by first | omega | (simp only [ByteArray.size_append, szS, List.size_toArray, List.length_cons, List.length_nil]; omega)) (by decide)).mono ?_
       rintro e w' ⟨rfl, B'⟩
       replace B := B'
       clear B' c0 c1 c2 c3 c4 c5
       obtain ⟨c0, c1, c2, c3, c4, c5⟩ := B.cells)
    | (go_at_call 39; with_reducible refine (HK.out _ (B.pow HP.out)).mono ?_; rintro e w' ⟨rfl, hb⟩; replace B := B.below hb; clear hb c0 c1 c2 c3 c4 c5; obtain ⟨c0, c1, c2, c3, c4, c5⟩ := B.cells)
    | (go_at_call 39; with_reducible refine (HO.out _ (B.pow HP.out)).mono ?_; rintro e w' ⟨rfl, hb⟩; replace B := B.below hb; clear hb c0 c1 c2 c3 c4 c5; obtain ⟨c0, c1, c2, c3, c4, c5⟩ := B.cells)
    | (go_at_call 30; with_reducible refine (HD.out _).mono ?_; rintro e w' ⟨rfl, rfl⟩)
    | (go_at_call 30; with_reducible refine (HS.out _).mono ?_; rintro e w' ⟨rfl, rfl⟩)
    | (go_at_call 63; refine (LoadFromMap_any _ op src _ c0 c2).mono ?_; rintro e w' ⟨rfl, nq, rfl⟩; replace B := B.drewN nq; clear c0 c1 c2 c3 c4 c5; obtain ⟨c0, c1, c2, c3, c4, c5⟩ := B.cells)
    | (go_at_call 56; refine (JumpOp_b HJ.out _).mono ?_; rintro e w' ⟨rfl, rfl⟩)
    | (go_at_call 44; refine (Class_b HCl.out _).mono ?_; rintro e w' ⟨rfl, rfl⟩)
    | (go_at_call 45; refine (isLS_b HLS.out _).mono ?_; rintro e w' ⟨rfl, rfl⟩)
    | (go_at_call 51; refine (isALU_b HAL.out _).mono ?_; rintro e w' ⟨rfl, rfl⟩)
    | (go_at_call 55; refine (isJump_b HJU.out _).mono ?_; rintro e w' ⟨rfl, rfl⟩)
    | (go_at_call 48; refine (Mode_b HM.out _).mono ?_; rintro e w' ⟨rfl, rfl⟩)
    | (go_at_call 52; refine (ALUOp_b HAO.out _).mono ?_; rintro e w' ⟨rfl, rfl⟩)
    | (go_at_call 66; refine (SwapOp _).mono ?_; rintro e w' ⟨rfl, rfl⟩)
    | (go_at_call 54; refine (HSR.out _).mono ?_; rintro e w' ⟨rfl, rfl⟩)
    | (go_at_call 33; refine (HB.out _ (B.pow HP.out)).mono ?_; rintro e w' ⟨rfl, hb⟩; replace B := B.below hb; clear hb c0 c1 c2 c3 c4 c5; obtain ⟨c0, c1, c2, c3, c4, c5⟩ := B.cells)
    )
  go_step3
  go_wp2_with fail
  refine (Reference_any op dst src off c p r _ (B.ref HR.out)).mono ?_
  rintro e w' ⟨rfl, hb⟩
  replace B := B.below hb
  clear hb c0 c1 c2 c3 c4 c5
  obtain ⟨c0, c1, c2, c3, c4, c5⟩ := B.cells
  rcases ref_kinds r with hr0 | ⟨hl, hbr, hT⟩
  · subst hr0
    go_wp2_with (go_at_call 57; refine B.string.mono ?_; rintro e w' ⟨rfl, hbe⟩)
    rw [Exit.noGoto_ret]
    go_ret
    exact ⟨by rw [show ∀ T, refC T ⟨#[]⟩ = T from fun _ => rfl]; rfl, hbe⟩
  · go_wp2_with (first
      | (go_at_call 67; refine (Reference_any op dst src off c p r _ (B.ref HR.out)).mono ?_; rintro e w' ⟨rfl, hb⟩; replace B := B.below hb; clear hb)
      | (go_at_call 32; refine (HC.out _).mono ?_; rintro e w' ⟨rfl, hb⟩; replace B := B.below hb; clear hb c0 c1 c2 c3 c4 c5; obtain ⟨c0, c1, c2, c3, c4, c5⟩ := B.cells)
      | (go_at_call 46
         refine (B.write _ (by first | omega | (simp only [ByteArray.size_append, szS, List.size_toArray, List.length_cons, List.length_nil]; omega)) (by decide)).mono ?_
         rintro e w' ⟨rfl, B'⟩
         replace B := B'
         clear B' c0 c1 c2 c3 c4 c5
         obtain ⟨c0, c1, c2, c3, c4, c5⟩ := B.cells)
      | (go_at_call 39; with_reducible refine (HK.out _ (B.pow HP.out)).mono ?_; rintro e w' ⟨rfl, hb⟩; replace B := B.below hb; clear hb c0 c1 c2 c3 c4 c5; obtain ⟨c0, c1, c2, c3, c4, c5⟩ := B.cells)
      | (go_at_call 39; with_reducible refine (HO.out _ (B.pow HP.out)).mono ?_; rintro e w' ⟨rfl, hb⟩; replace B := B.below hb; clear hb c0 c1 c2 c3 c4 c5; obtain ⟨c0, c1, c2, c3, c4, c5⟩ := B.cells)
      | (go_at_call 30; with_reducible refine (HD.out _).mono ?_; rintro e w' ⟨rfl, rfl⟩)
      | (go_at_call 30; with_reducible refine (HS.out _).mono ?_; rintro e w' ⟨rfl, rfl⟩)
      | (go_at_call 63; refine (LoadFromMap_any _ op src _ c0 c2).mono ?_; rintro e w' ⟨rfl, nq, rfl⟩; replace B := B.drewN nq; clear c0 c1 c2 c3 c4 c5; obtain ⟨c0, c1, c2, c3, c4, c5⟩ := B.cells)
      | (go_at_call 56; refine (JumpOp_b HJ.out _).mono ?_; rintro e w' ⟨rfl, rfl⟩)
      | (go_at_call 44; refine (Class_b HCl.out _).mono ?_; rintro e w' ⟨rfl, rfl⟩)
      | (go_at_call 45; refine (isLS_b HLS.out _).mono ?_; rintro e w' ⟨rfl, rfl⟩)
      | (go_at_call 51; refine (isALU_b HAL.out _).mono ?_; rintro e w' ⟨rfl, rfl⟩)
      | (go_at_call 55; refine (isJump_b HJU.out _).mono ?_; rintro e w' ⟨rfl, rfl⟩)
      | (go_at_call 48; refine (Mode_b HM.out _).mono ?_; rintro e w' ⟨rfl, rfl⟩)
      | (go_at_call 52; refine (ALUOp_b HAO.out _).mono ?_; rintro e w' ⟨rfl, rfl⟩)
      | (go_at_call 66; refine (SwapOp _).mono ?_; rintro e w' ⟨rfl, rfl⟩)
      | (go_at_call 54; refine (HSR.out _).mono ?_; rintro e w' ⟨rfl, rfl⟩)
      | (go_at_call 33; refine (HB.out _ (B.pow HP.out)).mono ?_; rintro e w' ⟨rfl, hb⟩; replace B := B.below hb; clear hb c0 c1 c2 c3 c4 c5; obtain ⟨c0, c1, c2, c3, c4, c5⟩ := B.cells)
      | (go_at_call 57; refine B.string.mono ?_; rintro e w' ⟨rfl, hbe⟩))
    rw [Exit.noGoto_ret]
    go_ret
    exact ⟨by rw [hT, ← catS_snoc]; rfl, hbe⟩
set_option maxHeartbeats 4000000 in
set_option maxRecDepth 100000 in
theorem IT_ja (op dst src off c : Int) (r : ByteArray) (p : Option Addr) (w : World) (g : SGood op dst src off c r) (ht : PowTab w) (hr : RefOf p r w) (hj : oJump op = 0) (n24 : (op == 24) = false) (k : Int) (hk : oClass op = k) (hl : cLS k = false) (ha : cALU k = false) (hu : cJump k = true) (n6 : (k == 6) = false) :
    Calls Tryd.prog 38 #[asmP op dst src off c p] w (STPost (refC (catS [sCode op ++ ⟨#[32]⟩, ⟨#[111, 102, 102, 58, 32]⟩ ++ decS off]) r) w) := by
  have HJ := Lib.hid (hj)
  have HCl := Lib.hid (hk)
  have HLS := Lib.hid (hl)
  have HAL := Lib.hid (ha)
  have HJU := Lib.hid (hu)
  unfold STPost
  have HK := Lib.hid (fun W (h : PowTab W) => Dec_any c W g.c0 g.c1 h)
  have HO := Lib.hid (fun W (h : PowTab W) => Dec_any off W (by have := g.o0; omega) (by have := g.o1; omega) h)
  have HD := Lib.hid (fun W => reg_eq g.d0 g.d1 ▸ RegString dst W g.d0 g.d1)
  have HS := Lib.hid (fun W => reg_eq g.s0 g.s1 ▸ RegString src W g.s0 g.s1)
  have HC := Lib.hid (fun W => code_same op g.mem ▸ CodeString op W g.mem)
  have zK := decS_size g.c0 g.c1
  have zO := decS_size (n := off) (by have := g.o0; omega) (by have := g.o1; omega)
  have zD := sReg_size g.d0 g.d1
  have zS := sReg_size g.s0 g.s1
  have zC := sCode_size op g.mem
  have zR := g.rs
  have p0 := (wordOps_lt op g.mem).1
  obtain ⟨K, hK⟩ : ∃ K, decS c = K := ⟨_, rfl⟩
  obtain ⟨O, hO⟩ : ∃ O, decS off = O := ⟨_, rfl⟩
  obtain ⟨D, hD⟩ : ∃ D, sRegS dst = D := ⟨_, rfl⟩
  obtain ⟨S, hS⟩ : ∃ S, sRegS src = S := ⟨_, rfl⟩
  obtain ⟨C, hC⟩ : ∃ C, sCode op = C := ⟨_, rfl⟩
  rw [hK] at HK zK
  rw [hO] at HO zO
  rw [hD] at HD zD
  rw [hS] at HS zS
  rw [hC] at HC zC
  have HP := Lib.hid ht
  have HR := Lib.hid hr
  have n65 := op_ne65 g.mem
  have o0 := g.o0
  have o1 := g.o1
  have t3 : IntKind.i64.wrap off = off := by rw [IntKind.wrap_i64]; omega
  rw [hC]
  rw [hO]
  clear hK hO hD hS hC g ht hr hj hk hl ha hu
  go_enter Tryd.func38, Tryd.ntmps38
  go_wp2_with fail
  go_step3
  go_wp2_with fail
  refine calls_gen (St w (w.heap.size + 1) op dst src off c p [] 0) St.start ?_
  intro W B
  refine (JumpOp_b HJ.out W).mono ?_
  rintro e w' ⟨rfl, rfl⟩
  obtain ⟨c0, c1, c2, c3, c4, c5⟩ := B.cells
  go_wp2_with (first
    | (go_at_call 32; refine (HC.out _).mono ?_; rintro e w' ⟨rfl, hb⟩; replace B := B.below hb; clear hb c0 c1 c2 c3 c4 c5; obtain ⟨c0, c1, c2, c3, c4, c5⟩ := B.cells)
    | (go_at_call 46
       refine (B.write _ (by first | omega | (simp only [ByteArray.size_append, szS, List.size_toArray, List.length_cons, List.length_nil]; omega)) (by decide)).mono ?_
       rintro e w' ⟨rfl, B'⟩
       replace B := B'
       clear B' c0 c1 c2 c3 c4 c5
       obtain ⟨c0, c1, c2, c3, c4, c5⟩ := B.cells)
    | (go_at_call 39; with_reducible refine (HK.out _ (B.pow HP.out)).mono ?_; rintro e w' ⟨rfl, hb⟩; replace B := B.below hb; clear hb c0 c1 c2 c3 c4 c5; obtain ⟨c0, c1, c2, c3, c4, c5⟩ := B.cells)
    | (go_at_call 39; with_reducible refine (HO.out _ (B.pow HP.out)).mono ?_; rintro e w' ⟨rfl, hb⟩; replace B := B.below hb; clear hb c0 c1 c2 c3 c4 c5; obtain ⟨c0, c1, c2, c3, c4, c5⟩ := B.cells)
    | (go_at_call 30; with_reducible refine (HD.out _).mono ?_; rintro e w' ⟨rfl, rfl⟩)
    | (go_at_call 30; with_reducible refine (HS.out _).mono ?_; rintro e w' ⟨rfl, rfl⟩)
    | (go_at_call 63; refine (LoadFromMap_any _ op src _ c0 c2).mono ?_; rintro e w' ⟨rfl, nq, rfl⟩; replace B := B.drewN nq; clear c0 c1 c2 c3 c4 c5; obtain ⟨c0, c1, c2, c3, c4, c5⟩ := B.cells)
    | (go_at_call 56; refine (JumpOp_b HJ.out _).mono ?_; rintro e w' ⟨rfl, rfl⟩)
    | (go_at_call 44; refine (Class_b HCl.out _).mono ?_; rintro e w' ⟨rfl, rfl⟩)
    | (go_at_call 45; refine (isLS_b HLS.out _).mono ?_; rintro e w' ⟨rfl, rfl⟩)
    | (go_at_call 51; refine (isALU_b HAL.out _).mono ?_; rintro e w' ⟨rfl, rfl⟩)
    | (go_at_call 55; refine (isJump_b HJU.out _).mono ?_; rintro e w' ⟨rfl, rfl⟩)
    | (go_at_call 48; refine (Mode_b HM.out _).mono ?_; rintro e w' ⟨rfl, rfl⟩)
    | (go_at_call 52; refine (ALUOp_b HAO.out _).mono ?_; rintro e w' ⟨rfl, rfl⟩)
    | (go_at_call 66; refine (SwapOp _).mono ?_; rintro e w' ⟨rfl, rfl⟩)
    | (go_at_call 54; refine (HSR.out _).mono ?_; rintro e w' ⟨rfl, rfl⟩)
    | (go_at_call 33; refine (HB.out _ (B.pow HP.out)).mono ?_; rintro e w' ⟨rfl, hb⟩; replace B := B.below hb; clear hb c0 c1 c2 c3 c4 c5; obtain ⟨c0, c1, c2, c3, c4, c5⟩ := B.cells)
    )
  go_step3
  go_wp2_with fail
  refine (Reference_any op dst src off c p r _ (B.ref HR.out)).mono ?_
  rintro e w' ⟨rfl, hb⟩
  replace B := B.below hb
  clear hb c0 c1 c2 c3 c4 c5
  obtain ⟨c0, c1, c2, c3, c4, c5⟩ := B.cells
  rcases ref_kinds r with hr0 | ⟨hl, hbr, hT⟩
  · subst hr0
    go_wp2_with (go_at_call 57; refine B.string.mono ?_; rintro e w' ⟨rfl, hbe⟩)
    rw [Exit.noGoto_ret]
    go_ret
    exact ⟨by rw [show ∀ T, refC T ⟨#[]⟩ = T from fun _ => rfl]; rfl, hbe⟩
  · go_wp2_with (first
      | (go_at_call 67; refine (Reference_any op dst src off c p r _ (B.ref HR.out)).mono ?_; rintro e w' ⟨rfl, hb⟩; replace B := B.below hb; clear hb)
      | (go_at_call 32; refine (HC.out _).mono ?_; rintro e w' ⟨rfl, hb⟩; replace B := B.below hb; clear hb c0 c1 c2 c3 c4 c5; obtain ⟨c0, c1, c2, c3, c4, c5⟩ := B.cells)
      | (go_at_call 46
         refine (B.write _ (by first | omega | (simp only [ByteArray.size_append, szS, List.size_toArray, List.length_cons, List.length_nil]; omega)) (by decide)).mono ?_
         rintro e w' ⟨rfl, B'⟩
         replace B := B'
         clear B' c0 c1 c2 c3 c4 c5
         obtain ⟨c0, c1, c2, c3, c4, c5⟩ := B.cells)
      | (go_at_call 39; with_reducible refine (HK.out _ (B.pow HP.out)).mono ?_; rintro e w' ⟨rfl, hb⟩; replace B := B.below hb; clear hb c0 c1 c2 c3 c4 c5; obtain ⟨c0, c1, c2, c3, c4, c5⟩ := B.cells)
      | (go_at_call 39; with_reducible refine (HO.out _ (B.pow HP.out)).mono ?_; rintro e w' ⟨rfl, hb⟩; replace B := B.below hb; clear hb c0 c1 c2 c3 c4 c5; obtain ⟨c0, c1, c2, c3, c4, c5⟩ := B.cells)
      | (go_at_call 30; with_reducible refine (HD.out _).mono ?_; rintro e w' ⟨rfl, rfl⟩)
      | (go_at_call 30; with_reducible refine (HS.out _).mono ?_; rintro e w' ⟨rfl, rfl⟩)
      | (go_at_call 63; refine (LoadFromMap_any _ op src _ c0 c2).mono ?_; rintro e w' ⟨rfl, nq, rfl⟩; replace B := B.drewN nq; clear c0 c1 c2 c3 c4 c5; obtain ⟨c0, c1, c2, c3, c4, c5⟩ := B.cells)
      | (go_at_call 56; refine (JumpOp_b HJ.out _).mono ?_; rintro e w' ⟨rfl, rfl⟩)
      | (go_at_call 44; refine (Class_b HCl.out _).mono ?_; rintro e w' ⟨rfl, rfl⟩)
      | (go_at_call 45; refine (isLS_b HLS.out _).mono ?_; rintro e w' ⟨rfl, rfl⟩)
      | (go_at_call 51; refine (isALU_b HAL.out _).mono ?_; rintro e w' ⟨rfl, rfl⟩)
      | (go_at_call 55; refine (isJump_b HJU.out _).mono ?_; rintro e w' ⟨rfl, rfl⟩)
      | (go_at_call 48; refine (Mode_b HM.out _).mono ?_; rintro e w' ⟨rfl, rfl⟩)
      | (go_at_call 52; refine (ALUOp_b HAO.out _).mono ?_; rintro e w' ⟨rfl, rfl⟩)
      | (go_at_call 66; refine (SwapOp _).mono ?_; rintro e w' ⟨rfl, rfl⟩)
      | (go_at_call 54; refine (HSR.out _).mono ?_; rintro e w' ⟨rfl, rfl⟩)
      | (go_at_call 33; refine (HB.out _ (B.pow HP.out)).mono ?_; rintro e w' ⟨rfl, hb⟩; replace B := B.below hb; clear hb c0 c1 c2 c3 c4 c5; obtain ⟨c0, c1, c2, c3, c4, c5⟩ := B.cells)
      | (go_at_call 57; refine B.string.mono ?_; rintro e w' ⟨rfl, hbe⟩))
    rw [Exit.noGoto_ret]
    go_ret
    exact ⟨by rw [hT, ← catS_snoc]; rfl, hbe⟩
set_option maxHeartbeats 4000000 in
set_option maxRecDepth 100000 in
theorem IT_ja32 (op dst src off c : Int) (r : ByteArray) (p : Option Addr) (w : World) (g : SGood op dst src off c r) (ht : PowTab w) (hr : RefOf p r w) (hj : oJump op = 0) (n24 : (op == 24) = false) (k : Int) (hk : oClass op = k) (hl : cLS k = false) (ha : cALU k = false) (hu : cJump k = true) (n6 : (k == 6) = true) :
    Calls Tryd.prog 38 #[asmP op dst src off c p] w (STPost (refC (catS [sCode op ++ ⟨#[32]⟩, ⟨#[105, 109, 109, 58, 32]⟩ ++ decS c]) r) w) := by
  have HJ := Lib.hid (hj)
  have HCl := Lib.hid (hk)
  have HLS := Lib.hid (hl)
  have HAL := Lib.hid (ha)
  have HJU := Lib.hid (hu)
  unfold STPost
  have HK := Lib.hid (fun W (h : PowTab W) => Dec_any c W g.c0 g.c1 h)
  have HO := Lib.hid (fun W (h : PowTab W) => Dec_any off W (by have := g.o0; omega) (by have := g.o1; omega) h)
  have HD := Lib.hid (fun W => reg_eq g.d0 g.d1 ▸ RegString dst W g.d0 g.d1)
  have HS := Lib.hid (fun W => reg_eq g.s0 g.s1 ▸ RegString src W g.s0 g.s1)
  have HC := Lib.hid (fun W => code_same op g.mem ▸ CodeString op W g.mem)
  have zK := decS_size g.c0 g.c1
  have zO := decS_size (n := off) (by have := g.o0; omega) (by have := g.o1; omega)
  have zD := sReg_size g.d0 g.d1
  have zS := sReg_size g.s0 g.s1
  have zC := sCode_size op g.mem
  have zR := g.rs
  have p0 := (wordOps_lt op g.mem).1
  obtain ⟨K, hK⟩ : ∃ K, decS c = K := ⟨_, rfl⟩
  obtain ⟨O, hO⟩ : ∃ O, decS off = O := ⟨_, rfl⟩
  obtain ⟨D, hD⟩ : ∃ D, sRegS dst = D := ⟨_, rfl⟩
  obtain ⟨S, hS⟩ : ∃ S, sRegS src = S := ⟨_, rfl⟩
  obtain ⟨C, hC⟩ : ∃ C, sCode op = C := ⟨_, rfl⟩
  rw [hK] at HK zK
  rw [hO] at HO zO
  rw [hD] at HD zD
  rw [hS] at HS zS
  rw [hC] at HC zC
  have HP := Lib.hid ht
  have HR := Lib.hid hr
  have n65 := op_ne65 g.mem
  have o0 := g.o0
  have o1 := g.o1
  have t3 : IntKind.i64.wrap off = off := by rw [IntKind.wrap_i64]; omega
  rw [hC]
  rw [hK]
  clear hK hO hD hS hC g ht hr hj hk hl ha hu
  go_enter Tryd.func38, Tryd.ntmps38
  go_wp2_with fail
  go_step3
  go_wp2_with fail
  refine calls_gen (St w (w.heap.size + 1) op dst src off c p [] 0) St.start ?_
  intro W B
  refine (JumpOp_b HJ.out W).mono ?_
  rintro e w' ⟨rfl, rfl⟩
  obtain ⟨c0, c1, c2, c3, c4, c5⟩ := B.cells
  go_wp2_with (first
    | (go_at_call 32; refine (HC.out _).mono ?_; rintro e w' ⟨rfl, hb⟩; replace B := B.below hb; clear hb c0 c1 c2 c3 c4 c5; obtain ⟨c0, c1, c2, c3, c4, c5⟩ := B.cells)
    | (go_at_call 46
       refine (B.write _ (by first | omega | (simp only [ByteArray.size_append, szS, List.size_toArray, List.length_cons, List.length_nil]; omega)) (by decide)).mono ?_
       rintro e w' ⟨rfl, B'⟩
       replace B := B'
       clear B' c0 c1 c2 c3 c4 c5
       obtain ⟨c0, c1, c2, c3, c4, c5⟩ := B.cells)
    | (go_at_call 39; with_reducible refine (HK.out _ (B.pow HP.out)).mono ?_; rintro e w' ⟨rfl, hb⟩; replace B := B.below hb; clear hb c0 c1 c2 c3 c4 c5; obtain ⟨c0, c1, c2, c3, c4, c5⟩ := B.cells)
    | (go_at_call 39; with_reducible refine (HO.out _ (B.pow HP.out)).mono ?_; rintro e w' ⟨rfl, hb⟩; replace B := B.below hb; clear hb c0 c1 c2 c3 c4 c5; obtain ⟨c0, c1, c2, c3, c4, c5⟩ := B.cells)
    | (go_at_call 30; with_reducible refine (HD.out _).mono ?_; rintro e w' ⟨rfl, rfl⟩)
    | (go_at_call 30; with_reducible refine (HS.out _).mono ?_; rintro e w' ⟨rfl, rfl⟩)
    | (go_at_call 63; refine (LoadFromMap_any _ op src _ c0 c2).mono ?_; rintro e w' ⟨rfl, nq, rfl⟩; replace B := B.drewN nq; clear c0 c1 c2 c3 c4 c5; obtain ⟨c0, c1, c2, c3, c4, c5⟩ := B.cells)
    | (go_at_call 56; refine (JumpOp_b HJ.out _).mono ?_; rintro e w' ⟨rfl, rfl⟩)
    | (go_at_call 44; refine (Class_b HCl.out _).mono ?_; rintro e w' ⟨rfl, rfl⟩)
    | (go_at_call 45; refine (isLS_b HLS.out _).mono ?_; rintro e w' ⟨rfl, rfl⟩)
    | (go_at_call 51; refine (isALU_b HAL.out _).mono ?_; rintro e w' ⟨rfl, rfl⟩)
    | (go_at_call 55; refine (isJump_b HJU.out _).mono ?_; rintro e w' ⟨rfl, rfl⟩)
    | (go_at_call 48; refine (Mode_b HM.out _).mono ?_; rintro e w' ⟨rfl, rfl⟩)
    | (go_at_call 52; refine (ALUOp_b HAO.out _).mono ?_; rintro e w' ⟨rfl, rfl⟩)
    | (go_at_call 66; refine (SwapOp _).mono ?_; rintro e w' ⟨rfl, rfl⟩)
    | (go_at_call 54; refine (HSR.out _).mono ?_; rintro e w' ⟨rfl, rfl⟩)
    | (go_at_call 33; refine (HB.out _ (B.pow HP.out)).mono ?_; rintro e w' ⟨rfl, hb⟩; replace B := B.below hb; clear hb c0 c1 c2 c3 c4 c5; obtain ⟨c0, c1, c2, c3, c4, c5⟩ := B.cells)
    )
  go_step3
  go_wp2_with fail
  refine (Reference_any op dst src off c p r _ (B.ref HR.out)).mono ?_
  rintro e w' ⟨rfl, hb⟩
  replace B := B.below hb
  clear hb c0 c1 c2 c3 c4 c5
  obtain ⟨c0, c1, c2, c3, c4, c5⟩ := B.cells
  rcases ref_kinds r with hr0 | ⟨hl, hbr, hT⟩
  · subst hr0
    go_wp2_with (go_at_call 57; refine B.string.mono ?_; rintro e w' ⟨rfl, hbe⟩)
    rw [Exit.noGoto_ret]
    go_ret
    exact ⟨by rw [show ∀ T, refC T ⟨#[]⟩ = T from fun _ => rfl]; rfl, hbe⟩
  · go_wp2_with (first
      | (go_at_call 67; refine (Reference_any op dst src off c p r _ (B.ref HR.out)).mono ?_; rintro e w' ⟨rfl, hb⟩; replace B := B.below hb; clear hb)
      | (go_at_call 32; refine (HC.out _).mono ?_; rintro e w' ⟨rfl, hb⟩; replace B := B.below hb; clear hb c0 c1 c2 c3 c4 c5; obtain ⟨c0, c1, c2, c3, c4, c5⟩ := B.cells)
      | (go_at_call 46
         refine (B.write _ (by first | omega | (simp only [ByteArray.size_append, szS, List.size_toArray, List.length_cons, List.length_nil]; omega)) (by decide)).mono ?_
         rintro e w' ⟨rfl, B'⟩
         replace B := B'
         clear B' c0 c1 c2 c3 c4 c5
         obtain ⟨c0, c1, c2, c3, c4, c5⟩ := B.cells)
      | (go_at_call 39; with_reducible refine (HK.out _ (B.pow HP.out)).mono ?_; rintro e w' ⟨rfl, hb⟩; replace B := B.below hb; clear hb c0 c1 c2 c3 c4 c5; obtain ⟨c0, c1, c2, c3, c4, c5⟩ := B.cells)
      | (go_at_call 39; with_reducible refine (HO.out _ (B.pow HP.out)).mono ?_; rintro e w' ⟨rfl, hb⟩; replace B := B.below hb; clear hb c0 c1 c2 c3 c4 c5; obtain ⟨c0, c1, c2, c3, c4, c5⟩ := B.cells)
      | (go_at_call 30; with_reducible refine (HD.out _).mono ?_; rintro e w' ⟨rfl, rfl⟩)
      | (go_at_call 30; with_reducible refine (HS.out _).mono ?_; rintro e w' ⟨rfl, rfl⟩)
      | (go_at_call 63; refine (LoadFromMap_any _ op src _ c0 c2).mono ?_; rintro e w' ⟨rfl, nq, rfl⟩; replace B := B.drewN nq; clear c0 c1 c2 c3 c4 c5; obtain ⟨c0, c1, c2, c3, c4, c5⟩ := B.cells)
      | (go_at_call 56; refine (JumpOp_b HJ.out _).mono ?_; rintro e w' ⟨rfl, rfl⟩)
      | (go_at_call 44; refine (Class_b HCl.out _).mono ?_; rintro e w' ⟨rfl, rfl⟩)
      | (go_at_call 45; refine (isLS_b HLS.out _).mono ?_; rintro e w' ⟨rfl, rfl⟩)
      | (go_at_call 51; refine (isALU_b HAL.out _).mono ?_; rintro e w' ⟨rfl, rfl⟩)
      | (go_at_call 55; refine (isJump_b HJU.out _).mono ?_; rintro e w' ⟨rfl, rfl⟩)
      | (go_at_call 48; refine (Mode_b HM.out _).mono ?_; rintro e w' ⟨rfl, rfl⟩)
      | (go_at_call 52; refine (ALUOp_b HAO.out _).mono ?_; rintro e w' ⟨rfl, rfl⟩)
      | (go_at_call 66; refine (SwapOp _).mono ?_; rintro e w' ⟨rfl, rfl⟩)
      | (go_at_call 54; refine (HSR.out _).mono ?_; rintro e w' ⟨rfl, rfl⟩)
      | (go_at_call 33; refine (HB.out _ (B.pow HP.out)).mono ?_; rintro e w' ⟨rfl, hb⟩; replace B := B.below hb; clear hb c0 c1 c2 c3 c4 c5; obtain ⟨c0, c1, c2, c3, c4, c5⟩ := B.cells)
      | (go_at_call 57; refine B.string.mono ?_; rintro e w' ⟨rfl, hbe⟩))
    rw [Exit.noGoto_ret]
    go_ret
    exact ⟨by rw [hT, ← catS_snoc]; rfl, hbe⟩
set_option maxHeartbeats 4000000 in
set_option maxRecDepth 100000 in
theorem IT_jci (op dst src off c : Int) (r : ByteArray) (p : Option Addr) (w : World) (g : SGood op dst src off c r) (ht : PowTab w) (hr : RefOf p r w) (j : Int) (hj : oJump op = j) (g0 : (j == 0) = false) (g1 : (j == 128) = false) (g2 : (j == 144) = false) (g3 : (j == 224) = false) (nsw : oALU op ≠ 208) (n24 : (op == 24) = false) (k : Int) (hk : oClass op = k) (hl : cLS k = false) (ha : cALU k = false) (hu : cJump k = true) (hsr : oBit op % 65536 = 0) :
    Calls Tryd.prog 38 #[asmP op dst src off c p] w (STPost (refC (catS [sCode op ++ ⟨#[32]⟩, ⟨#[100, 115, 116, 58, 32]⟩ ++ sRegS dst ++ ⟨#[32, 111, 102, 102, 58, 32]⟩ ++ decS off ++ ⟨#[32]⟩, ⟨#[105, 109, 109, 58, 32]⟩ ++ decS c]) r) w) := by
  have HJ := Lib.hid (hj)
  have HCl := Lib.hid (hk)
  have HLS := Lib.hid (hl)
  have HAL := Lib.hid (ha)
  have HJU := Lib.hid (hu)
  have HSR := Lib.hid (fun W => hsr ▸ Src_ok op W (.inl (by rw [hk]; exact hu)) nsw)
  unfold STPost
  have HK := Lib.hid (fun W (h : PowTab W) => Dec_any c W g.c0 g.c1 h)
  have HO := Lib.hid (fun W (h : PowTab W) => Dec_any off W (by have := g.o0; omega) (by have := g.o1; omega) h)
  have HD := Lib.hid (fun W => reg_eq g.d0 g.d1 ▸ RegString dst W g.d0 g.d1)
  have HS := Lib.hid (fun W => reg_eq g.s0 g.s1 ▸ RegString src W g.s0 g.s1)
  have HC := Lib.hid (fun W => code_same op g.mem ▸ CodeString op W g.mem)
  have zK := decS_size g.c0 g.c1
  have zO := decS_size (n := off) (by have := g.o0; omega) (by have := g.o1; omega)
  have zD := sReg_size g.d0 g.d1
  have zS := sReg_size g.s0 g.s1
  have zC := sCode_size op g.mem
  have zR := g.rs
  have p0 := (wordOps_lt op g.mem).1
  obtain ⟨K, hK⟩ : ∃ K, decS c = K := ⟨_, rfl⟩
  obtain ⟨O, hO⟩ : ∃ O, decS off = O := ⟨_, rfl⟩
  obtain ⟨D, hD⟩ : ∃ D, sRegS dst = D := ⟨_, rfl⟩
  obtain ⟨S, hS⟩ : ∃ S, sRegS src = S := ⟨_, rfl⟩
  obtain ⟨C, hC⟩ : ∃ C, sCode op = C := ⟨_, rfl⟩
  rw [hK] at HK zK
  rw [hO] at HO zO
  rw [hD] at HD zD
  rw [hS] at HS zS
  rw [hC] at HC zC
  have HP := Lib.hid ht
  have HR := Lib.hid hr
  have n65 := op_ne65 g.mem
  have o0 := g.o0
  have o1 := g.o1
  have t3 : IntKind.i64.wrap off = off := by rw [IntKind.wrap_i64]; omega
  rw [hC]
  rw [hD]
  rw [hO]
  rw [hK]
  clear hK hO hD hS hC g ht hr hj hk hl ha hu hsr nsw
  go_enter Tryd.func38, Tryd.ntmps38
  go_wp2_with fail
  go_step3
  go_wp2_with fail
  refine calls_gen (St w (w.heap.size + 1) op dst src off c p [] 0) St.start ?_
  intro W B
  refine (JumpOp_b HJ.out W).mono ?_
  rintro e w' ⟨rfl, rfl⟩
  obtain ⟨c0, c1, c2, c3, c4, c5⟩ := B.cells
  go_wp2_with (first
    | (go_at_call 32; refine (HC.out _).mono ?_; rintro e w' ⟨rfl, hb⟩; replace B := B.below hb; clear hb c0 c1 c2 c3 c4 c5; obtain ⟨c0, c1, c2, c3, c4, c5⟩ := B.cells)
    | (go_at_call 46
       refine (B.write _ (by first | omega | (simp only [ByteArray.size_append, szS, List.size_toArray, List.length_cons, List.length_nil]; omega)) (by decide)).mono ?_
       rintro e w' ⟨rfl, B'⟩
       replace B := B'
       clear B' c0 c1 c2 c3 c4 c5
       obtain ⟨c0, c1, c2, c3, c4, c5⟩ := B.cells)
    | (go_at_call 39; with_reducible refine (HK.out _ (B.pow HP.out)).mono ?_; rintro e w' ⟨rfl, hb⟩; replace B := B.below hb; clear hb c0 c1 c2 c3 c4 c5; obtain ⟨c0, c1, c2, c3, c4, c5⟩ := B.cells)
    | (go_at_call 39; with_reducible refine (HO.out _ (B.pow HP.out)).mono ?_; rintro e w' ⟨rfl, hb⟩; replace B := B.below hb; clear hb c0 c1 c2 c3 c4 c5; obtain ⟨c0, c1, c2, c3, c4, c5⟩ := B.cells)
    | (go_at_call 30; with_reducible refine (HD.out _).mono ?_; rintro e w' ⟨rfl, rfl⟩)
    | (go_at_call 30; with_reducible refine (HS.out _).mono ?_; rintro e w' ⟨rfl, rfl⟩)
    | (go_at_call 63; refine (LoadFromMap_any _ op src _ c0 c2).mono ?_; rintro e w' ⟨rfl, nq, rfl⟩; replace B := B.drewN nq; clear c0 c1 c2 c3 c4 c5; obtain ⟨c0, c1, c2, c3, c4, c5⟩ := B.cells)
    | (go_at_call 56; refine (JumpOp_b HJ.out _).mono ?_; rintro e w' ⟨rfl, rfl⟩)
    | (go_at_call 44; refine (Class_b HCl.out _).mono ?_; rintro e w' ⟨rfl, rfl⟩)
    | (go_at_call 45; refine (isLS_b HLS.out _).mono ?_; rintro e w' ⟨rfl, rfl⟩)
    | (go_at_call 51; refine (isALU_b HAL.out _).mono ?_; rintro e w' ⟨rfl, rfl⟩)
    | (go_at_call 55; refine (isJump_b HJU.out _).mono ?_; rintro e w' ⟨rfl, rfl⟩)
    | (go_at_call 48; refine (Mode_b HM.out _).mono ?_; rintro e w' ⟨rfl, rfl⟩)
    | (go_at_call 52; refine (ALUOp_b HAO.out _).mono ?_; rintro e w' ⟨rfl, rfl⟩)
    | (go_at_call 66; refine (SwapOp _).mono ?_; rintro e w' ⟨rfl, rfl⟩)
    | (go_at_call 54; refine (HSR.out _).mono ?_; rintro e w' ⟨rfl, rfl⟩)
    | (go_at_call 33; refine (HB.out _ (B.pow HP.out)).mono ?_; rintro e w' ⟨rfl, hb⟩; replace B := B.below hb; clear hb c0 c1 c2 c3 c4 c5; obtain ⟨c0, c1, c2, c3, c4, c5⟩ := B.cells)
    )
  have BD := B.drew
  have q2 : ¬ 9223372036854775807 < 5 + D.size := (by omega); have q3 : ¬ 9223372036854775807 < 5 + D.size + 6 := (by omega); have q4 : ¬ 9223372036854775807 < 5 + D.size + 6 + O.size := (by omega); have q5 : ¬ 9223372036854775807 < 5 + D.size + 6 + O.size + 1 := (by omega)
  go_region_held (fun W' => W'.cell? ⟨w.heap.size, 0, none⟩ = some (.int .u32 op) ∧ W'.cell? ⟨w.heap.size, 1, none⟩ = some (.int .u8 dst) ∧ W'.cell? ⟨w.heap.size, 2, none⟩ = some (.int .u8 src) ∧
      W'.cell? ⟨w.heap.size, 3, none⟩ = some (.int .i16 off) ∧ W'.cell? ⟨w.heap.size, 4, none⟩ = some (.int .i64 c) ∧ W'.cell? ⟨w.heap.size, 5, none⟩ = some (.pointer p))
    (first | exact BE.cells | exact BD.cells)
    (first
      | (go_at_call 30; with_reducible refine (HD.out _).mono ?_; rintro e w' ⟨rfl, rfl⟩)
      | (go_at_call 30; with_reducible refine (HS.out _).mono ?_; rintro e w' ⟨rfl, rfl⟩)
      | (go_at_call 39; with_reducible refine (HK.out _ (BD.pow HP.out)).mono ?_; rintro e w' ⟨rfl, hb⟩; replace BD := BD.below hb; clear hb)
      | (go_at_call 39; with_reducible refine (HO.out _ (BD.pow HP.out)).mono ?_; rintro e w' ⟨rfl, hb⟩; replace BD := BD.below hb; clear hb)
      | (go_at_call 39; with_reducible refine (HF.out _ (BD.pow HP.out)).mono ?_; rintro e w' ⟨rfl, hb⟩; replace BD := BD.below hb; clear hb)
      | (go_at_call 39; with_reducible refine (HG.out _ (BD.pow HP.out)).mono ?_; rintro e w' ⟨rfl, hb⟩; replace BD := BD.below hb; clear hb)
      | (go_at_call 65; refine (mapOffset_any _ c _ (BD.cells).2.2.2.2.1).mono ?_; rintro e w' ⟨rfl, rfl⟩)
      | (go_at_call 46
         refine (BD.write _ (by first | omega | (simp only [ByteArray.size_append, szS, List.size_toArray, List.length_cons, List.length_nil]; omega)) (by decide)).mono ?_
         rintro e w' ⟨rfl, BE⟩))
  clear q2 q3 q4 q5
  replace B := BE
  clear BD BE c0 c1 c2 c3 c4 c5
  obtain ⟨c0, c1, c2, c3, c4, c5⟩ := B.cells
  go_wp2_with (first
    | (go_at_call 32; refine (HC.out _).mono ?_; rintro e w' ⟨rfl, hb⟩; replace B := B.below hb; clear hb c0 c1 c2 c3 c4 c5; obtain ⟨c0, c1, c2, c3, c4, c5⟩ := B.cells)
    | (go_at_call 46
       refine (B.write _ (by first | omega | (simp only [ByteArray.size_append, szS, List.size_toArray, List.length_cons, List.length_nil]; omega)) (by decide)).mono ?_
       rintro e w' ⟨rfl, B'⟩
       replace B := B'
       clear B' c0 c1 c2 c3 c4 c5
       obtain ⟨c0, c1, c2, c3, c4, c5⟩ := B.cells)
    | (go_at_call 39; with_reducible refine (HK.out _ (B.pow HP.out)).mono ?_; rintro e w' ⟨rfl, hb⟩; replace B := B.below hb; clear hb c0 c1 c2 c3 c4 c5; obtain ⟨c0, c1, c2, c3, c4, c5⟩ := B.cells)
    | (go_at_call 39; with_reducible refine (HO.out _ (B.pow HP.out)).mono ?_; rintro e w' ⟨rfl, hb⟩; replace B := B.below hb; clear hb c0 c1 c2 c3 c4 c5; obtain ⟨c0, c1, c2, c3, c4, c5⟩ := B.cells)
    | (go_at_call 30; with_reducible refine (HD.out _).mono ?_; rintro e w' ⟨rfl, rfl⟩)
    | (go_at_call 30; with_reducible refine (HS.out _).mono ?_; rintro e w' ⟨rfl, rfl⟩)
    | (go_at_call 63; refine (LoadFromMap_any _ op src _ c0 c2).mono ?_; rintro e w' ⟨rfl, nq, rfl⟩; replace B := B.drewN nq; clear c0 c1 c2 c3 c4 c5; obtain ⟨c0, c1, c2, c3, c4, c5⟩ := B.cells)
    | (go_at_call 56; refine (JumpOp_b HJ.out _).mono ?_; rintro e w' ⟨rfl, rfl⟩)
    | (go_at_call 44; refine (Class_b HCl.out _).mono ?_; rintro e w' ⟨rfl, rfl⟩)
    | (go_at_call 45; refine (isLS_b HLS.out _).mono ?_; rintro e w' ⟨rfl, rfl⟩)
    | (go_at_call 51; refine (isALU_b HAL.out _).mono ?_; rintro e w' ⟨rfl, rfl⟩)
    | (go_at_call 55; refine (isJump_b HJU.out _).mono ?_; rintro e w' ⟨rfl, rfl⟩)
    | (go_at_call 48; refine (Mode_b HM.out _).mono ?_; rintro e w' ⟨rfl, rfl⟩)
    | (go_at_call 52; refine (ALUOp_b HAO.out _).mono ?_; rintro e w' ⟨rfl, rfl⟩)
    | (go_at_call 66; refine (SwapOp _).mono ?_; rintro e w' ⟨rfl, rfl⟩)
    | (go_at_call 54; refine (HSR.out _).mono ?_; rintro e w' ⟨rfl, rfl⟩)
    | (go_at_call 33; refine (HB.out _ (B.pow HP.out)).mono ?_; rintro e w' ⟨rfl, hb⟩; replace B := B.below hb; clear hb c0 c1 c2 c3 c4 c5; obtain ⟨c0, c1, c2, c3, c4, c5⟩ := B.cells)
    )
  go_step3
  go_wp2_with fail
  refine (Reference_any op dst src off c p r _ (B.ref HR.out)).mono ?_
  rintro e w' ⟨rfl, hb⟩
  replace B := B.below hb
  clear hb c0 c1 c2 c3 c4 c5
  obtain ⟨c0, c1, c2, c3, c4, c5⟩ := B.cells
  rcases ref_kinds r with hr0 | ⟨hl, hbr, hT⟩
  · subst hr0
    go_wp2_with (go_at_call 57; refine B.string.mono ?_; rintro e w' ⟨rfl, hbe⟩)
    rw [Exit.noGoto_ret]
    go_ret
    exact ⟨by rw [show ∀ T, refC T ⟨#[]⟩ = T from fun _ => rfl]; rfl, hbe⟩
  · go_wp2_with (first
      | (go_at_call 67; refine (Reference_any op dst src off c p r _ (B.ref HR.out)).mono ?_; rintro e w' ⟨rfl, hb⟩; replace B := B.below hb; clear hb)
      | (go_at_call 32; refine (HC.out _).mono ?_; rintro e w' ⟨rfl, hb⟩; replace B := B.below hb; clear hb c0 c1 c2 c3 c4 c5; obtain ⟨c0, c1, c2, c3, c4, c5⟩ := B.cells)
      | (go_at_call 46
         refine (B.write _ (by first | omega | (simp only [ByteArray.size_append, szS, List.size_toArray, List.length_cons, List.length_nil]; omega)) (by decide)).mono ?_
         rintro e w' ⟨rfl, B'⟩
         replace B := B'
         clear B' c0 c1 c2 c3 c4 c5
         obtain ⟨c0, c1, c2, c3, c4, c5⟩ := B.cells)
      | (go_at_call 39; with_reducible refine (HK.out _ (B.pow HP.out)).mono ?_; rintro e w' ⟨rfl, hb⟩; replace B := B.below hb; clear hb c0 c1 c2 c3 c4 c5; obtain ⟨c0, c1, c2, c3, c4, c5⟩ := B.cells)
      | (go_at_call 39; with_reducible refine (HO.out _ (B.pow HP.out)).mono ?_; rintro e w' ⟨rfl, hb⟩; replace B := B.below hb; clear hb c0 c1 c2 c3 c4 c5; obtain ⟨c0, c1, c2, c3, c4, c5⟩ := B.cells)
      | (go_at_call 30; with_reducible refine (HD.out _).mono ?_; rintro e w' ⟨rfl, rfl⟩)
      | (go_at_call 30; with_reducible refine (HS.out _).mono ?_; rintro e w' ⟨rfl, rfl⟩)
      | (go_at_call 63; refine (LoadFromMap_any _ op src _ c0 c2).mono ?_; rintro e w' ⟨rfl, nq, rfl⟩; replace B := B.drewN nq; clear c0 c1 c2 c3 c4 c5; obtain ⟨c0, c1, c2, c3, c4, c5⟩ := B.cells)
      | (go_at_call 56; refine (JumpOp_b HJ.out _).mono ?_; rintro e w' ⟨rfl, rfl⟩)
      | (go_at_call 44; refine (Class_b HCl.out _).mono ?_; rintro e w' ⟨rfl, rfl⟩)
      | (go_at_call 45; refine (isLS_b HLS.out _).mono ?_; rintro e w' ⟨rfl, rfl⟩)
      | (go_at_call 51; refine (isALU_b HAL.out _).mono ?_; rintro e w' ⟨rfl, rfl⟩)
      | (go_at_call 55; refine (isJump_b HJU.out _).mono ?_; rintro e w' ⟨rfl, rfl⟩)
      | (go_at_call 48; refine (Mode_b HM.out _).mono ?_; rintro e w' ⟨rfl, rfl⟩)
      | (go_at_call 52; refine (ALUOp_b HAO.out _).mono ?_; rintro e w' ⟨rfl, rfl⟩)
      | (go_at_call 66; refine (SwapOp _).mono ?_; rintro e w' ⟨rfl, rfl⟩)
      | (go_at_call 54; refine (HSR.out _).mono ?_; rintro e w' ⟨rfl, rfl⟩)
      | (go_at_call 33; refine (HB.out _ (B.pow HP.out)).mono ?_; rintro e w' ⟨rfl, hb⟩; replace B := B.below hb; clear hb c0 c1 c2 c3 c4 c5; obtain ⟨c0, c1, c2, c3, c4, c5⟩ := B.cells)
      | (go_at_call 57; refine B.string.mono ?_; rintro e w' ⟨rfl, hbe⟩))
    rw [Exit.noGoto_ret]
    go_ret
    exact ⟨by rw [hT, ← catS_snoc]; rfl, hbe⟩
set_option maxHeartbeats 4000000 in
set_option maxRecDepth 100000 in
theorem IT_jcr (op dst src off c : Int) (r : ByteArray) (p : Option Addr) (w : World) (g : SGood op dst src off c r) (ht : PowTab w) (hr : RefOf p r w) (j : Int) (hj : oJump op = j) (g0 : (j == 0) = false) (g1 : (j == 128) = false) (g2 : (j == 144) = false) (g3 : (j == 224) = false) (nsw : oALU op ≠ 208) (n24 : (op == 24) = false) (k : Int) (hk : oClass op = k) (hl : cLS k = false) (ha : cALU k = false) (hu : cJump k = true) (hsr : oBit op % 65536 = 8) :
    Calls Tryd.prog 38 #[asmP op dst src off c p] w (STPost (refC (catS [sCode op ++ ⟨#[32]⟩, ⟨#[100, 115, 116, 58, 32]⟩ ++ sRegS dst ++ ⟨#[32, 111, 102, 102, 58, 32]⟩ ++ decS off ++ ⟨#[32]⟩, ⟨#[115, 114, 99, 58, 32]⟩ ++ sRegS src]) r) w) := by
  have HJ := Lib.hid (hj)
  have HCl := Lib.hid (hk)
  have HLS := Lib.hid (hl)
  have HAL := Lib.hid (ha)
  have HJU := Lib.hid (hu)
  have HSR := Lib.hid (fun W => hsr ▸ Src_ok op W (.inl (by rw [hk]; exact hu)) nsw)
  unfold STPost
  have HK := Lib.hid (fun W (h : PowTab W) => Dec_any c W g.c0 g.c1 h)
  have HO := Lib.hid (fun W (h : PowTab W) => Dec_any off W (by have := g.o0; omega) (by have := g.o1; omega) h)
  have HD := Lib.hid (fun W => reg_eq g.d0 g.d1 ▸ RegString dst W g.d0 g.d1)
  have HS := Lib.hid (fun W => reg_eq g.s0 g.s1 ▸ RegString src W g.s0 g.s1)
  have HC := Lib.hid (fun W => code_same op g.mem ▸ CodeString op W g.mem)
  have zK := decS_size g.c0 g.c1
  have zO := decS_size (n := off) (by have := g.o0; omega) (by have := g.o1; omega)
  have zD := sReg_size g.d0 g.d1
  have zS := sReg_size g.s0 g.s1
  have zC := sCode_size op g.mem
  have zR := g.rs
  have p0 := (wordOps_lt op g.mem).1
  obtain ⟨K, hK⟩ : ∃ K, decS c = K := ⟨_, rfl⟩
  obtain ⟨O, hO⟩ : ∃ O, decS off = O := ⟨_, rfl⟩
  obtain ⟨D, hD⟩ : ∃ D, sRegS dst = D := ⟨_, rfl⟩
  obtain ⟨S, hS⟩ : ∃ S, sRegS src = S := ⟨_, rfl⟩
  obtain ⟨C, hC⟩ : ∃ C, sCode op = C := ⟨_, rfl⟩
  rw [hK] at HK zK
  rw [hO] at HO zO
  rw [hD] at HD zD
  rw [hS] at HS zS
  rw [hC] at HC zC
  have HP := Lib.hid ht
  have HR := Lib.hid hr
  have n65 := op_ne65 g.mem
  have o0 := g.o0
  have o1 := g.o1
  have t3 : IntKind.i64.wrap off = off := by rw [IntKind.wrap_i64]; omega
  rw [hC]
  rw [hD]
  rw [hS]
  rw [hO]
  clear hK hO hD hS hC g ht hr hj hk hl ha hu hsr nsw
  go_enter Tryd.func38, Tryd.ntmps38
  go_wp2_with fail
  go_step3
  go_wp2_with fail
  refine calls_gen (St w (w.heap.size + 1) op dst src off c p [] 0) St.start ?_
  intro W B
  refine (JumpOp_b HJ.out W).mono ?_
  rintro e w' ⟨rfl, rfl⟩
  obtain ⟨c0, c1, c2, c3, c4, c5⟩ := B.cells
  go_wp2_with (first
    | (go_at_call 32; refine (HC.out _).mono ?_; rintro e w' ⟨rfl, hb⟩; replace B := B.below hb; clear hb c0 c1 c2 c3 c4 c5; obtain ⟨c0, c1, c2, c3, c4, c5⟩ := B.cells)
    | (go_at_call 46
       refine (B.write _ (by first | omega | (simp only [ByteArray.size_append, szS, List.size_toArray, List.length_cons, List.length_nil]; omega)) (by decide)).mono ?_
       rintro e w' ⟨rfl, B'⟩
       replace B := B'
       clear B' c0 c1 c2 c3 c4 c5
       obtain ⟨c0, c1, c2, c3, c4, c5⟩ := B.cells)
    | (go_at_call 39; with_reducible refine (HK.out _ (B.pow HP.out)).mono ?_; rintro e w' ⟨rfl, hb⟩; replace B := B.below hb; clear hb c0 c1 c2 c3 c4 c5; obtain ⟨c0, c1, c2, c3, c4, c5⟩ := B.cells)
    | (go_at_call 39; with_reducible refine (HO.out _ (B.pow HP.out)).mono ?_; rintro e w' ⟨rfl, hb⟩; replace B := B.below hb; clear hb c0 c1 c2 c3 c4 c5; obtain ⟨c0, c1, c2, c3, c4, c5⟩ := B.cells)
    | (go_at_call 30; with_reducible refine (HD.out _).mono ?_; rintro e w' ⟨rfl, rfl⟩)
    | (go_at_call 30; with_reducible refine (HS.out _).mono ?_; rintro e w' ⟨rfl, rfl⟩)
    | (go_at_call 63; refine (LoadFromMap_any _ op src _ c0 c2).mono ?_; rintro e w' ⟨rfl, nq, rfl⟩; replace B := B.drewN nq; clear c0 c1 c2 c3 c4 c5; obtain ⟨c0, c1, c2, c3, c4, c5⟩ := B.cells)
    | (go_at_call 56; refine (JumpOp_b HJ.out _).mono ?_; rintro e w' ⟨rfl, rfl⟩)
    | (go_at_call 44; refine (Class_b HCl.out _).mono ?_; rintro e w' ⟨rfl, rfl⟩)
    | (go_at_call 45; refine (isLS_b HLS.out _).mono ?_; rintro e w' ⟨rfl, rfl⟩)
    | (go_at_call 51; refine (isALU_b HAL.out _).mono ?_; rintro e w' ⟨rfl, rfl⟩)
    | (go_at_call 55; refine (isJump_b HJU.out _).mono ?_; rintro e w' ⟨rfl, rfl⟩)
    | (go_at_call 48; refine (Mode_b HM.out _).mono ?_; rintro e w' ⟨rfl, rfl⟩)
    | (go_at_call 52; refine (ALUOp_b HAO.out _).mono ?_; rintro e w' ⟨rfl, rfl⟩)
    | (go_at_call 66; refine (SwapOp _).mono ?_; rintro e w' ⟨rfl, rfl⟩)
    | (go_at_call 54; refine (HSR.out _).mono ?_; rintro e w' ⟨rfl, rfl⟩)
    | (go_at_call 33; refine (HB.out _ (B.pow HP.out)).mono ?_; rintro e w' ⟨rfl, hb⟩; replace B := B.below hb; clear hb c0 c1 c2 c3 c4 c5; obtain ⟨c0, c1, c2, c3, c4, c5⟩ := B.cells)
    )
  have BD := B.drew
  have q2 : ¬ 9223372036854775807 < 5 + D.size := (by omega); have q3 : ¬ 9223372036854775807 < 5 + D.size + 6 := (by omega); have q4 : ¬ 9223372036854775807 < 5 + D.size + 6 + O.size := (by omega); have q5 : ¬ 9223372036854775807 < 5 + D.size + 6 + O.size + 1 := (by omega)
  go_region_held (fun W' => W'.cell? ⟨w.heap.size, 0, none⟩ = some (.int .u32 op) ∧ W'.cell? ⟨w.heap.size, 1, none⟩ = some (.int .u8 dst) ∧ W'.cell? ⟨w.heap.size, 2, none⟩ = some (.int .u8 src) ∧
      W'.cell? ⟨w.heap.size, 3, none⟩ = some (.int .i16 off) ∧ W'.cell? ⟨w.heap.size, 4, none⟩ = some (.int .i64 c) ∧ W'.cell? ⟨w.heap.size, 5, none⟩ = some (.pointer p))
    (first | exact BE.cells | exact BD.cells)
    (first
      | (go_at_call 30; with_reducible refine (HD.out _).mono ?_; rintro e w' ⟨rfl, rfl⟩)
      | (go_at_call 30; with_reducible refine (HS.out _).mono ?_; rintro e w' ⟨rfl, rfl⟩)
      | (go_at_call 39; with_reducible refine (HK.out _ (BD.pow HP.out)).mono ?_; rintro e w' ⟨rfl, hb⟩; replace BD := BD.below hb; clear hb)
      | (go_at_call 39; with_reducible refine (HO.out _ (BD.pow HP.out)).mono ?_; rintro e w' ⟨rfl, hb⟩; replace BD := BD.below hb; clear hb)
      | (go_at_call 39; with_reducible refine (HF.out _ (BD.pow HP.out)).mono ?_; rintro e w' ⟨rfl, hb⟩; replace BD := BD.below hb; clear hb)
      | (go_at_call 39; with_reducible refine (HG.out _ (BD.pow HP.out)).mono ?_; rintro e w' ⟨rfl, hb⟩; replace BD := BD.below hb; clear hb)
      | (go_at_call 65; refine (mapOffset_any _ c _ (BD.cells).2.2.2.2.1).mono ?_; rintro e w' ⟨rfl, rfl⟩)
      | (go_at_call 46
         refine (BD.write _ (by first | omega | (simp only [ByteArray.size_append, szS, List.size_toArray, List.length_cons, List.length_nil]; omega)) (by decide)).mono ?_
         rintro e w' ⟨rfl, BE⟩))
  clear q2 q3 q4 q5
  replace B := BE
  clear BD BE c0 c1 c2 c3 c4 c5
  obtain ⟨c0, c1, c2, c3, c4, c5⟩ := B.cells
  go_wp2_with (first
    | (go_at_call 32; refine (HC.out _).mono ?_; rintro e w' ⟨rfl, hb⟩; replace B := B.below hb; clear hb c0 c1 c2 c3 c4 c5; obtain ⟨c0, c1, c2, c3, c4, c5⟩ := B.cells)
    | (go_at_call 46
       refine (B.write _ (by first | omega | (simp only [ByteArray.size_append, szS, List.size_toArray, List.length_cons, List.length_nil]; omega)) (by decide)).mono ?_
       rintro e w' ⟨rfl, B'⟩
       replace B := B'
       clear B' c0 c1 c2 c3 c4 c5
       obtain ⟨c0, c1, c2, c3, c4, c5⟩ := B.cells)
    | (go_at_call 39; with_reducible refine (HK.out _ (B.pow HP.out)).mono ?_; rintro e w' ⟨rfl, hb⟩; replace B := B.below hb; clear hb c0 c1 c2 c3 c4 c5; obtain ⟨c0, c1, c2, c3, c4, c5⟩ := B.cells)
    | (go_at_call 39; with_reducible refine (HO.out _ (B.pow HP.out)).mono ?_; rintro e w' ⟨rfl, hb⟩; replace B := B.below hb; clear hb c0 c1 c2 c3 c4 c5; obtain ⟨c0, c1, c2, c3, c4, c5⟩ := B.cells)
    | (go_at_call 30; with_reducible refine (HD.out _).mono ?_; rintro e w' ⟨rfl, rfl⟩)
    | (go_at_call 30; with_reducible refine (HS.out _).mono ?_; rintro e w' ⟨rfl, rfl⟩)
    | (go_at_call 63; refine (LoadFromMap_any _ op src _ c0 c2).mono ?_; rintro e w' ⟨rfl, nq, rfl⟩; replace B := B.drewN nq; clear c0 c1 c2 c3 c4 c5; obtain ⟨c0, c1, c2, c3, c4, c5⟩ := B.cells)
    | (go_at_call 56; refine (JumpOp_b HJ.out _).mono ?_; rintro e w' ⟨rfl, rfl⟩)
    | (go_at_call 44; refine (Class_b HCl.out _).mono ?_; rintro e w' ⟨rfl, rfl⟩)
    | (go_at_call 45; refine (isLS_b HLS.out _).mono ?_; rintro e w' ⟨rfl, rfl⟩)
    | (go_at_call 51; refine (isALU_b HAL.out _).mono ?_; rintro e w' ⟨rfl, rfl⟩)
    | (go_at_call 55; refine (isJump_b HJU.out _).mono ?_; rintro e w' ⟨rfl, rfl⟩)
    | (go_at_call 48; refine (Mode_b HM.out _).mono ?_; rintro e w' ⟨rfl, rfl⟩)
    | (go_at_call 52; refine (ALUOp_b HAO.out _).mono ?_; rintro e w' ⟨rfl, rfl⟩)
    | (go_at_call 66; refine (SwapOp _).mono ?_; rintro e w' ⟨rfl, rfl⟩)
    | (go_at_call 54; refine (HSR.out _).mono ?_; rintro e w' ⟨rfl, rfl⟩)
    | (go_at_call 33; refine (HB.out _ (B.pow HP.out)).mono ?_; rintro e w' ⟨rfl, hb⟩; replace B := B.below hb; clear hb c0 c1 c2 c3 c4 c5; obtain ⟨c0, c1, c2, c3, c4, c5⟩ := B.cells)
    )
  go_step3
  go_wp2_with fail
  refine (Reference_any op dst src off c p r _ (B.ref HR.out)).mono ?_
  rintro e w' ⟨rfl, hb⟩
  replace B := B.below hb
  clear hb c0 c1 c2 c3 c4 c5
  obtain ⟨c0, c1, c2, c3, c4, c5⟩ := B.cells
  rcases ref_kinds r with hr0 | ⟨hl, hbr, hT⟩
  · subst hr0
    go_wp2_with (go_at_call 57; refine B.string.mono ?_; rintro e w' ⟨rfl, hbe⟩)
    rw [Exit.noGoto_ret]
    go_ret
    exact ⟨by rw [show ∀ T, refC T ⟨#[]⟩ = T from fun _ => rfl]; rfl, hbe⟩
  · go_wp2_with (first
      | (go_at_call 67; refine (Reference_any op dst src off c p r _ (B.ref HR.out)).mono ?_; rintro e w' ⟨rfl, hb⟩; replace B := B.below hb; clear hb)
      | (go_at_call 32; refine (HC.out _).mono ?_; rintro e w' ⟨rfl, hb⟩; replace B := B.below hb; clear hb c0 c1 c2 c3 c4 c5; obtain ⟨c0, c1, c2, c3, c4, c5⟩ := B.cells)
      | (go_at_call 46
         refine (B.write _ (by first | omega | (simp only [ByteArray.size_append, szS, List.size_toArray, List.length_cons, List.length_nil]; omega)) (by decide)).mono ?_
         rintro e w' ⟨rfl, B'⟩
         replace B := B'
         clear B' c0 c1 c2 c3 c4 c5
         obtain ⟨c0, c1, c2, c3, c4, c5⟩ := B.cells)
      | (go_at_call 39; with_reducible refine (HK.out _ (B.pow HP.out)).mono ?_; rintro e w' ⟨rfl, hb⟩; replace B := B.below hb; clear hb c0 c1 c2 c3 c4 c5; obtain ⟨c0, c1, c2, c3, c4, c5⟩ := B.cells)
      | (go_at_call 39; with_reducible refine (HO.out _ (B.pow HP.out)).mono ?_; rintro e w' ⟨rfl, hb⟩; replace B := B.below hb; clear hb c0 c1 c2 c3 c4 c5; obtain ⟨c0, c1, c2, c3, c4, c5⟩ := B.cells)
      | (go_at_call 30; with_reducible refine (HD.out _).mono ?_; rintro e w' ⟨rfl, rfl⟩)
      | (go_at_call 30; with_reducible refine (HS.out _).mono ?_; rintro e w' ⟨rfl, rfl⟩)
      | (go_at_call 63; refine (LoadFromMap_any _ op src _ c0 c2).mono ?_; rintro e w' ⟨rfl, nq, rfl⟩; replace B := B.drewN nq; clear c0 c1 c2 c3 c4 c5; obtain ⟨c0, c1, c2, c3, c4, c5⟩ := B.cells)
      | (go_at_call 56; refine (JumpOp_b HJ.out _).mono ?_; rintro e w' ⟨rfl, rfl⟩)
      | (go_at_call 44; refine (Class_b HCl.out _).mono ?_; rintro e w' ⟨rfl, rfl⟩)
      | (go_at_call 45; refine (isLS_b HLS.out _).mono ?_; rintro e w' ⟨rfl, rfl⟩)
      | (go_at_call 51; refine (isALU_b HAL.out _).mono ?_; rintro e w' ⟨rfl, rfl⟩)
      | (go_at_call 55; refine (isJump_b HJU.out _).mono ?_; rintro e w' ⟨rfl, rfl⟩)
      | (go_at_call 48; refine (Mode_b HM.out _).mono ?_; rintro e w' ⟨rfl, rfl⟩)
      | (go_at_call 52; refine (ALUOp_b HAO.out _).mono ?_; rintro e w' ⟨rfl, rfl⟩)
      | (go_at_call 66; refine (SwapOp _).mono ?_; rintro e w' ⟨rfl, rfl⟩)
      | (go_at_call 54; refine (HSR.out _).mono ?_; rintro e w' ⟨rfl, rfl⟩)
      | (go_at_call 33; refine (HB.out _ (B.pow HP.out)).mono ?_; rintro e w' ⟨rfl, hb⟩; replace B := B.below hb; clear hb c0 c1 c2 c3 c4 c5; obtain ⟨c0, c1, c2, c3, c4, c5⟩ := B.cells)
      | (go_at_call 57; refine B.string.mono ?_; rintro e w' ⟨rfl, hbe⟩))
    rw [Exit.noGoto_ret]
    go_ret
    exact ⟨by rw [hT, ← catS_snoc]; rfl, hbe⟩
end Go.Proofs.YtobgjmgepckijaaDoor
