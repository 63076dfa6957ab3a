/- An atomic instruction, written by the package and by the reference; impl.Text of an instruction that refers to nothing. (Printed by wip/gentext.py.) -/
import Derived.Test.YtobgjmgepckijaaGreatDoorTextB
import Derived.Test.YtobgjmgepckijaaGreatDoorTextA
import Derived.Test.YtobgjmgepckijaaGreatDoorTextR
import Derived.Test.YtobgjmgepckijaaGreatDoorMeta
import Derived.Deep.RegionHeld
import Derived.WalkMore
import Derived.Deep.DeepCutAuto
import Derived.ScopeJumps
import Derived.Outline
namespace Go.Proofs.YtobgjmgepckijaaGreatDoor
open Go.RowKit
set_option linter.unusedVariables false
set_option linter.unusedSimpArgs false
set_option maxHeartbeats 4000000 in
set_option maxRecDepth 100000 in
theorem ST_atom (op dst src off c : Int) (r : ByteArray) (w : World) (g : SGood op dst src off c r) (hj : kJump op = false) (ha : kALU op = false) (n24 : (op == 24) = false) (hq : bits .and .i64 (op / 32) 7 = 6) :
    Calls Tryz.prog 17 #[insR op dst src off c r, fnName] w (STPost (refC (sCode op ++ (⟨#[32, 100, 115, 116, 58, 32]⟩ ++ sRegS dst ++ ⟨#[32, 115, 114, 99, 58, 32]⟩ ++ sRegS src ++ ⟨#[32, 111, 102, 102, 58, 32]⟩ ++ decS off)) r) w) := by
  have HK := Lib.hid (fun W => Decimal_any c W g.c0 g.c1)
  have HO := Lib.hid (fun W => Decimal_any off W (by have := g.o0; omega) (by have := g.o1; omega))
  have HD := Lib.hid (fun W => sReg_any dst W g.d0 g.d1)
  have HS := Lib.hid (fun W => sReg_any src W g.s0 g.s1)
  have HC := Lib.hid (fun W => SCode_any op W g.mem)
  have zK := decS_size g.c0 g.c1
  have zO := decS_size (n := off) (by have := g.o0; omega) (by have := g.o1; omega)
  have zD := sReg_size g.d0 g.d1
  have zS := sReg_size g.s0 g.s1
  have zC := sCode_size op g.mem
  have zR := g.rs
  have p0 := (wordOps_lt op g.mem).1
  obtain ⟨K, hK⟩ : ∃ K, decS c = K := ⟨_, rfl⟩
  obtain ⟨O, hO⟩ : ∃ O, decS off = O := ⟨_, rfl⟩
  obtain ⟨D, hD⟩ : ∃ D, sRegS dst = D := ⟨_, rfl⟩
  obtain ⟨S, hS⟩ : ∃ S, sRegS src = S := ⟨_, rfl⟩
  obtain ⟨C, hC⟩ : ∃ C, sCode op = C := ⟨_, rfl⟩
  rw [hK] at HK zK
  rw [hO] at HO zO
  rw [hD] at HD zD
  rw [hS] at HS zS
  rw [hC] at HC zC
  have HJ := Lib.hid (fun W => kJump_any op false hj W)
  have HA := Lib.hid (fun W => kALU_any op false ha W)
  
  unfold STPost
  rw [hC, hD, hS, hO]
  clear hK hO hD hS hC hj ha g 
  rcases ref_kinds r with rfl | ⟨hl, hbr, hT⟩
  · rw [show ∀ T, refC T ⟨#[]⟩ = T from fun _ => rfl]
    go_enter Tryz.func17, Tryz.ntmps17
    go_wp2_with (first
      | (go_at_call 49; with_reducible refine (HK.out _).mono ?_; rintro e w' ⟨rfl, rfl⟩)
      | (go_at_call 49; with_reducible refine (HO.out _).mono ?_; rintro e w' ⟨rfl, rfl⟩))
    refine wp_gen (SBox w op dst src off c ⟨#[]⟩) SBox.start ?_
    intro W hb
    obtain ⟨k0, k1, k2, k3, k4, k6⟩ := hb.cells
    go_region_held (fun W' => W'.cell? ⟨w.heap.size, 1, none⟩ = some (.int .i64 dst) ∧ W'.cell? ⟨w.heap.size, 2, none⟩ = some (.int .i64 src))
      (first | exact ⟨k1, k2⟩ | assumption)
      (first
        | (go_at_call 50; with_reducible refine (HD.out _).mono ?_; rintro e w' ⟨rfl, rfl⟩)
        | (go_at_call 50; with_reducible refine (HS.out _).mono ?_; rintro e w' ⟨rfl, rfl⟩))
    have hb := hb.drew
    obtain ⟨k0, k1, k2, k3, k4, k6⟩ := hb.cells
    go_wp2_with fail
    refine (HC.out _).mono ?_
    rintro e w1 ⟨rfl, hb1⟩
    have hb := hb.below hb1
    obtain ⟨k0, k1, k2, k3, k4, k6⟩ := hb.cells
    clear hb1
    go_wp2_with (first
      | (go_at_call 51; refine (HJ.out _).mono ?_; rintro e w' ⟨rfl, rfl⟩)
      | (go_at_call 52; refine (HA.out _).mono ?_; rintro e w' ⟨rfl, rfl⟩)
      | (go_at_call 42; refine (HCL.out _).mono ?_; rintro e w' ⟨rfl, rfl⟩)
      | (go_at_call 49; with_reducible refine (HF.out _).mono ?_; rintro e w' ⟨rfl, rfl⟩)
      | (go_at_call 49; with_reducible refine (HG.out _).mono ?_; rintro e w' ⟨rfl, rfl⟩)
      | (go_at_call 18; with_reducible refine (HN.out _).mono ?_; rintro e w' ⟨rfl, rfl⟩))
    go_ret
    exact ⟨by first | rfl | exact congrArg (fun s => Ending.returned (Value.string s)) (by simp [ByteArray.append_assoc]), hb.2⟩
  · rw [hT]
    clear hT
    go_enter Tryz.func17, Tryz.ntmps17
    go_wp2_with (first
      | (go_at_call 49; with_reducible refine (HK.out _).mono ?_; rintro e w' ⟨rfl, rfl⟩)
      | (go_at_call 49; with_reducible refine (HO.out _).mono ?_; rintro e w' ⟨rfl, rfl⟩))
    refine wp_gen (SBox w op dst src off c r) SBox.start ?_
    intro W hb
    obtain ⟨k0, k1, k2, k3, k4, k6⟩ := hb.cells
    go_region_held (fun W' => W'.cell? ⟨w.heap.size, 1, none⟩ = some (.int .i64 dst) ∧ W'.cell? ⟨w.heap.size, 2, none⟩ = some (.int .i64 src))
      (first | exact ⟨k1, k2⟩ | assumption)
      (first
        | (go_at_call 50; with_reducible refine (HD.out _).mono ?_; rintro e w' ⟨rfl, rfl⟩)
        | (go_at_call 50; with_reducible refine (HS.out _).mono ?_; rintro e w' ⟨rfl, rfl⟩))
    have hb := hb.drew
    obtain ⟨k0, k1, k2, k3, k4, k6⟩ := hb.cells
    go_wp2_with fail
    refine (HC.out _).mono ?_
    rintro e w1 ⟨rfl, hb1⟩
    have hb := hb.below hb1
    obtain ⟨k0, k1, k2, k3, k4, k6⟩ := hb.cells
    clear hb1
    go_wp2_with (first
      | (go_at_call 51; refine (HJ.out _).mono ?_; rintro e w' ⟨rfl, rfl⟩)
      | (go_at_call 52; refine (HA.out _).mono ?_; rintro e w' ⟨rfl, rfl⟩)
      | (go_at_call 42; refine (HCL.out _).mono ?_; rintro e w' ⟨rfl, rfl⟩)
      | (go_at_call 49; with_reducible refine (HF.out _).mono ?_; rintro e w' ⟨rfl, rfl⟩)
      | (go_at_call 49; with_reducible refine (HG.out _).mono ?_; rintro e w' ⟨rfl, rfl⟩)
      | (go_at_call 18; with_reducible refine (HN.out _).mono ?_; rintro e w' ⟨rfl, rfl⟩))
    go_ret
    exact ⟨by first | rfl | exact congrArg (fun s => Ending.returned (Value.string s)) (by simp [ByteArray.append_assoc]), hb.2⟩
set_option maxHeartbeats 4000000 in
set_option maxRecDepth 100000 in
theorem IT_atom (op dst src off c : Int) (r : ByteArray) (p : Option Addr) (w : World) (g : SGood op dst src off c r) (ht : PowTab w) (hr : RefOf p r w) (hj : oJump op = 255) (n24 : (op == 24) = false) (k : Int) (hk : oClass op = k) (hl : cLS k = true) (hm : oMode op = 192) :
    Calls Tryz.prog 48 #[asmP op dst src off c p] w (STPost (refC (catS [sCode op ++ ⟨#[32]⟩, ⟨#[100, 115, 116, 58, 32]⟩ ++ sRegS dst ++ ⟨#[32, 115, 114, 99, 58, 32]⟩ ++ sRegS src ++ ⟨#[32, 111, 102, 102, 58, 32]⟩ ++ decS off]) r) w) := by
  have HJ := Lib.hid (hj)
  have HCl := Lib.hid (hk)
  have HLS := Lib.hid (hl)
  have HM := Lib.hid (hm)
  unfold STPost
  have HK := Lib.hid (fun W (h : PowTab W) => Dec_any c W g.c0 g.c1 h)
  have HO := Lib.hid (fun W (h : PowTab W) => Dec_any off W (by have := g.o0; omega) (by have := g.o1; omega) h)
  have HD := Lib.hid (fun W => reg_eq g.d0 g.d1 ▸ RegString dst W g.d0 g.d1)
  have HS := Lib.hid (fun W => reg_eq g.s0 g.s1 ▸ RegString src W g.s0 g.s1)
  have HC := Lib.hid (fun W => code_same op g.mem ▸ CodeString op W g.mem)
  have zK := decS_size g.c0 g.c1
  have zO := decS_size (n := off) (by have := g.o0; omega) (by have := g.o1; omega)
  have zD := sReg_size g.d0 g.d1
  have zS := sReg_size g.s0 g.s1
  have zC := sCode_size op g.mem
  have zR := g.rs
  have p0 := (wordOps_lt op g.mem).1
  obtain ⟨K, hK⟩ : ∃ K, decS c = K := ⟨_, rfl⟩
  obtain ⟨O, hO⟩ : ∃ O, decS off = O := ⟨_, rfl⟩
  obtain ⟨D, hD⟩ : ∃ D, sRegS dst = D := ⟨_, rfl⟩
  obtain ⟨S, hS⟩ : ∃ S, sRegS src = S := ⟨_, rfl⟩
  obtain ⟨C, hC⟩ : ∃ C, sCode op = C := ⟨_, rfl⟩
  rw [hK] at HK zK
  rw [hO] at HO zO
  rw [hD] at HD zD
  rw [hS] at HS zS
  rw [hC] at HC zC
  have HP := Lib.hid ht
  have HR := Lib.hid hr
  have n65 := op_ne65 g.mem
  have o0 := g.o0
  have o1 := g.o1
  have t3 : IntKind.i64.wrap off = off := by rw [IntKind.wrap_i64]; omega
  rw [hC]
  rw [hD]
  rw [hS]
  rw [hO]
  clear hK hO hD hS hC g ht hr hj hk hl hm
  go_enter Tryz.func48, Tryz.ntmps48
  go_wp2_with fail
  go_step3
  go_wp2_with fail
  refine calls_gen (St w (w.heap.size + 1) op dst src off c p [] 0) St.start ?_
  intro W B
  refine (JumpOp_b HJ.out W).mono ?_
  rintro e w' ⟨rfl, rfl⟩
  obtain ⟨c0, c1, c2, c3, c4, c5⟩ := B.cells
  go_wp2_with (first
    | (go_at_call 40; refine (HC.out _).mono ?_; rintro e w' ⟨rfl, hb⟩; replace B := B.below hb; clear hb c0 c1 c2 c3 c4 c5; obtain ⟨c0, c1, c2, c3, c4, c5⟩ := B.cells)
    | (go_at_call 71
       refine (B.write _ (by first | omega | (simp only [ByteArray.size_append, szS, List.size_toArray, List.length_cons, List.length_nil]; omega)) (by decide)).mono ?_
       rintro e w' ⟨rfl, B'⟩
       replace B := B'
       clear B' c0 c1 c2 c3 c4 c5
       obtain ⟨c0, c1, c2, c3, c4, c5⟩ := B.cells)
    | (go_at_call 65; with_reducible refine (HK.out _ (B.pow HP.out)).mono ?_; rintro e w' ⟨rfl, hb⟩; replace B := B.below hb; clear hb c0 c1 c2 c3 c4 c5; obtain ⟨c0, c1, c2, c3, c4, c5⟩ := B.cells)
    | (go_at_call 65; with_reducible refine (HO.out _ (B.pow HP.out)).mono ?_; rintro e w' ⟨rfl, hb⟩; replace B := B.below hb; clear hb c0 c1 c2 c3 c4 c5; obtain ⟨c0, c1, c2, c3, c4, c5⟩ := B.cells)
    | (go_at_call 38; with_reducible refine (HD.out _).mono ?_; rintro e w' ⟨rfl, rfl⟩)
    | (go_at_call 38; with_reducible refine (HS.out _).mono ?_; rintro e w' ⟨rfl, rfl⟩)
    | (go_at_call 85; refine (LoadFromMap_any _ op src _ c0 c2).mono ?_; rintro e w' ⟨rfl, nq, rfl⟩; replace B := B.drewN nq; clear c0 c1 c2 c3 c4 c5; obtain ⟨c0, c1, c2, c3, c4, c5⟩ := B.cells)
    | (go_at_call 79; refine (JumpOp_b HJ.out _).mono ?_; rintro e w' ⟨rfl, rfl⟩)
    | (go_at_call 63; refine (Class_b HCl.out _).mono ?_; rintro e w' ⟨rfl, rfl⟩)
    | (go_at_call 70; refine (isLS_b HLS.out _).mono ?_; rintro e w' ⟨rfl, rfl⟩)
    | (go_at_call 74; refine (isALU_b HAL.out _).mono ?_; rintro e w' ⟨rfl, rfl⟩)
    | (go_at_call 78; refine (isJump_b HJU.out _).mono ?_; rintro e w' ⟨rfl, rfl⟩)
    | (go_at_call 64; refine (Mode_b HM.out _).mono ?_; rintro e w' ⟨rfl, rfl⟩)
    | (go_at_call 75; refine (ALUOp_b HAO.out _).mono ?_; rintro e w' ⟨rfl, rfl⟩)
    | (go_at_call 88; refine (SwapOp _).mono ?_; rintro e w' ⟨rfl, rfl⟩)
    | (go_at_call 77; refine (HSR.out _).mono ?_; rintro e w' ⟨rfl, rfl⟩)
    | (go_at_call 41; refine (HB.out _ (B.pow HP.out)).mono ?_; rintro e w' ⟨rfl, hb⟩; replace B := B.below hb; clear hb c0 c1 c2 c3 c4 c5; obtain ⟨c0, c1, c2, c3, c4, c5⟩ := B.cells)
    )
  have BD := B.drew
  have q2 : ¬ 9223372036854775807 < 5 + D.size := (by omega); have q3 : ¬ 9223372036854775807 < 5 + D.size + 6 := (by omega); have q4 : ¬ 9223372036854775807 < 5 + D.size + 6 + S.size := (by omega); have q5 : ¬ 9223372036854775807 < 5 + D.size + 6 + S.size + 6 := (by omega); have q6 : ¬ 9223372036854775807 < 5 + D.size + 6 + S.size + 6 + O.size := (by omega)
  go_region_held (fun W' => W'.cell? ⟨w.heap.size, 0, none⟩ = some (.int .u32 op) ∧ W'.cell? ⟨w.heap.size, 1, none⟩ = some (.int .u8 dst) ∧ W'.cell? ⟨w.heap.size, 2, none⟩ = some (.int .u8 src) ∧
      W'.cell? ⟨w.heap.size, 3, none⟩ = some (.int .i16 off) ∧ W'.cell? ⟨w.heap.size, 4, none⟩ = some (.int .i64 c) ∧ W'.cell? ⟨w.heap.size, 5, none⟩ = some (.pointer p))
    (first | exact BE.cells | exact BD.cells)
    (first
      | (go_at_call 38; with_reducible refine (HD.out _).mono ?_; rintro e w' ⟨rfl, rfl⟩)
      | (go_at_call 38; with_reducible refine (HS.out _).mono ?_; rintro e w' ⟨rfl, rfl⟩)
      | (go_at_call 65; with_reducible refine (HK.out _ (BD.pow HP.out)).mono ?_; rintro e w' ⟨rfl, hb⟩; replace BD := BD.below hb; clear hb)
      | (go_at_call 65; with_reducible refine (HO.out _ (BD.pow HP.out)).mono ?_; rintro e w' ⟨rfl, hb⟩; replace BD := BD.below hb; clear hb)
      | (go_at_call 65; with_reducible refine (HF.out _ (BD.pow HP.out)).mono ?_; rintro e w' ⟨rfl, hb⟩; replace BD := BD.below hb; clear hb)
      | (go_at_call 65; with_reducible refine (HG.out _ (BD.pow HP.out)).mono ?_; rintro e w' ⟨rfl, hb⟩; replace BD := BD.below hb; clear hb)
      | (go_at_call 87; refine (mapOffset_any _ c _ (BD.cells).2.2.2.2.1).mono ?_; rintro e w' ⟨rfl, rfl⟩)
      | (go_at_call 71
         refine (BD.write _ (by first | omega | (simp only [ByteArray.size_append, szS, List.size_toArray, List.length_cons, List.length_nil]; omega)) (by decide)).mono ?_
         rintro e w' ⟨rfl, BE⟩))
  clear q2 q3 q4 q5 q6
  replace B := BE
  clear BD BE c0 c1 c2 c3 c4 c5
  obtain ⟨c0, c1, c2, c3, c4, c5⟩ := B.cells
  go_wp2_with (first
    | (go_at_call 40; refine (HC.out _).mono ?_; rintro e w' ⟨rfl, hb⟩; replace B := B.below hb; clear hb c0 c1 c2 c3 c4 c5; obtain ⟨c0, c1, c2, c3, c4, c5⟩ := B.cells)
    | (go_at_call 71
       refine (B.write _ (by first | omega | (simp only [ByteArray.size_append, szS, List.size_toArray, List.length_cons, List.length_nil]; omega)) (by decide)).mono ?_
       rintro e w' ⟨rfl, B'⟩
       replace B := B'
       clear B' c0 c1 c2 c3 c4 c5
       obtain ⟨c0, c1, c2, c3, c4, c5⟩ := B.cells)
    | (go_at_call 65; with_reducible refine (HK.out _ (B.pow HP.out)).mono ?_; rintro e w' ⟨rfl, hb⟩; replace B := B.below hb; clear hb c0 c1 c2 c3 c4 c5; obtain ⟨c0, c1, c2, c3, c4, c5⟩ := B.cells)
    | (go_at_call 65; with_reducible refine (HO.out _ (B.pow HP.out)).mono ?_; rintro e w' ⟨rfl, hb⟩; replace B := B.below hb; clear hb c0 c1 c2 c3 c4 c5; obtain ⟨c0, c1, c2, c3, c4, c5⟩ := B.cells)
    | (go_at_call 38; with_reducible refine (HD.out _).mono ?_; rintro e w' ⟨rfl, rfl⟩)
    | (go_at_call 38; with_reducible refine (HS.out _).mono ?_; rintro e w' ⟨rfl, rfl⟩)
    | (go_at_call 85; refine (LoadFromMap_any _ op src _ c0 c2).mono ?_; rintro e w' ⟨rfl, nq, rfl⟩; replace B := B.drewN nq; clear c0 c1 c2 c3 c4 c5; obtain ⟨c0, c1, c2, c3, c4, c5⟩ := B.cells)
    | (go_at_call 79; refine (JumpOp_b HJ.out _).mono ?_; rintro e w' ⟨rfl, rfl⟩)
    | (go_at_call 63; refine (Class_b HCl.out _).mono ?_; rintro e w' ⟨rfl, rfl⟩)
    | (go_at_call 70; refine (isLS_b HLS.out _).mono ?_; rintro e w' ⟨rfl, rfl⟩)
    | (go_at_call 74; refine (isALU_b HAL.out _).mono ?_; rintro e w' ⟨rfl, rfl⟩)
    | (go_at_call 78; refine (isJump_b HJU.out _).mono ?_; rintro e w' ⟨rfl, rfl⟩)
    | (go_at_call 64; refine (Mode_b HM.out _).mono ?_; rintro e w' ⟨rfl, rfl⟩)
    | (go_at_call 75; refine (ALUOp_b HAO.out _).mono ?_; rintro e w' ⟨rfl, rfl⟩)
    | (go_at_call 88; refine (SwapOp _).mono ?_; rintro e w' ⟨rfl, rfl⟩)
    | (go_at_call 77; refine (HSR.out _).mono ?_; rintro e w' ⟨rfl, rfl⟩)
    | (go_at_call 41; refine (HB.out _ (B.pow HP.out)).mono ?_; rintro e w' ⟨rfl, hb⟩; replace B := B.below hb; clear hb c0 c1 c2 c3 c4 c5; obtain ⟨c0, c1, c2, c3, c4, c5⟩ := B.cells)
    )
  go_step3
  go_wp2_with fail
  refine (Reference_any op dst src off c p r _ (B.ref HR.out)).mono ?_
  rintro e w' ⟨rfl, hb⟩
  replace B := B.below hb
  clear hb c0 c1 c2 c3 c4 c5
  obtain ⟨c0, c1, c2, c3, c4, c5⟩ := B.cells
  rcases ref_kinds r with hr0 | ⟨hl, hbr, hT⟩
  · subst hr0
    go_wp2_with (go_at_call 80; refine B.string.mono ?_; rintro e w' ⟨rfl, hbe⟩)
    rw [Exit.noGoto_ret]
    go_ret
    exact ⟨by rw [show ∀ T, refC T ⟨#[]⟩ = T from fun _ => rfl]; rfl, hbe⟩
  · go_wp2_with (first
      | (go_at_call 61; refine (Reference_any op dst src off c p r _ (B.ref HR.out)).mono ?_; rintro e w' ⟨rfl, hb⟩; replace B := B.below hb; clear hb)
      | (go_at_call 40; refine (HC.out _).mono ?_; rintro e w' ⟨rfl, hb⟩; replace B := B.below hb; clear hb c0 c1 c2 c3 c4 c5; obtain ⟨c0, c1, c2, c3, c4, c5⟩ := B.cells)
      | (go_at_call 71
         refine (B.write _ (by first | omega | (simp only [ByteArray.size_append, szS, List.size_toArray, List.length_cons, List.length_nil]; omega)) (by decide)).mono ?_
         rintro e w' ⟨rfl, B'⟩
         replace B := B'
         clear B' c0 c1 c2 c3 c4 c5
         obtain ⟨c0, c1, c2, c3, c4, c5⟩ := B.cells)
      | (go_at_call 65; with_reducible refine (HK.out _ (B.pow HP.out)).mono ?_; rintro e w' ⟨rfl, hb⟩; replace B := B.below hb; clear hb c0 c1 c2 c3 c4 c5; obtain ⟨c0, c1, c2, c3, c4, c5⟩ := B.cells)
      | (go_at_call 65; with_reducible refine (HO.out _ (B.pow HP.out)).mono ?_; rintro e w' ⟨rfl, hb⟩; replace B := B.below hb; clear hb c0 c1 c2 c3 c4 c5; obtain ⟨c0, c1, c2, c3, c4, c5⟩ := B.cells)
      | (go_at_call 38; with_reducible refine (HD.out _).mono ?_; rintro e w' ⟨rfl, rfl⟩)
      | (go_at_call 38; with_reducible refine (HS.out _).mono ?_; rintro e w' ⟨rfl, rfl⟩)
      | (go_at_call 85; refine (LoadFromMap_any _ op src _ c0 c2).mono ?_; rintro e w' ⟨rfl, nq, rfl⟩; replace B := B.drewN nq; clear c0 c1 c2 c3 c4 c5; obtain ⟨c0, c1, c2, c3, c4, c5⟩ := B.cells)
      | (go_at_call 79; refine (JumpOp_b HJ.out _).mono ?_; rintro e w' ⟨rfl, rfl⟩)
      | (go_at_call 63; refine (Class_b HCl.out _).mono ?_; rintro e w' ⟨rfl, rfl⟩)
      | (go_at_call 70; refine (isLS_b HLS.out _).mono ?_; rintro e w' ⟨rfl, rfl⟩)
      | (go_at_call 74; refine (isALU_b HAL.out _).mono ?_; rintro e w' ⟨rfl, rfl⟩)
      | (go_at_call 78; refine (isJump_b HJU.out _).mono ?_; rintro e w' ⟨rfl, rfl⟩)
      | (go_at_call 64; refine (Mode_b HM.out _).mono ?_; rintro e w' ⟨rfl, rfl⟩)
      | (go_at_call 75; refine (ALUOp_b HAO.out _).mono ?_; rintro e w' ⟨rfl, rfl⟩)
      | (go_at_call 88; refine (SwapOp _).mono ?_; rintro e w' ⟨rfl, rfl⟩)
      | (go_at_call 77; refine (HSR.out _).mono ?_; rintro e w' ⟨rfl, rfl⟩)
      | (go_at_call 41; refine (HB.out _ (B.pow HP.out)).mono ?_; rintro e w' ⟨rfl, hb⟩; replace B := B.below hb; clear hb c0 c1 c2 c3 c4 c5; obtain ⟨c0, c1, c2, c3, c4, c5⟩ := B.cells)
      | (go_at_call 80; refine B.string.mono ?_; rintro e w' ⟨rfl, hbe⟩))
    rw [Exit.noGoto_ret]
    go_ret
    exact ⟨by rw [hT, ← catS_snoc]; rfl, hbe⟩
theorem bapp_nil (a : ByteArray) : a ++ ⟨#[]⟩ = a := ByteArray.append_empty
theorem l_dst : (⟨#[32, 100, 115, 116, 58, 32]⟩ : ByteArray) = ⟨#[32]⟩ ++ ⟨#[100, 115, 116, 58, 32]⟩ := rfl
theorem p_atom (C D S O : ByteArray) : catS [C ++ ⟨#[32]⟩, ⟨#[100, 115, 116, 58, 32]⟩ ++ D ++ ⟨#[32, 115, 114, 99, 58, 32]⟩ ++ S ++ ⟨#[32, 111, 102, 102, 58, 32]⟩ ++ O] = C ++ (⟨#[32, 100, 115, 116, 58, 32]⟩ ++ D ++ ⟨#[32, 115, 114, 99, 58, 32]⟩ ++ S ++ ⟨#[32, 111, 102, 102, 58, 32]⟩ ++ O) := by
  simp only [catS_cons, catS_nil, bapp_nil, l_dst, ByteArray.append_assoc]
theorem atom_f : ∀ op ∈ atomOps, kJump op = false ∧ kALU op = false ∧ (op == 24) = false ∧ oJump op = 255 ∧ cLS (oClass op) = true ∧ bits .and .i64 (op / 32) 7 = 6 ∧ oMode op = 192 := by decide +kernel
/-- an atomic instruction's text -/
def atomT (op dst src off : Int) : ByteArray := sCode op ++ (⟨#[32, 100, 115, 116, 58, 32]⟩ ++ sRegS dst ++ ⟨#[32, 115, 114, 99, 58, 32]⟩ ++ sRegS src ++ ⟨#[32, 111, 102, 102, 58, 32]⟩ ++ decS off)
theorem ITO {op dst src off c : Int} (g : SGood op dst src off c ⟨#[]⟩) (h : op ∈ atomOps) (w : World) (ht : PowTab w) : Calls Tryz.prog 48 #[asmV op dst src off c] w (STPost (atomT op dst src off) w) := by
  obtain ⟨f1, f2, f3, f4, f5, f6, f7⟩ := atom_f op h
  have hT := IT_atom op dst src off c ⟨#[]⟩ none w g ht (.inl ⟨rfl, rfl⟩) f4 f3 _ rfl f5 f7
  rw [p_atom] at hT
  exact hT
theorem STO {op dst src off c : Int} (g : SGood op dst src off c ⟨#[]⟩) (h : op ∈ atomOps) (w : World) : Calls Tryz.prog 17 #[insV op dst src off c, fnName] w (STPost (atomT op dst src off) w) := by
  obtain ⟨f1, f2, f3, f4, f5, f6, f7⟩ := atom_f op h
  exact ST_atom op dst src off c ⟨#[]⟩ w g f1 f2 f3 f6
set_option maxHeartbeats 4000000 in
set_option maxRecDepth 100000 in
theorem implText0 (op dst src off c : Int) (w : World) (h0 : 0 ≤ op) (h1 : op < 131072) (g : SGood op dst src off c ⟨#[]⟩) (h : op ∈ atomOps) (ht : PowTab w) :
    Calls Tryz.prog 16 #[insV op dst src off c] w (STPost (atomT op dst src off) w) := by
  have HT := Lib.hid (fun W (hp : PowTab W) => ITO g h W hp)
  have HF := Lib.hid (fun W => fits_any op dst src off c ⟨#[]⟩ ⟨#[]⟩ W h0 h1 g.d0 g.d1 g.s0 g.s1 g.o0 g.o1)
  have HI := Lib.hid (fun W => implInsOf_any op dst src off c W h0 h1 g.d0 g.d1 g.s0 g.s1 g.o0 g.o1)
  have HP := Lib.hid ht
  unfold STPost at HT ⊢
  obtain ⟨T, hT⟩ : ∃ T, atomT op dst src off = T := ⟨_, rfl⟩
  rw [hT] at HT ⊢
  clear ht g h hT
  go_enter Tryz.func16, Tryz.ntmps16
  go_wp2_with (go_at_call 46; refine (HF.out _).mono ?_; rintro e w' ⟨rfl, rfl⟩)
  refine (HI.out _).mono ?_
  rintro e w2 ⟨rfl, hw2⟩
  have hb' : Below w.heap.size w w2 := by rw [← hw2]; (repeat (first | exact Below.refl _ _ | apply bel_al))
  clear hw2
  go_wp2_with fail
  refine (HT.out _ (pow_below HP.out hb')).mono ?_
  rintro e w3 ⟨rfl, hb3⟩
  go_wp2_with fail
  go_ret
  exact ⟨rfl, bel_tr hb' hb3⟩
end Go.Proofs.YtobgjmgepckijaaGreatDoor
