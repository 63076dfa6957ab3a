/- Instruction.String, walked: loads from maps (which go to the label). -/
import Derived.Test.YtobgjmgepckijaaDoorTextB
import Derived.Deep.RegionHeld
import Derived.WalkMore
import Derived.ScopeJumps
import Derived.Outline
namespace Go.Proofs.YtobgjmgepckijaaDoor
open Go.RowKit
set_option linter.unusedVariables false
set_option linter.unusedSimpArgs false
/-- a scope whose run goes forward to its one label: what stands behind the label is walked from there -/
theorem wp_scope_once {P : Program} {c rest : Code} {l : Nat} {Q : Exit → Act → World → Prop} {a : Act} {w : World} (hf : findLabel c l = some rest)
    (h : c.wp P (Exit.jump l (fun a' w' => rest.wp P (Exit.noGoto Q) a' w') Q) a w) : (Code.scope c).wp P Q a w :=
  wp_scope_jumps l _ (fun _ _ => 0) hf h fun a w hJ => wp_mono hJ fun e a w hq => by
    cases e with
    | goto l' => exact hq.elim
    | normal => exact hq
    | exit id => exact hq
    | ret => exact hq
    | panic ch => exact hq
    | outgrown => exact hq
set_option maxHeartbeats 4000000 in
set_option maxRecDepth 100000 in
theorem IT_ptr (op dst src off c : Int) (r : ByteArray) (p : Option Addr) (w : World) (g : SGood op dst src off c r) (ht : PowTab w) (hr : RefOf p r w) (hj : oJump op = 255) (n24 : (op == 24) = true) (hs : (src == 1) = true) :
    Calls Tryd.prog 38 #[asmP op dst src off c p] w (STPost (refC (catS [⟨#[76, 111, 97, 100, 77, 97, 112, 80, 116, 114, 32, 100, 115, 116, 58, 32]⟩ ++ sRegS dst ++ ⟨#[32, 102, 100, 58, 32]⟩ ++ decS (IntKind.i32.wrap c)]) r) w) := by
  have HJ := Lib.hid hj
  obtain ⟨q, hq⟩ : ∃ q, IntKind.i32.wrap c = q := ⟨_, rfl⟩
  have q0 : -2147483648 ≤ q ∧ q ≤ 2147483647 := by rw [← hq, IntKind.wrap_i32]; omega
  have HF := Lib.hid (fun W (h : PowTab W) => Dec_any q W (by omega) (by omega) h)
  have zF := decS_size (n := q) (by omega) (by omega)
  unfold STPost
  rw [hq]
  have HK := Lib.hid (fun W (h : PowTab W) => Dec_any c W g.c0 g.c1 h)
  have HO := Lib.hid (fun W (h : PowTab W) => Dec_any off W (by have := g.o0; omega) (by have := g.o1; omega) h)
  have HD := Lib.hid (fun W => reg_eq g.d0 g.d1 ▸ RegString dst W g.d0 g.d1)
  have HS := Lib.hid (fun W => reg_eq g.s0 g.s1 ▸ RegString src W g.s0 g.s1)
  have HC := Lib.hid (fun W => code_same op g.mem ▸ CodeString op W g.mem)
  have zK := decS_size g.c0 g.c1
  have zO := decS_size (n := off) (by have := g.o0; omega) (by have := g.o1; omega)
  have zD := sReg_size g.d0 g.d1
  have zS := sReg_size g.s0 g.s1
  have zC := sCode_size op g.mem
  have zR := g.rs
  have p0 := (wordOps_lt op g.mem).1
  obtain ⟨K, hK⟩ : ∃ K, decS c = K := ⟨_, rfl⟩
  obtain ⟨O, hO⟩ : ∃ O, decS off = O := ⟨_, rfl⟩
  obtain ⟨D, hD⟩ : ∃ D, sRegS dst = D := ⟨_, rfl⟩
  obtain ⟨S, hS⟩ : ∃ S, sRegS src = S := ⟨_, rfl⟩
  obtain ⟨C, hC⟩ : ∃ C, sCode op = C := ⟨_, rfl⟩
  rw [hK] at HK zK
  rw [hO] at HO zO
  rw [hD] at HD zD
  rw [hS] at HS zS
  rw [hC] at HC zC
  have HP := Lib.hid ht
  have HR := Lib.hid hr
  have n65 := op_ne65 g.mem
  have o0 := g.o0
  have o1 := g.o1
  have t3 : IntKind.i64.wrap off = off := by rw [IntKind.wrap_i64]; omega
  rw [hD]
  obtain ⟨F, hF⟩ : ∃ F, decS q = F := ⟨_, rfl⟩
  rw [hF] at HF zF
  rw [hF]
  have HQ := Lib.hid hq
  clear hF hq
  clear hK hO hD hS hC g ht hr hj
  go_enter Tryd.func38, Tryd.ntmps38
  go_wp2_with fail
  refine wp_scope_once (l := 0) rfl ?_
  go_wp2_with fail
  refine calls_gen (St w (w.heap.size + 1) op dst src off c p [] 0) St.start ?_
  intro W B
  refine (JumpOp_b HJ.out W).mono ?_
  rintro e w' ⟨rfl, rfl⟩
  obtain ⟨c0, c1, c2, c3, c4, c5⟩ := B.cells
  go_wp2_with (first
    | (go_at_call 32; refine (HC.out _).mono ?_; rintro e w' ⟨rfl, hb⟩; replace B := B.below hb; clear hb c0 c1 c2 c3 c4 c5; obtain ⟨c0, c1, c2, c3, c4, c5⟩ := B.cells)
    | (go_at_call 46
       refine (B.write _ (by first | omega | (simp only [ByteArray.size_append, szS, List.size_toArray, List.length_cons, List.length_nil]; omega)) (by decide)).mono ?_
       rintro e w' ⟨rfl, B'⟩
       replace B := B'
       clear B' c0 c1 c2 c3 c4 c5
       obtain ⟨c0, c1, c2, c3, c4, c5⟩ := B.cells)
    | (go_at_call 39; with_reducible refine (HK.out _ (B.pow HP.out)).mono ?_; rintro e w' ⟨rfl, hb⟩; replace B := B.below hb; clear hb c0 c1 c2 c3 c4 c5; obtain ⟨c0, c1, c2, c3, c4, c5⟩ := B.cells)
    | (go_at_call 39; with_reducible refine (HO.out _ (B.pow HP.out)).mono ?_; rintro e w' ⟨rfl, hb⟩; replace B := B.below hb; clear hb c0 c1 c2 c3 c4 c5; obtain ⟨c0, c1, c2, c3, c4, c5⟩ := B.cells)
    | (go_at_call 30; with_reducible refine (HD.out _).mono ?_; rintro e w' ⟨rfl, rfl⟩)
    | (go_at_call 30; with_reducible refine (HS.out _).mono ?_; rintro e w' ⟨rfl, rfl⟩)
    | (go_at_call 63; refine (LoadFromMap_any _ op src _ c0 c2).mono ?_; rintro e w' ⟨rfl, nq, rfl⟩; replace B := B.drewN nq; clear c0 c1 c2 c3 c4 c5; obtain ⟨c0, c1, c2, c3, c4, c5⟩ := B.cells)
    | (go_at_call 56; refine (JumpOp_b HJ.out _).mono ?_; rintro e w' ⟨rfl, rfl⟩)
    | (go_at_call 44; refine (Class_b HCl.out _).mono ?_; rintro e w' ⟨rfl, rfl⟩)
    | (go_at_call 45; refine (isLS_b HLS.out _).mono ?_; rintro e w' ⟨rfl, rfl⟩)
    | (go_at_call 51; refine (isALU_b HAL.out _).mono ?_; rintro e w' ⟨rfl, rfl⟩)
    | (go_at_call 55; refine (isJump_b HJU.out _).mono ?_; rintro e w' ⟨rfl, rfl⟩)
    | (go_at_call 48; refine (Mode_b HM.out _).mono ?_; rintro e w' ⟨rfl, rfl⟩)
    | (go_at_call 52; refine (ALUOp_b HAO.out _).mono ?_; rintro e w' ⟨rfl, rfl⟩)
    | (go_at_call 66; refine (SwapOp _).mono ?_; rintro e w' ⟨rfl, rfl⟩)
    | (go_at_call 54; refine (HSR.out _).mono ?_; rintro e w' ⟨rfl, rfl⟩)
    | (go_at_call 33; refine (HB.out _ (B.pow HP.out)).mono ?_; rintro e w' ⟨rfl, hb⟩; replace B := B.below hb; clear hb c0 c1 c2 c3 c4 c5; obtain ⟨c0, c1, c2, c3, c4, c5⟩ := B.cells)
    | (go_at_call 64; refine (mapFd_any _ c _ c4).mono ?_; rintro e w' ⟨rfl, rfl⟩; rw [HQ.out])
    | (go_at_call 65; refine (mapOffset_any _ c _ c4).mono ?_; rintro e w' ⟨rfl, rfl⟩; rw [HQ2.out])
    | (go_at_call 39; with_reducible refine (HF.out _ (B.pow HP.out)).mono ?_; rintro e w' ⟨rfl, hb⟩; replace B := B.below hb; clear hb c0 c1 c2 c3 c4 c5; obtain ⟨c0, c1, c2, c3, c4, c5⟩ := B.cells)
    | (go_at_call 39; with_reducible refine (HG.out _ (B.pow HP.out)).mono ?_; rintro e w' ⟨rfl, hb⟩; replace B := B.below hb; clear hb c0 c1 c2 c3 c4 c5; obtain ⟨c0, c1, c2, c3, c4, c5⟩ := B.cells)
    )
  go_step3
  refine show 0 = 0 ∧ _ from ⟨rfl, ?_⟩
  dsimp only
  go_wp2_with fail
  refine (Reference_any op dst src off c p r _ (B.ref HR.out)).mono ?_
  rintro e w' ⟨rfl, hb⟩
  replace B := B.below hb
  clear hb c0 c1 c2 c3 c4 c5
  obtain ⟨c0, c1, c2, c3, c4, c5⟩ := B.cells
  rcases ref_kinds r with hr0 | ⟨hl, hbr, hT⟩
  · subst hr0
    go_wp2_with (go_at_call 57; refine B.string.mono ?_; rintro e w' ⟨rfl, hbe⟩)
    rw [Exit.noGoto_ret]
    go_ret
    exact ⟨by rw [show ∀ T, refC T ⟨#[]⟩ = T from fun _ => rfl]; rfl, hbe⟩
  · go_wp2_with (first
      | (go_at_call 67; refine (Reference_any op dst src off c p r _ (B.ref HR.out)).mono ?_; rintro e w' ⟨rfl, hb⟩; replace B := B.below hb; clear hb)
      | (go_at_call 32; refine (HC.out _).mono ?_; rintro e w' ⟨rfl, hb⟩; replace B := B.below hb; clear hb c0 c1 c2 c3 c4 c5; obtain ⟨c0, c1, c2, c3, c4, c5⟩ := B.cells)
      | (go_at_call 46
         refine (B.write _ (by first | omega | (simp only [ByteArray.size_append, szS, List.size_toArray, List.length_cons, List.length_nil]; omega)) (by decide)).mono ?_
         rintro e w' ⟨rfl, B'⟩
         replace B := B'
         clear B' c0 c1 c2 c3 c4 c5
         obtain ⟨c0, c1, c2, c3, c4, c5⟩ := B.cells)
      | (go_at_call 39; with_reducible refine (HK.out _ (B.pow HP.out)).mono ?_; rintro e w' ⟨rfl, hb⟩; replace B := B.below hb; clear hb c0 c1 c2 c3 c4 c5; obtain ⟨c0, c1, c2, c3, c4, c5⟩ := B.cells)
      | (go_at_call 39; with_reducible refine (HO.out _ (B.pow HP.out)).mono ?_; rintro e w' ⟨rfl, hb⟩; replace B := B.below hb; clear hb c0 c1 c2 c3 c4 c5; obtain ⟨c0, c1, c2, c3, c4, c5⟩ := B.cells)
      | (go_at_call 30; with_reducible refine (HD.out _).mono ?_; rintro e w' ⟨rfl, rfl⟩)
      | (go_at_call 30; with_reducible refine (HS.out _).mono ?_; rintro e w' ⟨rfl, rfl⟩)
      | (go_at_call 63; refine (LoadFromMap_any _ op src _ c0 c2).mono ?_; rintro e w' ⟨rfl, nq, rfl⟩; replace B := B.drewN nq; clear c0 c1 c2 c3 c4 c5; obtain ⟨c0, c1, c2, c3, c4, c5⟩ := B.cells)
      | (go_at_call 56; refine (JumpOp_b HJ.out _).mono ?_; rintro e w' ⟨rfl, rfl⟩)
      | (go_at_call 44; refine (Class_b HCl.out _).mono ?_; rintro e w' ⟨rfl, rfl⟩)
      | (go_at_call 45; refine (isLS_b HLS.out _).mono ?_; rintro e w' ⟨rfl, rfl⟩)
      | (go_at_call 51; refine (isALU_b HAL.out _).mono ?_; rintro e w' ⟨rfl, rfl⟩)
      | (go_at_call 55; refine (isJump_b HJU.out _).mono ?_; rintro e w' ⟨rfl, rfl⟩)
      | (go_at_call 48; refine (Mode_b HM.out _).mono ?_; rintro e w' ⟨rfl, rfl⟩)
      | (go_at_call 52; refine (ALUOp_b HAO.out _).mono ?_; rintro e w' ⟨rfl, rfl⟩)
      | (go_at_call 66; refine (SwapOp _).mono ?_; rintro e w' ⟨rfl, rfl⟩)
      | (go_at_call 54; refine (HSR.out _).mono ?_; rintro e w' ⟨rfl, rfl⟩)
      | (go_at_call 33; refine (HB.out _ (B.pow HP.out)).mono ?_; rintro e w' ⟨rfl, hb⟩; replace B := B.below hb; clear hb c0 c1 c2 c3 c4 c5; obtain ⟨c0, c1, c2, c3, c4, c5⟩ := B.cells)
      | (go_at_call 57; refine B.string.mono ?_; rintro e w' ⟨rfl, hbe⟩))
    rw [Exit.noGoto_ret]
    go_ret
    exact ⟨by rw [hT, ← catS_snoc]; rfl, hbe⟩
set_option maxHeartbeats 4000000 in
set_option maxRecDepth 100000 in
theorem IT_val (op dst src off c : Int) (r : ByteArray) (p : Option Addr) (w : World) (g : SGood op dst src off c r) (ht : PowTab w) (hr : RefOf p r w) (hj : oJump op = 255) (n24 : (op == 24) = true) (hs : (src == 1) = false) (hs2 : (src == 2) = true) :
    Calls Tryd.prog 38 #[asmP op dst src off c p] w (STPost (refC (catS [⟨#[76, 111, 97, 100, 77, 97, 112, 86, 97, 108, 117, 101, 32, 100, 115, 116, 58, 32]⟩ ++ sRegS dst ++ ⟨#[44, 32, 102, 100, 58, 32]⟩ ++ decS (IntKind.i32.wrap c) ++ ⟨#[32, 111, 102, 102, 58, 32]⟩ ++ decS (IntKind.u32.wrap (IntKind.u64.wrap c / 4294967296))]) r) w) := by
  have HJ := Lib.hid hj
  obtain ⟨q, hq⟩ : ∃ q, IntKind.i32.wrap c = q := ⟨_, rfl⟩
  have q0 : -2147483648 ≤ q ∧ q ≤ 2147483647 := by rw [← hq, IntKind.wrap_i32]; omega
  have HF := Lib.hid (fun W (h : PowTab W) => Dec_any q W (by omega) (by omega) h)
  have zF := decS_size (n := q) (by omega) (by omega)
  obtain ⟨v, hv⟩ : ∃ v, IntKind.u32.wrap (IntKind.u64.wrap c / 4294967296) = v := ⟨_, rfl⟩
  have v0 : 0 ≤ v ∧ v < 4294967296 := by rw [← hv, IntKind.wrap_u32]; omega
  have HG := Lib.hid (fun W (h : PowTab W) => Dec_any v W (by omega) (by omega) h)
  have zG := decS_size (n := v) (by omega) (by omega)
  have t4 : IntKind.i64.wrap v = v := by rw [IntKind.wrap_i64]; omega
  unfold STPost
  rw [hq, hv]
  have HK := Lib.hid (fun W (h : PowTab W) => Dec_any c W g.c0 g.c1 h)
  have HO := Lib.hid (fun W (h : PowTab W) => Dec_any off W (by have := g.o0; omega) (by have := g.o1; omega) h)
  have HD := Lib.hid (fun W => reg_eq g.d0 g.d1 ▸ RegString dst W g.d0 g.d1)
  have HS := Lib.hid (fun W => reg_eq g.s0 g.s1 ▸ RegString src W g.s0 g.s1)
  have HC := Lib.hid (fun W => code_same op g.mem ▸ CodeString op W g.mem)
  have zK := decS_size g.c0 g.c1
  have zO := decS_size (n := off) (by have := g.o0; omega) (by have := g.o1; omega)
  have zD := sReg_size g.d0 g.d1
  have zS := sReg_size g.s0 g.s1
  have zC := sCode_size op g.mem
  have zR := g.rs
  have p0 := (wordOps_lt op g.mem).1
  obtain ⟨K, hK⟩ : ∃ K, decS c = K := ⟨_, rfl⟩
  obtain ⟨O, hO⟩ : ∃ O, decS off = O := ⟨_, rfl⟩
  obtain ⟨D, hD⟩ : ∃ D, sRegS dst = D := ⟨_, rfl⟩
  obtain ⟨S, hS⟩ : ∃ S, sRegS src = S := ⟨_, rfl⟩
  obtain ⟨C, hC⟩ : ∃ C, sCode op = C := ⟨_, rfl⟩
  rw [hK] at HK zK
  rw [hO] at HO zO
  rw [hD] at HD zD
  rw [hS] at HS zS
  rw [hC] at HC zC
  have HP := Lib.hid ht
  have HR := Lib.hid hr
  have n65 := op_ne65 g.mem
  have o0 := g.o0
  have o1 := g.o1
  have t3 : IntKind.i64.wrap off = off := by rw [IntKind.wrap_i64]; omega
  rw [hD]
  obtain ⟨F, hF⟩ : ∃ F, decS q = F := ⟨_, rfl⟩
  rw [hF] at HF zF
  rw [hF]
  have HQ := Lib.hid hq
  clear hF hq
  obtain ⟨G, hG⟩ : ∃ G, decS v = G := ⟨_, rfl⟩
  rw [hG] at HG zG
  rw [hG]
  have HQ2 := Lib.hid hv
  clear hK hO hD hS hC g ht hr hj hG hv
  go_enter Tryd.func38, Tryd.ntmps38
  go_wp2_with fail
  refine wp_scope_once (l := 0) rfl ?_
  go_wp2_with fail
  refine calls_gen (St w (w.heap.size + 1) op dst src off c p [] 0) St.start ?_
  intro W B
  refine (JumpOp_b HJ.out W).mono ?_
  rintro e w' ⟨rfl, rfl⟩
  obtain ⟨c0, c1, c2, c3, c4, c5⟩ := B.cells
  go_wp2_with (first
    | (go_at_call 32; refine (HC.out _).mono ?_; rintro e w' ⟨rfl, hb⟩; replace B := B.below hb; clear hb c0 c1 c2 c3 c4 c5; obtain ⟨c0, c1, c2, c3, c4, c5⟩ := B.cells)
    | (go_at_call 46
       refine (B.write _ (by first | omega | (simp only [ByteArray.size_append, szS, List.size_toArray, List.length_cons, List.length_nil]; omega)) (by decide)).mono ?_
       rintro e w' ⟨rfl, B'⟩
       replace B := B'
       clear B' c0 c1 c2 c3 c4 c5
       obtain ⟨c0, c1, c2, c3, c4, c5⟩ := B.cells)
    | (go_at_call 39; with_reducible refine (HK.out _ (B.pow HP.out)).mono ?_; rintro e w' ⟨rfl, hb⟩; replace B := B.below hb; clear hb c0 c1 c2 c3 c4 c5; obtain ⟨c0, c1, c2, c3, c4, c5⟩ := B.cells)
    | (go_at_call 39; with_reducible refine (HO.out _ (B.pow HP.out)).mono ?_; rintro e w' ⟨rfl, hb⟩; replace B := B.below hb; clear hb c0 c1 c2 c3 c4 c5; obtain ⟨c0, c1, c2, c3, c4, c5⟩ := B.cells)
    | (go_at_call 30; with_reducible refine (HD.out _).mono ?_; rintro e w' ⟨rfl, rfl⟩)
    | (go_at_call 30; with_reducible refine (HS.out _).mono ?_; rintro e w' ⟨rfl, rfl⟩)
    | (go_at_call 63; refine (LoadFromMap_any _ op src _ c0 c2).mono ?_; rintro e w' ⟨rfl, nq, rfl⟩; replace B := B.drewN nq; clear c0 c1 c2 c3 c4 c5; obtain ⟨c0, c1, c2, c3, c4, c5⟩ := B.cells)
    | (go_at_call 56; refine (JumpOp_b HJ.out _).mono ?_; rintro e w' ⟨rfl, rfl⟩)
    | (go_at_call 44; refine (Class_b HCl.out _).mono ?_; rintro e w' ⟨rfl, rfl⟩)
    | (go_at_call 45; refine (isLS_b HLS.out _).mono ?_; rintro e w' ⟨rfl, rfl⟩)
    | (go_at_call 51; refine (isALU_b HAL.out _).mono ?_; rintro e w' ⟨rfl, rfl⟩)
    | (go_at_call 55; refine (isJump_b HJU.out _).mono ?_; rintro e w' ⟨rfl, rfl⟩)
    | (go_at_call 48; refine (Mode_b HM.out _).mono ?_; rintro e w' ⟨rfl, rfl⟩)
    | (go_at_call 52; refine (ALUOp_b HAO.out _).mono ?_; rintro e w' ⟨rfl, rfl⟩)
    | (go_at_call 66; refine (SwapOp _).mono ?_; rintro e w' ⟨rfl, rfl⟩)
    | (go_at_call 54; refine (HSR.out _).mono ?_; rintro e w' ⟨rfl, rfl⟩)
    | (go_at_call 33; refine (HB.out _ (B.pow HP.out)).mono ?_; rintro e w' ⟨rfl, hb⟩; replace B := B.below hb; clear hb c0 c1 c2 c3 c4 c5; obtain ⟨c0, c1, c2, c3, c4, c5⟩ := B.cells)
    | (go_at_call 64; refine (mapFd_any _ c _ c4).mono ?_; rintro e w' ⟨rfl, rfl⟩; rw [HQ.out])
    | (go_at_call 65; refine (mapOffset_any _ c _ c4).mono ?_; rintro e w' ⟨rfl, rfl⟩; rw [HQ2.out])
    | (go_at_call 39; with_reducible refine (HF.out _ (B.pow HP.out)).mono ?_; rintro e w' ⟨rfl, hb⟩; replace B := B.below hb; clear hb c0 c1 c2 c3 c4 c5; obtain ⟨c0, c1, c2, c3, c4, c5⟩ := B.cells)
    | (go_at_call 39; with_reducible refine (HG.out _ (B.pow HP.out)).mono ?_; rintro e w' ⟨rfl, hb⟩; replace B := B.below hb; clear hb c0 c1 c2 c3 c4 c5; obtain ⟨c0, c1, c2, c3, c4, c5⟩ := B.cells)
    )
  go_step3
  refine show 0 = 0 ∧ _ from ⟨rfl, ?_⟩
  dsimp only
  go_wp2_with fail
  refine (Reference_any op dst src off c p r _ (B.ref HR.out)).mono ?_
  rintro e w' ⟨rfl, hb⟩
  replace B := B.below hb
  clear hb c0 c1 c2 c3 c4 c5
  obtain ⟨c0, c1, c2, c3, c4, c5⟩ := B.cells
  rcases ref_kinds r with hr0 | ⟨hl, hbr, hT⟩
  · subst hr0
    go_wp2_with (go_at_call 57; refine B.string.mono ?_; rintro e w' ⟨rfl, hbe⟩)
    rw [Exit.noGoto_ret]
    go_ret
    exact ⟨by rw [show ∀ T, refC T ⟨#[]⟩ = T from fun _ => rfl]; rfl, hbe⟩
  · go_wp2_with (first
      | (go_at_call 67; refine (Reference_any op dst src off c p r _ (B.ref HR.out)).mono ?_; rintro e w' ⟨rfl, hb⟩; replace B := B.below hb; clear hb)
      | (go_at_call 32; refine (HC.out _).mono ?_; rintro e w' ⟨rfl, hb⟩; replace B := B.below hb; clear hb c0 c1 c2 c3 c4 c5; obtain ⟨c0, c1, c2, c3, c4, c5⟩ := B.cells)
      | (go_at_call 46
         refine (B.write _ (by first | omega | (simp only [ByteArray.size_append, szS, List.size_toArray, List.length_cons, List.length_nil]; omega)) (by decide)).mono ?_
         rintro e w' ⟨rfl, B'⟩
         replace B := B'
         clear B' c0 c1 c2 c3 c4 c5
         obtain ⟨c0, c1, c2, c3, c4, c5⟩ := B.cells)
      | (go_at_call 39; with_reducible refine (HK.out _ (B.pow HP.out)).mono ?_; rintro e w' ⟨rfl, hb⟩; replace B := B.below hb; clear hb c0 c1 c2 c3 c4 c5; obtain ⟨c0, c1, c2, c3, c4, c5⟩ := B.cells)
      | (go_at_call 39; with_reducible refine (HO.out _ (B.pow HP.out)).mono ?_; rintro e w' ⟨rfl, hb⟩; replace B := B.below hb; clear hb c0 c1 c2 c3 c4 c5; obtain ⟨c0, c1, c2, c3, c4, c5⟩ := B.cells)
      | (go_at_call 30; with_reducible refine (HD.out _).mono ?_; rintro e w' ⟨rfl, rfl⟩)
      | (go_at_call 30; with_reducible refine (HS.out _).mono ?_; rintro e w' ⟨rfl, rfl⟩)
      | (go_at_call 63; refine (LoadFromMap_any _ op src _ c0 c2).mono ?_; rintro e w' ⟨rfl, nq, rfl⟩; replace B := B.drewN nq; clear c0 c1 c2 c3 c4 c5; obtain ⟨c0, c1, c2, c3, c4, c5⟩ := B.cells)
      | (go_at_call 56; refine (JumpOp_b HJ.out _).mono ?_; rintro e w' ⟨rfl, rfl⟩)
      | (go_at_call 44; refine (Class_b HCl.out _).mono ?_; rintro e w' ⟨rfl, rfl⟩)
      | (go_at_call 45; refine (isLS_b HLS.out _).mono ?_; rintro e w' ⟨rfl, rfl⟩)
      | (go_at_call 51; refine (isALU_b HAL.out _).mono ?_; rintro e w' ⟨rfl, rfl⟩)
      | (go_at_call 55; refine (isJump_b HJU.out _).mono ?_; rintro e w' ⟨rfl, rfl⟩)
      | (go_at_call 48; refine (Mode_b HM.out _).mono ?_; rintro e w' ⟨rfl, rfl⟩)
      | (go_at_call 52; refine (ALUOp_b HAO.out _).mono ?_; rintro e w' ⟨rfl, rfl⟩)
      | (go_at_call 66; refine (SwapOp _).mono ?_; rintro e w' ⟨rfl, rfl⟩)
      | (go_at_call 54; refine (HSR.out _).mono ?_; rintro e w' ⟨rfl, rfl⟩)
      | (go_at_call 33; refine (HB.out _ (B.pow HP.out)).mono ?_; rintro e w' ⟨rfl, hb⟩; replace B := B.below hb; clear hb c0 c1 c2 c3 c4 c5; obtain ⟨c0, c1, c2, c3, c4, c5⟩ := B.cells)
      | (go_at_call 57; refine B.string.mono ?_; rintro e w' ⟨rfl, hbe⟩))
    rw [Exit.noGoto_ret]
    go_ret
    exact ⟨by rw [hT, ← catS_snoc]; rfl, hbe⟩
end Go.Proofs.YtobgjmgepckijaaDoor
