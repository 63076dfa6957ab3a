/- An instruction's text: the package's and the reference's are one, at every instruction of the generator that calls no named function. -/
import Derived.Test.YtobgjmgepckijaaDoorTextC
import Derived.Test.YtobgjmgepckijaaDoorTextD
import Derived.Test.YtobgjmgepckijaaDoorTextE
import Derived.Test.YtobgjmgepckijaaDoorTextF
import Derived.Test.YtobgjmgepckijaaDoorTextS
import Derived.Test.YtobgjmgepckijaaDoorTextT
import Derived.Test.YtobgjmgepckijaaDoorTextU
import Derived.Outline
namespace Go.Proofs.YtobgjmgepckijaaDoor
open Go.RowKit
set_option linter.unusedVariables false
set_option linter.unusedSimpArgs false
/-! ## Pieces -/
theorem bapp_nil (a : ByteArray) : a ++ ⟨#[]⟩ = a := ByteArray.append_empty
theorem l_dst : (⟨#[32, 100, 115, 116, 58, 32]⟩ : ByteArray) = ⟨#[32]⟩ ++ ⟨#[100, 115, 116, 58, 32]⟩ := rfl
theorem l_imm : (⟨#[32, 105, 109, 109, 58, 32]⟩ : ByteArray) = ⟨#[32]⟩ ++ ⟨#[105, 109, 109, 58, 32]⟩ := rfl
theorem l_src : (⟨#[32, 115, 114, 99, 58, 32]⟩ : ByteArray) = ⟨#[32]⟩ ++ ⟨#[115, 114, 99, 58, 32]⟩ := rfl
theorem l_off : (⟨#[32, 111, 102, 102, 58, 32]⟩ : ByteArray) = ⟨#[32]⟩ ++ ⟨#[111, 102, 102, 58, 32]⟩ := rfl
theorem l_kf : (⟨#[32, 75, 102, 117, 110, 99, 40]⟩ : ByteArray) = ⟨#[32]⟩ ++ ⟨#[75, 102, 117, 110, 99, 40]⟩ := rfl
section
variable (C D S O K N : ByteArray)
theorem p_imm : catS [C ++ ⟨#[32]⟩, ⟨#[100, 115, 116, 58, 32]⟩ ++ D ++ ⟨#[32, 105, 109, 109, 58, 32]⟩ ++ K] = C ++ (⟨#[32, 100, 115, 116, 58, 32]⟩ ++ D ++ ⟨#[32, 105, 109, 109, 58, 32]⟩ ++ K) :=
  by simp only [catS_cons, catS_nil, bapp_nil, l_dst, l_imm, l_src, l_off, l_kf, ByteArray.append_assoc]
theorem p_mem : catS [C ++ ⟨#[32]⟩, ⟨#[100, 115, 116, 58, 32]⟩ ++ D ++ ⟨#[32, 115, 114, 99, 58, 32]⟩ ++ S ++ ⟨#[32, 111, 102, 102, 58, 32]⟩ ++ O ++ ⟨#[32, 105, 109, 109, 58, 32]⟩ ++ K] = C ++ (⟨#[32, 100, 115, 116, 58, 32]⟩ ++ D ++ ⟨#[32, 115, 114, 99, 58, 32]⟩ ++ S ++ ⟨#[32, 111, 102, 102, 58, 32]⟩ ++ O ++ ⟨#[32, 105, 109, 109, 58, 32]⟩ ++ K) :=
  by simp only [catS_cons, catS_nil, bapp_nil, l_dst, l_imm, l_src, l_off, l_kf, ByteArray.append_assoc]
theorem p_atom : catS [C ++ ⟨#[32]⟩, ⟨#[100, 115, 116, 58, 32]⟩ ++ D ++ ⟨#[32, 115, 114, 99, 58, 32]⟩ ++ S ++ ⟨#[32, 111, 102, 102, 58, 32]⟩ ++ O] = C ++ (⟨#[32, 100, 115, 116, 58, 32]⟩ ++ D ++ ⟨#[32, 115, 114, 99, 58, 32]⟩ ++ S ++ ⟨#[32, 111, 102, 102, 58, 32]⟩ ++ O) :=
  by simp only [catS_cons, catS_nil, bapp_nil, l_dst, l_imm, l_src, l_off, l_kf, ByteArray.append_assoc]
theorem p_bswap : catS [C, K, ⟨#[32, 100, 115, 116, 58, 32]⟩ ++ D ++ ⟨#[32]⟩] = C ++ K ++ (⟨#[32, 100, 115, 116, 58, 32]⟩ ++ D ++ ⟨#[32]⟩) :=
  by simp only [catS_cons, catS_nil, bapp_nil, l_dst, l_imm, l_src, l_off, l_kf, ByteArray.append_assoc]
theorem p_swap : catS [C, ⟨#[32, 100, 115, 116, 58, 32]⟩ ++ D ++ ⟨#[32]⟩] = C ++ (⟨#[32, 100, 115, 116, 58, 32]⟩ ++ D ++ ⟨#[32]⟩) :=
  by simp only [catS_cons, catS_nil, bapp_nil, l_dst, l_imm, l_src, l_off, l_kf, ByteArray.append_assoc]
theorem p_alui : catS [C, ⟨#[32, 100, 115, 116, 58, 32]⟩ ++ D ++ ⟨#[32]⟩, ⟨#[105, 109, 109, 58, 32]⟩ ++ K] = C ++ (⟨#[32, 100, 115, 116, 58, 32]⟩ ++ D) ++ (⟨#[32, 105, 109, 109, 58, 32]⟩ ++ K) :=
  by simp only [catS_cons, catS_nil, bapp_nil, l_dst, l_imm, l_src, l_off, l_kf, ByteArray.append_assoc]
theorem p_alur : catS [C, ⟨#[32, 100, 115, 116, 58, 32]⟩ ++ D ++ ⟨#[32]⟩, ⟨#[115, 114, 99, 58, 32]⟩ ++ S] = C ++ (⟨#[32, 100, 115, 116, 58, 32]⟩ ++ D) ++ (⟨#[32, 115, 114, 99, 58, 32]⟩ ++ S) :=
  by simp only [catS_cons, catS_nil, bapp_nil, l_dst, l_imm, l_src, l_off, l_kf, ByteArray.append_assoc]
theorem p_call1 : catS [C ++ ⟨#[32]⟩, K] = C ++ (⟨#[32]⟩ ++ K) :=
  by simp only [catS_cons, catS_nil, bapp_nil, l_dst, l_imm, l_src, l_off, l_kf, ByteArray.append_assoc]
theorem p_call2 : catS [C ++ ⟨#[32]⟩, ⟨#[75, 102, 117, 110, 99, 40]⟩ ++ K ++ ⟨#[41]⟩] = C ++ (⟨#[32, 75, 102, 117, 110, 99, 40]⟩ ++ K ++ ⟨#[41]⟩) :=
  by simp only [catS_cons, catS_nil, bapp_nil, l_dst, l_imm, l_src, l_off, l_kf, ByteArray.append_assoc]
theorem p_ja : catS [C ++ ⟨#[32]⟩, ⟨#[111, 102, 102, 58, 32]⟩ ++ O] = C ++ (⟨#[32, 111, 102, 102, 58, 32]⟩ ++ O) :=
  by simp only [catS_cons, catS_nil, bapp_nil, l_dst, l_imm, l_src, l_off, l_kf, ByteArray.append_assoc]
theorem p_ja32 : catS [C ++ ⟨#[32]⟩, ⟨#[105, 109, 109, 58, 32]⟩ ++ K] = C ++ (⟨#[32, 105, 109, 109, 58, 32]⟩ ++ K) :=
  by simp only [catS_cons, catS_nil, bapp_nil, l_dst, l_imm, l_src, l_off, l_kf, ByteArray.append_assoc]
theorem p_jci : catS [C ++ ⟨#[32]⟩, ⟨#[100, 115, 116, 58, 32]⟩ ++ D ++ ⟨#[32, 111, 102, 102, 58, 32]⟩ ++ O ++ ⟨#[32]⟩, ⟨#[105, 109, 109, 58, 32]⟩ ++ K] = C ++ (⟨#[32, 100, 115, 116, 58, 32]⟩ ++ D ++ ⟨#[32, 111, 102, 102, 58, 32]⟩ ++ O) ++ (⟨#[32, 105, 109, 109, 58, 32]⟩ ++ K) :=
  by simp only [catS_cons, catS_nil, bapp_nil, l_dst, l_imm, l_src, l_off, l_kf, ByteArray.append_assoc]
theorem p_jcr : catS [C ++ ⟨#[32]⟩, ⟨#[100, 115, 116, 58, 32]⟩ ++ D ++ ⟨#[32, 111, 102, 102, 58, 32]⟩ ++ O ++ ⟨#[32]⟩, ⟨#[115, 114, 99, 58, 32]⟩ ++ S] = C ++ (⟨#[32, 100, 115, 116, 58, 32]⟩ ++ D ++ ⟨#[32, 111, 102, 102, 58, 32]⟩ ++ O) ++ (⟨#[32, 115, 114, 99, 58, 32]⟩ ++ S) :=
  by simp only [catS_cons, catS_nil, bapp_nil, l_dst, l_imm, l_src, l_off, l_kf, ByteArray.append_assoc]
theorem p_one : catS [C] = C :=
  by simp only [catS_cons, catS_nil, bapp_nil, l_dst, l_imm, l_src, l_off, l_kf, ByteArray.append_assoc]
end
/-! ## What the codes say -/
theorem alu_f : ∀ op ∈ aluOps, kJump op = false ∧ kALU op = true ∧ (op == 24) = false ∧ bits .and .i64 op 240 ≠ 208 ∧ oJump op = 255 ∧ cLS (oClass op) = false ∧ cALU (oClass op) = true ∧ oALU op ≠ 208 ∧ (op == 215) = false ∧
    ((bits .and .i64 (op / 8) 1 = 0 ∧ oBit op % 65536 = 0) ∨ (bits .and .i64 (op / 8) 1 = 1 ∧ oBit op % 65536 = 8)) := by decide +kernel
theorem swap_f : ∀ op ∈ swapOps, kJump op = false ∧ kALU op = true ∧ (op == 24) = false ∧ bits .and .i64 op 240 = 208 ∧ oJump op = 255 ∧ cLS (oClass op) = false ∧ cALU (oClass op) = true ∧ oALU op = 208 ∧
    (((op == 215) = true ∧ bits .and .i64 op 7 = 7) ∨ ((op == 215) = false ∧ bits .and .i64 op 7 = 4)) := by decide +kernel
theorem cond_f : ∀ op ∈ condOps, kJump op = true ∧ kALU op = false ∧ (op == 24) = false ∧ bits .and .i64 op 240 ≠ 0 ∧ bits .and .i64 op 240 ≠ 128 ∧ bits .and .i64 op 240 ≠ 144 ∧ cLS (oClass op) = false ∧ cALU (oClass op) = false ∧ cJump (oClass op) = true ∧
    (oJump op == 0) = false ∧ (oJump op == 128) = false ∧ (oJump op == 144) = false ∧ (oJump op == 224) = false ∧ oALU op ≠ 208 ∧
    ((bits .and .i64 (op / 8) 1 = 0 ∧ oBit op % 65536 = 0) ∨ (bits .and .i64 (op / 8) 1 = 1 ∧ oBit op % 65536 = 8)) := by decide +kernel
theorem mem_f : ∀ op ∈ memOps, kJump op = false ∧ kALU op = false ∧ (op == 24) = false ∧ oJump op = 255 ∧ cLS (oClass op) = true ∧
    ((bits .and .i64 (op / 32) 7 = 3 ∧ oMode op = 96) ∨ (bits .and .i64 (op / 32) 7 = 4 ∧ oMode op = 128)) := by decide +kernel
theorem atom_f : ∀ op ∈ atomOps ++ ordOps, kJump op = false ∧ kALU op = false ∧ (op == 24) = false ∧ oJump op = 255 ∧ cLS (oClass op) = true ∧ bits .and .i64 (op / 32) 7 = 6 ∧ oMode op = 192 := by decide +kernel
/-- both texts are one -/
def Both (op dst src off c : Int) (r : ByteArray) : Prop := ∃ T,
  (∀ (p : Option Addr) (w : World), PowTab w → RefOf p r w → Calls Tryd.prog 38 #[asmP op dst src off c p] w (STPost T w)) ∧
  (∀ w : World, Calls Tryd.prog 20 #[insR op dst src off c r, fnName] w (STPost T w))
theorem both_mk {op dst src off c : Int} {r T T' : ByteArray} (e : T' = T)
    (h1 : ∀ (p : Option Addr) (w : World), PowTab w → RefOf p r w → Calls Tryd.prog 38 #[asmP op dst src off c p] w (STPost (refC T' r) w))
    (h2 : ∀ w : World, Calls Tryd.prog 20 #[insR op dst src off c r, fnName] w (STPost (refC T r) w)) : Both op dst src off c r := ⟨_, e ▸ h1, h2⟩
theorem both_mk0 {op dst src off c : Int} {r T T' : ByteArray} (e : T' = T)
    (h1 : ∀ (p : Option Addr) (w : World), PowTab w → RefOf p r w → Calls Tryd.prog 38 #[asmP op dst src off c p] w (STPost T' w))
    (h2 : ∀ w : World, Calls Tryd.prog 20 #[insR op dst src off c r, fnName] w (STPost T w)) : Both op dst src off c r := ⟨_, e ▸ h1, h2⟩
theorem beqF {a b : Int} (h : a ≠ b) : (a == b) = false := by simpa using h
theorem both_atom {op dst src off c : Int} {r : ByteArray} (g : SGood op dst src off c r) (h : op ∈ atomOps ++ ordOps) : Both op dst src off c r := by
  obtain ⟨f1, f2, f3, f4, f5, f6, f7⟩ := atom_f op h
  exact both_mk (p_atom _ _ _ _) (fun p w ht hr => IT_atom op dst src off c r p w g ht hr f4 f3 _ rfl f5 f7) (fun w => ST_atom op dst src off c r w g f1 f2 f3 f6)
/-- an instruction that calls a function of the kernel's table that there is: of its name is not spoken -/
def askedB (op src c : Int) : Bool := op == 133 && src != 1 && src != 2 && decide (IntKind.u32.wrap c < 400)
theorem both_good {op dst src off c : Int} {r : ByteArray} (h : Good op dst src off c) (hc0 : -9223372036854775808 ≤ c) (hc1 : c ≤ 9223372036854775807) (hr : r.size ≤ 100) (hna : askedB op src c = false) : Both op dst src off c r := by
  have g : SGood op dst src off c r := ⟨List.mem_append_left _ h.mem, h.dst0, h.dst1, h.src0, h.src1, h.off0, h.off1, hc0, hc1, hr⟩
  rcases h.arm with h | h | h | h | h | h | h | h | h | h
  · obtain ⟨f1, f2, f3, f4, f5, f6, f7, f8, f9, ⟨q1, q2⟩ | ⟨q1, q2⟩⟩ := alu_f op h.1
    · exact both_mk (p_alui _ _ _) (fun p w ht hr => IT_alui op dst src off c r p w g ht hr f5 f3 _ rfl f6 f7 _ rfl f8 (beqF f8) f9 q2) (fun w => ST_alui op dst src off c r w g f1 f2 f3 _ rfl f4 (beqF f4) q1)
    · exact both_mk (p_alur _ _ _) (fun p w ht hr => IT_alur op dst src off c r p w g ht hr f5 f3 _ rfl f6 f7 _ rfl f8 (beqF f8) f9 q2) (fun w => ST_alur op dst src off c r w g f1 f2 f3 _ rfl f4 (beqF f4) q1)
  · obtain ⟨f1, f2, f3, f4, f5, f6, f7, f8, ⟨q1, q2⟩ | ⟨q1, q2⟩⟩ := swap_f op h.1
    · exact both_mk (p_bswap _ _ _) (fun p w ht hr => IT_bswap op dst src off c r p w g ht hr f5 f3 _ rfl f6 f7 f8 q1) (fun w => ST_bswap op dst src off c r w g f1 f2 f3 f4 q2)
    · exact both_mk (p_swap _ _) (fun p w ht hr => IT_swap op dst src off c r p w g ht hr f5 f3 _ rfl f6 f7 f8 q1) (fun w => ST_swap op dst src off c r w g f1 f2 f3 f4 q2)
  · obtain ⟨f1, f2, f3, f4, f5, f6, f7, f8, f9, g0, g1, g2, g3, g4, ⟨q1, q2⟩ | ⟨q1, q2⟩⟩ := cond_f op h.1
    · exact both_mk (p_jci _ _ _ _) (fun p w ht hr => IT_jci op dst src off c r p w g ht hr _ rfl g0 g1 g2 g3 g4 f3 _ rfl f7 f8 f9 q2) (fun w => ST_jci op dst src off c r w g f1 f2 f3 _ rfl f4 f5 f6 (beqF f4) (beqF f5) (beqF f6) q1)
    · exact both_mk (p_jcr _ _ _ _) (fun p w ht hr => IT_jcr op dst src off c r p w g ht hr _ rfl g0 g1 g2 g3 g4 f3 _ rfl f7 f8 f9 q2) (fun w => ST_jcr op dst src off c r w g f1 f2 f3 _ rfl f4 f5 f6 (beqF f4) (beqF f5) (beqF f6) q1)
  · obtain ⟨f1, f2, f3, f4, f5, ⟨q1, q2⟩ | ⟨q1, q2⟩⟩ := mem_f op h.1
    · exact both_mk (p_mem _ _ _ _ _) (fun p w ht hr => IT_mem op dst src off c r p w g ht hr f4 f3 _ rfl f5 q2) (fun w => ST_mem op dst src off c r w g f1 f2 f3 q1)
    · exact both_mk (p_mem _ _ _ _ _) (fun p w ht hr => IT_memsx op dst src off c r p w g ht hr f4 f3 _ rfl f5 q2) (fun w => ST_memsx op dst src off c r w g f1 f2 f3 q1)
  · exact both_atom g (List.mem_append_left _ h.1)
  · obtain ⟨rfl, -⟩ := h
    exact both_mk (p_ja _ _) (fun p w ht hr => IT_ja 5 dst src off c r p w g ht hr (by decide +kernel) (by decide +kernel) _ rfl (by decide +kernel) (by decide +kernel) (by decide +kernel) (by decide +kernel))
      (fun w => ST_ja 5 dst src off c r w g (by decide +kernel) (by decide +kernel) (by decide +kernel) (by decide +kernel) (by decide +kernel))
  · obtain ⟨rfl, -⟩ := h
    exact both_mk (p_ja32 _ _) (fun p w ht hr => IT_ja32 6 dst src off c r p w g ht hr (by decide +kernel) (by decide +kernel) _ rfl (by decide +kernel) (by decide +kernel) (by decide +kernel) (by decide +kernel))
      (fun w => ST_ja32 6 dst src off c r w g (by decide +kernel) (by decide +kernel) (by decide +kernel) (by decide +kernel) (by decide +kernel))
  · obtain ⟨rfl, h1, h2, rfl, h4, h5⟩ := h
    have hs0 := g.s0
    have hs : src = 1 ∨ src = 2 ∨ src = 0 := by omega
    rcases hs with rfl | rfl | rfl
    · exact both_mk (p_call1 _ _) (fun p w ht hr => IT_call1 133 dst 1 0 c r p w g ht hr (by decide +kernel) (by decide +kernel) _ rfl (by decide +kernel) (by decide +kernel) (by decide +kernel) rfl rfl)
        (fun w => ST_call1 133 dst 1 0 c r w g (by decide +kernel) (by decide +kernel) (by decide +kernel) (by decide +kernel) rfl)
    · exact both_mk (p_call2 _ _) (fun p w ht hr => IT_call2 133 dst 2 0 c r p w g ht hr (by decide +kernel) (by decide +kernel) _ rfl (by decide +kernel) (by decide +kernel) (by decide +kernel) rfl rfl)
        (fun w => ST_call2 133 dst 2 0 c r w g (by decide +kernel) (by decide +kernel) (by decide +kernel) (by decide +kernel) rfl rfl)
    · have h400 : 400 ≤ c := by
        simp only [askedB, IntKind.wrap_u32, beq_self_eq_true, Bool.true_and] at hna
        have := hna
        simp at this
        omega
      exact both_mk (p_call1 _ _) (fun p w ht hr => IT_call0 133 dst 0 0 c r p w g ht hr (by decide +kernel) (by decide +kernel) _ rfl (by decide +kernel) (by decide +kernel) (by decide +kernel) rfl rfl h400 h5)
        (fun w => ST_call0 133 dst 0 0 c r w g (by decide +kernel) (by decide +kernel) (by decide +kernel) (by decide +kernel) rfl rfl h4 h5)
  · obtain ⟨rfl, -⟩ := h
    exact both_mk0 (p_one _) (fun p w ht hr => IT_exit 149 dst src off c r p w g ht hr (by decide +kernel)) (fun w => ST_exit 149 dst src off c r w g (by decide +kernel) (by decide +kernel))
  · obtain ⟨rfl, -⟩ := h
    by_cases s1 : src = 1
    · subst s1
      exact both_mk (p_one _) (fun p w ht hr => IT_ptr 24 dst 1 off c r p w g ht hr (by decide +kernel) rfl rfl) (fun w => ST_ptr 24 dst 1 off c r w g (by decide +kernel) rfl rfl)
    · by_cases s2 : src = 2
      · subst s2
        exact both_mk (p_one _) (fun p w ht hr => IT_val 24 dst 2 off c r p w g ht hr (by decide +kernel) rfl rfl rfl) (fun w => ST_val 24 dst 2 off c r w g (by decide +kernel) rfl rfl rfl)
      · exact both_mk (p_imm _ _ _) (fun p w ht hr => IT_ldimm 24 dst src off c r p w g ht hr (by decide +kernel) rfl (beqF s1) (beqF s2) _ rfl (by decide +kernel) (by decide +kernel))
          (fun w => ST_ldimm 24 dst src off c r w g (by decide +kernel) (by decide +kernel) rfl (beqF s1) (beqF s2) (by decide +kernel))
end Go.Proofs.YtobgjmgepckijaaDoor
