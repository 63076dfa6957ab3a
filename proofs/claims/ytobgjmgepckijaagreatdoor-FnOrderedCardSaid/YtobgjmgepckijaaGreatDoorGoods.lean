/- Marshal and Unmarshal at every instruction of the generator. -/
import Derived.Test.YtobgjmgepckijaaGreatDoorEnc
import Derived.Test.YtobgjmgepckijaaGreatDoorImpl
namespace Go.Proofs.YtobgjmgepckijaaGreatDoor
open Go.RowKit
set_option linter.unusedVariables false
set_option linter.unusedSimpArgs false
set_option maxRecDepth 100000
theorem beqf {a b : Int} (h : a ≠ b) : (a == b) = false := by simpa using h
theorem beqt {a b : Int} (h : a = b) : (a == b) = true := by simpa using h
theorem and_low {c : Int} (h0 : 0 ≤ c) (h1 : c < 268435456) : bits .and .u32 (c % 4294967296) 1879048192 = 0 := by
  obtain ⟨a, rfl⟩ := Int.eq_ofNat_of_zero_le h0
  have ha : a < 2 ^ 28 := by omega
  rw [Int.emod_eq_of_lt (by omega) (by omega)]
  have := (bits_nat .u32 32 (by decide) (fun n h0 h1 => by rw [IntKind.wrap_u32]; omega) a 1879048192 (by omega) (by omega)).1
  rw [show ((1879048192 : Nat) : Int) = 1879048192 from rfl] at this
  rw [this]
  have h : a &&& 1879048192 = 0 := by
    apply Nat.eq_of_testBit_eq
    intro i
    rw [Nat.testBit_and, Nat.zero_testBit]
    by_cases hi : i < 28
    · rw [show (1879048192 : Nat) = 7 * 2 ^ 28 by decide, Nat.testBit_mul_two_pow]
      simp [show ¬ 28 ≤ i by omega]
    · rw [Nat.testBit_lt_two_pow (Nat.lt_of_lt_of_le ha (Nat.pow_le_pow_right (by decide) (by omega)))]
      rfl
  rw [h]; rfl
theorem and_most {c : Int} (h0 : 0 ≤ c) (h1 : c < 268435456) : bits .and .u32 (c % 4294967296) 2415919103 = c % 4294967296 := by
  obtain ⟨a, rfl⟩ := Int.eq_ofNat_of_zero_le h0
  have ha : a < 2 ^ 28 := by omega
  rw [Int.emod_eq_of_lt (by omega) (by omega)]
  have := (bits_nat .u32 32 (by decide) (fun n h0 h1 => by rw [IntKind.wrap_u32]; omega) a 2415919103 (by omega) (by omega)).1
  rw [show ((2415919103 : Nat) : Int) = 2415919103 from rfl] at this
  rw [this]
  have h : a &&& 2415919103 = a := by
    apply Nat.eq_of_testBit_eq
    intro i
    rw [Nat.testBit_and]
    by_cases hi : i < 28
    · rw [show (2415919103 : Nat) = 8 * 2 ^ 28 + 2 ^ 28 - 1 by decide]
      have : (2415919103 : Nat).testBit i = true := by
        rw [show (2415919103 : Nat) = 2 ^ 28 * 8 + (2 ^ 28 - 1) by decide, Nat.testBit_two_pow_mul_add _ (by decide) , if_pos hi, Nat.testBit_two_pow_sub_one]
        simpa using hi
      rw [show (8 * 2 ^ 28 + 2 ^ 28 - 1 : Nat) = 2415919103 by decide, this, Bool.and_true]
    · rw [Nat.testBit_lt_two_pow (Nat.lt_of_lt_of_le ha (Nat.pow_le_pow_right (by decide) (by omega)))]
      rfl
  rw [h]
theorem Mar_good (big : Bool) (x : Itm) (hx : x.ok) (sk : Nat) (v : Value) (bs : List Int) (w : World) (hs : SinkAt w sk v bs) (hl : bs.length ≤ 9000) :
    Calls Tryz.prog 54 #[asmV x.op x.dst x.src x.off x.c, .iface 55 (.pointer (some ⟨sk, 0, none⟩)), ordV big] w (MarPost w sk bs (encB big x)) := by
  have hc := chk_all x.op hx.mem
  have hl' : bs.length ≤ 10000 := by omega
  simp only [chk, Bool.and_eq_true, decide_eq_true_eq] at hc
  obtain ⟨h0, hc⟩ := hc
  have e1 := beqf h0
  by_cases h24 : x.op = 24
  · rw [if_pos h24] at hc
    simp only [Bool.and_eq_true, decide_eq_true_eq, msk, low] at hc
    obtain ⟨⟨⟨⟨⟨g1, g2⟩, g3⟩, g4⟩, g5⟩, g6⟩ := hc
    have h := Mar_dw big x.op x.dst x.src x.off x.c sk v bs w hs hl hx.dst0 hx.dst1 hx.src0 hx.src1 e1 (beqt h24) (by rw [beqf g1]; rfl) g2 (by simp [g3]) g4
    have e : encB big x = rawB big (bits .and .u32 x.op 255 % 256) (regsOf big x.dst x.src) (IntKind.u16.wrap x.off) (wrap32 (x.c % 4294967296) % 4294967296) ++ secB big (x.c / 4294967296 % 4294967296) := by
      unfold encB offW
      rw [if_pos h24, if_neg (by rw [g2]; decide), u16w, w32mm, g5, h24, show (24 : Int) % 256 = 24 from rfl]
    rw [e]
    exact h
  · rw [if_neg h24] at hc
    have e2 := beqf h24
    by_cases ha : cALU (oClass x.op) = true
    · rw [if_pos ha] at hc
      simp only [Bool.and_eq_true, Bool.or_eq_true, decide_eq_true_eq, msk, low, extOk] at hc
      obtain ⟨⟨⟨⟨g1, g2⟩, g3⟩, g4⟩, hc⟩ := hc
      have e3 : (oJump x.op == 128 && x.src == 0 && x.dst == 0) = false := by rw [beqf g1]; rfl
      have hoff := Itm.off_alu hx ha
      rw [hoff]
      have e : ∀ b n, bits .and .u32 b 255 % 256 = x.op % 256 → noff x.op = n → encB big x = rawB big (bits .and .u32 b 255 % 256) (regsOf big x.dst x.src) n (wrap32 x.c % 4294967296) := fun b n h1 h2 => by
        unfold encB offW
        rw [if_neg h24, if_pos ha, List.append_nil, h1, h2, w32m]
      rcases hc with ((((hc | hc) | hc) | hc) | hc) | hc
      · obtain ⟨⟨⟨⟨⟨⟨k1, k2⟩, k3⟩, k4⟩, k5⟩, k6⟩, k7⟩ := hc
        rw [e _ 1 k4 (by simp [noff, k1])]
        exact Mar_alu304 big x.op x.dst x.src x.c sk v bs w hs hl' hx.dst0 hx.dst1 hx.src0 hx.src1 e1 e2 e3 ha k1 k3
      · obtain ⟨⟨⟨⟨⟨⟨k1, k2⟩, k3⟩, k4⟩, k5⟩, k6⟩, k7⟩ := hc
        rw [e _ 1 k4 (by simp [noff, k1])]
        exact Mar_alu400 big x.op x.dst x.src x.c sk v bs w hs hl' hx.dst0 hx.dst1 hx.src0 hx.src1 e1 e2 e3 ha k1 k3
      · obtain ⟨⟨⟨⟨⟨⟨k1, k2⟩, k3⟩, k4⟩, k5⟩, k6⟩, k7⟩ := hc
        rw [e _ 8 k4 (by simp [noff, k1])]
        exact Mar_alu432 big x.op x.dst x.src x.c sk v bs w hs hl' hx.dst0 hx.dst1 hx.src0 hx.src1 e1 e2 e3 ha k1 k3
      · obtain ⟨⟨⟨⟨⟨⟨k1, k2⟩, k3⟩, k4⟩, k5⟩, k6⟩, k7⟩ := hc
        rw [e _ 16 k4 (by simp [noff, k1])]
        exact Mar_alu688 big x.op x.dst x.src x.c sk v bs w hs hl' hx.dst0 hx.dst1 hx.src0 hx.src1 e1 e2 e3 ha k1 k3
      · obtain ⟨⟨⟨⟨⟨⟨k1, k2⟩, k3⟩, k4⟩, k5⟩, k6⟩, k7⟩ := hc
        rw [e _ 32 k4 (by simp [noff, k1])]
        exact Mar_alu944 big x.op x.dst x.src x.c sk v bs w hs hl' hx.dst0 hx.dst1 hx.src0 hx.src1 e1 e2 e3 ha k1 k3
      · obtain ⟨⟨⟨⟨⟨⟨⟨k1, k2⟩, k3⟩, k4⟩, k5⟩, k6⟩, k7⟩, k8⟩ := hc
        rw [e _ 0 (k8.trans k6.symm) (by simp [noff, k1, k2, k3, k4, k5])]
        exact Mar_alu big x.op x.dst x.src x.c sk v bs w hs hl' hx.dst0 hx.dst1 hx.src0 hx.src1 e1 e2 e3 ha (beqf k1) (beqf k2) (beqf k3) (beqf k4) (beqf k5) k7
    · rw [if_neg ha] at hc
      have ha' : cALU (oClass x.op) = false := by simpa using ha
      have e : ∀ b, bits .and .u32 b 255 % 256 = x.op % 256 → encB big x = rawB big (bits .and .u32 b 255 % 256) (regsOf big x.dst x.src) (IntKind.u16.wrap x.off) (wrap32 x.c % 4294967296) := fun b h1 => by
        unfold encB offW
        rw [if_neg h24, if_neg ha, List.append_nil, h1, w32m, u16w]
      by_cases hat : oAtomic x.op ≠ 4294967295
      · rw [if_pos hat] at hc
        simp only [Bool.and_eq_true, decide_eq_true_eq, msk, low] at hc
        obtain ⟨⟨⟨⟨⟨⟨⟨⟨g1, g2⟩, g3⟩, g4⟩, g5⟩, g6⟩, g7⟩, g8⟩, g9⟩ := hc
        rw [e _ g6]
        exact Mar_atomic big x.op x.dst x.src x.off x.c sk v bs w hs hl' hx.dst0 hx.dst1 hx.src0 hx.src1 e1 e2 (by rw [beqf g1]; rfl) ha' (by simpa using hat) g5
      · rw [if_neg hat] at hc
        have hat' : oAtomic x.op = 4294967295 := by simpa using hat
        simp only [Bool.and_eq_true, Bool.or_eq_true, decide_eq_true_eq, msk, low] at hc
        obtain ⟨⟨⟨⟨g1, g2⟩, g3⟩, g4⟩, g5⟩ := hc
        cases h3 : (oJump x.op == 128 && x.src == 0 && x.dst == 0)
        · rw [e _ (g3.trans g1.symm)]
          exact Mar_plain big x.op x.dst x.src x.off x.c sk v bs w hs hl' hx.dst0 hx.dst1 hx.src0 hx.src1 e1 e2 h3 ha' (by simp [hat']) g2
        · have h133 : x.op = 133 := by
            simp only [Bool.and_eq_true, beq_iff_eq] at h3
            rcases g5 with g5 | g5
            · exact absurd h3.1.1 g5
            · exact g5
          obtain ⟨_, c0, c1⟩ := Itm.call hx h133
          have h := Mar_builtin big x.op x.dst x.src x.off x.c sk v bs w hs hl' hx.dst0 hx.dst1 hx.src0 hx.src1 e1 e2 h3 g2 (and_low c0 c1) (and_most c0 c1)
          rw [e _ (g3.trans g1.symm), w32m, ← w32mm]
          exact h
theorem or_zero {c : Int} (h0 : 0 ≤ c) (h1 : c < 268435456) : bits .or .u32 0 c = c := by
  obtain ⟨a, rfl⟩ := Int.eq_ofNat_of_zero_le h0
  have := (bits_nat .u32 32 (by decide) (fun n h0 h1 => by rw [IntKind.wrap_u32]; omega) 0 a (by omega) (by omega)).2
  rw [show ((0 : Nat) : Int) = 0 from rfl] at this
  rw [this, Nat.zero_or]
theorem hi_back {c : Int} (h : I64 c) : hiC (c / 4294967296 % 4294967296) (c32 (c % 4294967296)) = c := by
  obtain ⟨h0, h1⟩ := h
  have e1 : c32 (c % 4294967296) % 4294967296 = c % 4294967296 := by
    unfold c32
    rw [IntKind.wrap_i32, IntKind.wrap_i64]; omega
  have e2 : wrap64 (wrap64 (wrap32 (c / 4294967296 % 4294967296)) * 4294967296) = c / 4294967296 * 4294967296 := by
    unfold wrap64 wrap32; omega
  unfold hiC
  rw [e1, e2]
  obtain ⟨a, ha⟩ : ∃ a : Nat, c / 4294967296 % 4294967296 = a := ⟨(c / 4294967296 % 4294967296).toNat, by omega⟩
  obtain ⟨b, hb⟩ : ∃ b : Nat, c % 4294967296 = b := ⟨(c % 4294967296).toNat, by omega⟩
  have hb32 : b < 2 ^ 32 := by omega
  show IntKind.i64.wrap ((BitVec.ofInt 64 (c / 4294967296 * 4294967296) ||| BitVec.ofInt 64 (c % 4294967296)).toNat : Int) = c
  rw [BitVec.toNat_or, BitVec.toNat_ofInt, BitVec.toNat_ofInt, hb]
  have t1 : (c / 4294967296 * 4294967296 % ((2 ^ 64 : Nat) : Int)).toNat = a <<< 32 := by
    rw [Nat.shiftLeft_eq]; omega
  have t2 : ((b : Int) % ((2 ^ 64 : Nat) : Int)).toNat = b := by omega
  rw [t1, t2, ← Nat.shiftLeft_add_eq_or_of_lt hb32, Nat.shiftLeft_eq, IntKind.wrap_i64]
  omega
theorem noff_range (op : Int) : 0 ≤ noff op ∧ noff op < 65536 := by
  unfold noff; repeat' split
  all_goals omega
theorem Itm.big {x : Itm} (h : x.ok) (ha : x.op = 24) : I64 x.c := by
  rcases h.arm with h | h | h | h | h | h | h | h | h | h
  · exact absurd (ha ▸ h.1) (by decide)
  · exact absurd (ha ▸ h.1) (by decide)
  · exact absurd (ha ▸ h.1) (by decide)
  · exact absurd (ha ▸ h.1) (by decide)
  · exact absurd (ha ▸ h.1) (by decide)
  · omega
  · omega
  · omega
  · omega
  · exact h.2.2.2
theorem Unm_good (big : Bool) (x : Itm) (hx : x.ok) (ib so : Nat) (rest : List Int) (w : World) (hs : SrcAt w so (encB big x ++ rest)) (hi : InsAt w ib 0 0 0 0 0) (hib : so < ib) :
    Calls Tryz.prog 57 #[.pointer (some ⟨ib, 0, none⟩), .iface 67 (.pointer (some ⟨so, 0, none⟩)), ordV big, .string ⟨#[108, 105, 110, 117, 120]⟩] w (UnmPost w ib so x.op x.dst x.src x.off x.c rest) := by
  cases big
  · skip
    have hc := chk_all x.op hx.mem
    simp only [chk, Bool.and_eq_true, decide_eq_true_eq] at hc
    obtain ⟨h0, hc⟩ := hc
    have d0 := hx.dst0
    have d1 := hx.dst1
    have s0 := hx.src0
    have s1 := hx.src1
    have hr := regsOf_range false d0 d1 s0 s1
    have hop := hx.op0
    have ho : 0 ≤ x.op % 256 ∧ x.op % 256 < 256 := by omega
    have hk : 0 ≤ x.c % 4294967296 ∧ x.c % 4294967296 < 4294967296 := by omega
    have hkk : 0 ≤ x.c / 4294967296 % 4294967296 ∧ x.c / 4294967296 % 4294967296 < 4294967296 := by omega
    have hrd := regs_dst false d0 d1 s0 s1
    have hrs := regs_src false d0 d1 s0 s1
    by_cases h24 : x.op = 24
    · rw [if_pos h24] at hc
      simp only [Bool.and_eq_true, decide_eq_true_eq, msk, low] at hc
      obtain ⟨⟨⟨⟨⟨g1, g2⟩, g3⟩, g4⟩, g5⟩, g6⟩ := hc
      have hf : offW x = x.off % 65536 := by unfold offW; rw [if_neg (by rw [g2]; decide)]
      have hb : x.op % 256 = x.op := by rw [h24]; rfl
      unfold encB at hs
      rw [if_pos h24, rawF, secF, hf, hb] at hs
      simp only [eight, List.cons_append, List.nil_append] at hs
      have hI : I64 x.c := Itm.big hx h24
      have h := U_dw false ib so x.dst x.src x.off (c32 (x.c % 4294967296)) _ _ _ _ _ _ _ _ _ _ _ _ _ _ _ _ rest w hs hi hib (by omega) (by omega) hr.1 hr.2 (byteAt_lo _ _) (byteAt_hi _ _) (byteAt_lo _ _) (byteAt_hi _ _) (byteAt_lo _ _) (byteAt_hi _ _) (byteAt_lo _ _) (byteAt_hi _ _) (byteAt_lo _ _) (byteAt_hi _ _) (byteAt_lo _ _) (byteAt_hi _ _)
        hrd hrs (by rw [num2F (by omega) (by omega)]; exact i16_back hx.off0 hx.off1) (by rw [num4F hk.1 hk.2])
        (byteAt_lo _ _) (byteAt_hi _ _) (byteAt_lo _ _) (byteAt_hi _ _) (byteAt_lo _ _) (byteAt_hi _ _) (byteAt_lo _ _) (byteAt_hi _ _) (byteAt_lo _ _) (byteAt_hi _ _) (byteAt_lo _ _) (byteAt_hi _ _) (byteAt_lo _ _) (byteAt_hi _ _) (byteAt_lo _ _) (byteAt_hi _ _)
        (num4F (by decide) (by decide)) (beqt h24) (by rw [beqf g1]; rfl) g2 (beqf g6)
      rw [num4F hkk.1 hkk.2, hi_back hI] at h
      exact h
    · rw [if_neg h24] at hc
      have hI : I32 x.c := Itm.small hx h24
      have hcb := c32_back hI
      unfold encB at hs
      rw [if_neg h24, List.append_nil, rawF] at hs
      simp only [eight, List.cons_append, List.nil_append] at hs
      by_cases ha : cALU (oClass x.op) = true
      · rw [if_pos ha] at hc
        simp only [Bool.and_eq_true, Bool.or_eq_true, decide_eq_true_eq, msk, low, extOk] at hc
        obtain ⟨⟨⟨⟨g1, g2⟩, g3⟩, g4⟩, hc⟩ := hc
        have e3 : (oJump (x.op % 256) == 128 && x.src == 0 && x.dst == 0) = false := by rw [beqf g2]; rfl
        have hoff := Itm.off_alu hx ha
        have hn := noff_range x.op
        have hf : offW x = noff x.op := by unfold offW; rw [if_pos ha]
        rw [hf] at hs
        have key : ∀ n : Int, noff x.op = n → IntKind.i16.wrap n = n → IntKind.i16.wrap (num2 false (byteAt 0 (noff x.op)) (byteAt 1 (noff x.op))) = n := fun n h1 h2 => by rw [num2F hn.1 hn.2, h1, h2]
        rw [hoff]
        rcases hc with ((((hc | hc) | hc) | hc) | hc) | hc
        · obtain ⟨⟨⟨⟨⟨⟨k1, k2⟩, k3⟩, k4⟩, k5⟩, k6⟩, k7⟩ := hc
          have hz : noff x.op = 1 := by simp [noff, k1]
          have h := U_sdiv false ib so x.dst x.src x.c _ _ _ _ _ _ _ _ rest w hs hi hib ho.1 ho.2 hr.1 hr.2 (byteAt_lo _ _) (byteAt_hi _ _) (byteAt_lo _ _) (byteAt_hi _ _) (byteAt_lo _ _) (byteAt_hi _ _) (byteAt_lo _ _) (byteAt_hi _ _) (byteAt_lo _ _) (byteAt_hi _ _) (byteAt_lo _ _) (byteAt_hi _ _)
            hrd hrs (key 1 hz (by decide)) (by rw [num4F hk.1 hk.2]; exact hcb) (beqf g4) e3 g3 k2 (beqf k7)
          rw [k5] at h
          exact h
        · obtain ⟨⟨⟨⟨⟨⟨k1, k2⟩, k3⟩, k4⟩, k5⟩, k6⟩, k7⟩ := hc
          have hz : noff x.op = 1 := by simp [noff, k1]
          have h := U_smod false ib so x.dst x.src x.c _ _ _ _ _ _ _ _ rest w hs hi hib ho.1 ho.2 hr.1 hr.2 (byteAt_lo _ _) (byteAt_hi _ _) (byteAt_lo _ _) (byteAt_hi _ _) (byteAt_lo _ _) (byteAt_hi _ _) (byteAt_lo _ _) (byteAt_hi _ _) (byteAt_lo _ _) (byteAt_hi _ _) (byteAt_lo _ _) (byteAt_hi _ _)
            hrd hrs (key 1 hz (by decide)) (by rw [num4F hk.1 hk.2]; exact hcb) (beqf g4) e3 g3 k2 (beqf k7)
          rw [k5] at h
          exact h
        · obtain ⟨⟨⟨⟨⟨⟨k1, k2⟩, k3⟩, k4⟩, k5⟩, k6⟩, k7⟩ := hc
          have hz : noff x.op = 8 := by simp [noff, k1]
          have h := U_mov8 false ib so x.dst x.src x.c _ _ _ _ _ _ _ _ rest w hs hi hib ho.1 ho.2 hr.1 hr.2 (byteAt_lo _ _) (byteAt_hi _ _) (byteAt_lo _ _) (byteAt_hi _ _) (byteAt_lo _ _) (byteAt_hi _ _) (byteAt_lo _ _) (byteAt_hi _ _) (byteAt_lo _ _) (byteAt_hi _ _) (byteAt_lo _ _) (byteAt_hi _ _)
            hrd hrs (key 8 hz (by decide)) (by rw [num4F hk.1 hk.2]; exact hcb) (beqf g4) e3 g3 k2 (beqf k7)
          rw [k5] at h
          exact h
        · obtain ⟨⟨⟨⟨⟨⟨k1, k2⟩, k3⟩, k4⟩, k5⟩, k6⟩, k7⟩ := hc
          have hz : noff x.op = 16 := by simp [noff, k1]
          have h := U_mov16 false ib so x.dst x.src x.c _ _ _ _ _ _ _ _ rest w hs hi hib ho.1 ho.2 hr.1 hr.2 (byteAt_lo _ _) (byteAt_hi _ _) (byteAt_lo _ _) (byteAt_hi _ _) (byteAt_lo _ _) (byteAt_hi _ _) (byteAt_lo _ _) (byteAt_hi _ _) (byteAt_lo _ _) (byteAt_hi _ _) (byteAt_lo _ _) (byteAt_hi _ _)
            hrd hrs (key 16 hz (by decide)) (by rw [num4F hk.1 hk.2]; exact hcb) (beqf g4) e3 g3 k2 (beqf k7)
          rw [k5] at h
          exact h
        · obtain ⟨⟨⟨⟨⟨⟨k1, k2⟩, k3⟩, k4⟩, k5⟩, k6⟩, k7⟩ := hc
          have hz : noff x.op = 32 := by simp [noff, k1]
          have h := U_mov32 false ib so x.dst x.src x.c _ _ _ _ _ _ _ _ rest w hs hi hib ho.1 ho.2 hr.1 hr.2 (byteAt_lo _ _) (byteAt_hi _ _) (byteAt_lo _ _) (byteAt_hi _ _) (byteAt_lo _ _) (byteAt_hi _ _) (byteAt_lo _ _) (byteAt_hi _ _) (byteAt_lo _ _) (byteAt_hi _ _) (byteAt_lo _ _) (byteAt_hi _ _)
            hrd hrs (key 32 hz (by decide)) (by rw [num4F hk.1 hk.2]; exact hcb) (beqf g4) e3 g3 k2 (beqf k7)
          rw [k5] at h
          exact h
        · obtain ⟨⟨⟨⟨⟨⟨⟨k1, k2⟩, k3⟩, k4⟩, k5⟩, k6⟩, k7⟩, k8⟩ := hc
          have hz : noff x.op = 0 := by simp [noff, k1, k2, k3, k4, k5]
          have h := U_alu0 false ib so x.dst x.src x.c _ _ _ _ _ _ _ _ rest w hs hi hib ho.1 ho.2 hr.1 hr.2 (byteAt_lo _ _) (byteAt_hi _ _) (byteAt_lo _ _) (byteAt_hi _ _) (byteAt_lo _ _) (byteAt_hi _ _) (byteAt_lo _ _) (byteAt_hi _ _) (byteAt_lo _ _) (byteAt_hi _ _) (byteAt_lo _ _) (byteAt_hi _ _)
            hrd hrs (key 0 hz (by decide)) (by rw [num4F hk.1 hk.2]; exact hcb) (beqf g4) e3 g3
          rw [k6] at h
          exact h
      · rw [if_neg ha] at hc
        have ha' : cALU (oClass x.op) = false := by simpa using ha
        have hf : offW x = x.off % 65536 := by unfold offW; rw [if_neg ha]
        rw [hf] at hs
        by_cases hat : oAtomic x.op ≠ 4294967295
        · rw [if_pos hat] at hc
          simp only [Bool.and_eq_true, decide_eq_true_eq, msk, low] at hc
          obtain ⟨⟨⟨⟨⟨⟨⟨⟨g1, g2⟩, g3⟩, g4⟩, g5⟩, g6⟩, g7⟩, g8⟩, g9⟩ := hc
          have hcc := Itm.atomic hx hat
          rw [← hcc] at g9
          exact U_atomic false ib so x.dst x.src x.off x.c _ _ _ _ _ _ _ _ x.op rest w hs hi hib ho.1 ho.2 hr.1 hr.2 (byteAt_lo _ _) (byteAt_hi _ _) (byteAt_lo _ _) (byteAt_hi _ _) (byteAt_lo _ _) (byteAt_hi _ _) (byteAt_lo _ _) (byteAt_hi _ _) (byteAt_lo _ _) (byteAt_hi _ _) (byteAt_lo _ _) (byteAt_hi _ _)
            hrd hrs (by rw [num2F (by omega) (by omega)]; exact i16_back hx.off0 hx.off1) (by rw [num4F hk.1 hk.2]; exact hcb) (beqf g4) (by rw [beqf g2]; rfl) g3 (beqt g7) (beqt g8) g9 (beqf h24)
        · rw [if_neg hat] at hc
          simp only [Bool.and_eq_true, Bool.or_eq_true, decide_eq_true_eq, msk, low] at hc
          obtain ⟨⟨⟨⟨g1, g2⟩, g3⟩, g4⟩, g5⟩ := hc
          rw [g1] at hs
          have e5 : (oClass x.op == 3 && oMode x.op == 192) = false := by
            rcases g4 with g4 | g4
            · rw [beqf g4]; rfl
            · rw [beqf g4, Bool.and_false]
          cases h3 : (oJump x.op == 128 && x.src == 0 && x.dst == 0)
          · exact U_plain false ib so x.dst x.src x.off x.c _ _ _ _ _ _ _ _ rest w hs hi hib (by omega) (by omega) hr.1 hr.2 (byteAt_lo _ _) (byteAt_hi _ _) (byteAt_lo _ _) (byteAt_hi _ _) (byteAt_lo _ _) (byteAt_hi _ _) (byteAt_lo _ _) (byteAt_hi _ _) (byteAt_lo _ _) (byteAt_hi _ _) (byteAt_lo _ _) (byteAt_hi _ _)
              hrd hrs (by rw [num2F (by omega) (by omega)]; exact i16_back hx.off0 hx.off1) (by rw [num4F hk.1 hk.2]; exact hcb) (beqf h24) h3 ha' e5
          · have h133 : x.op = 133 := by
              simp only [Bool.and_eq_true, beq_iff_eq] at h3
              rcases g5 with g5 | g5
              · exact absurd h3.1.1 g5
              · exact g5
            obtain ⟨_, c0, c1⟩ := Itm.call hx h133
            exact U_builtin false ib so x.dst x.src x.off x.c _ _ _ _ _ _ _ _ rest w hs hi hib (by omega) (by omega) hr.1 hr.2 (byteAt_lo _ _) (byteAt_hi _ _) (byteAt_lo _ _) (byteAt_hi _ _) (byteAt_lo _ _) (byteAt_hi _ _) (byteAt_lo _ _) (byteAt_hi _ _) (byteAt_lo _ _) (byteAt_hi _ _) (byteAt_lo _ _) (byteAt_hi _ _)
              hrd hrs (by rw [num2F (by omega) (by omega)]; exact i16_back hx.off0 hx.off1) (by rw [num4F hk.1 hk.2]; exact hcb) (beqf h24) h3 c0 c1 (or_zero c0 c1)
  · skip
    have hc := chk_all x.op hx.mem
    simp only [chk, Bool.and_eq_true, decide_eq_true_eq] at hc
    obtain ⟨h0, hc⟩ := hc
    have d0 := hx.dst0
    have d1 := hx.dst1
    have s0 := hx.src0
    have s1 := hx.src1
    have hr := regsOf_range true d0 d1 s0 s1
    have hop := hx.op0
    have ho : 0 ≤ x.op % 256 ∧ x.op % 256 < 256 := by omega
    have hk : 0 ≤ x.c % 4294967296 ∧ x.c % 4294967296 < 4294967296 := by omega
    have hkk : 0 ≤ x.c / 4294967296 % 4294967296 ∧ x.c / 4294967296 % 4294967296 < 4294967296 := by omega
    have hrd := regs_dst true d0 d1 s0 s1
    have hrs := regs_src true d0 d1 s0 s1
    by_cases h24 : x.op = 24
    · rw [if_pos h24] at hc
      simp only [Bool.and_eq_true, decide_eq_true_eq, msk, low] at hc
      obtain ⟨⟨⟨⟨⟨g1, g2⟩, g3⟩, g4⟩, g5⟩, g6⟩ := hc
      have hf : offW x = x.off % 65536 := by unfold offW; rw [if_neg (by rw [g2]; decide)]
      have hb : x.op % 256 = x.op := by rw [h24]; rfl
      unfold encB at hs
      rw [if_pos h24, rawT, secT, hf, hb] at hs
      simp only [eight, List.cons_append, List.nil_append] at hs
      have hI : I64 x.c := Itm.big hx h24
      have h := U_dw true ib so x.dst x.src x.off (c32 (x.c % 4294967296)) _ _ _ _ _ _ _ _ _ _ _ _ _ _ _ _ rest w hs hi hib (by omega) (by omega) hr.1 hr.2 (byteAt_lo _ _) (byteAt_hi _ _) (byteAt_lo _ _) (byteAt_hi _ _) (byteAt_lo _ _) (byteAt_hi _ _) (byteAt_lo _ _) (byteAt_hi _ _) (byteAt_lo _ _) (byteAt_hi _ _) (byteAt_lo _ _) (byteAt_hi _ _)
        hrd hrs (by rw [num2T (by omega) (by omega)]; exact i16_back hx.off0 hx.off1) (by rw [num4T hk.1 hk.2])
        (byteAt_lo _ _) (byteAt_hi _ _) (byteAt_lo _ _) (byteAt_hi _ _) (byteAt_lo _ _) (byteAt_hi _ _) (byteAt_lo _ _) (byteAt_hi _ _) (byteAt_lo _ _) (byteAt_hi _ _) (byteAt_lo _ _) (byteAt_hi _ _) (byteAt_lo _ _) (byteAt_hi _ _) (byteAt_lo _ _) (byteAt_hi _ _)
        (num4T (by decide) (by decide)) (beqt h24) (by rw [beqf g1]; rfl) g2 (beqf g6)
      rw [num4T hkk.1 hkk.2, hi_back hI] at h
      exact h
    · rw [if_neg h24] at hc
      have hI : I32 x.c := Itm.small hx h24
      have hcb := c32_back hI
      unfold encB at hs
      rw [if_neg h24, List.append_nil, rawT] at hs
      simp only [eight, List.cons_append, List.nil_append] at hs
      by_cases ha : cALU (oClass x.op) = true
      · rw [if_pos ha] at hc
        simp only [Bool.and_eq_true, Bool.or_eq_true, decide_eq_true_eq, msk, low, extOk] at hc
        obtain ⟨⟨⟨⟨g1, g2⟩, g3⟩, g4⟩, hc⟩ := hc
        have e3 : (oJump (x.op % 256) == 128 && x.src == 0 && x.dst == 0) = false := by rw [beqf g2]; rfl
        have hoff := Itm.off_alu hx ha
        have hn := noff_range x.op
        have hf : offW x = noff x.op := by unfold offW; rw [if_pos ha]
        rw [hf] at hs
        have key : ∀ n : Int, noff x.op = n → IntKind.i16.wrap n = n → IntKind.i16.wrap (num2 true (byteAt 1 (noff x.op)) (byteAt 0 (noff x.op))) = n := fun n h1 h2 => by rw [num2T hn.1 hn.2, h1, h2]
        rw [hoff]
        rcases hc with ((((hc | hc) | hc) | hc) | hc) | hc
        · obtain ⟨⟨⟨⟨⟨⟨k1, k2⟩, k3⟩, k4⟩, k5⟩, k6⟩, k7⟩ := hc
          have hz : noff x.op = 1 := by simp [noff, k1]
          have h := U_sdiv true ib so x.dst x.src x.c _ _ _ _ _ _ _ _ rest w hs hi hib ho.1 ho.2 hr.1 hr.2 (byteAt_lo _ _) (byteAt_hi _ _) (byteAt_lo _ _) (byteAt_hi _ _) (byteAt_lo _ _) (byteAt_hi _ _) (byteAt_lo _ _) (byteAt_hi _ _) (byteAt_lo _ _) (byteAt_hi _ _) (byteAt_lo _ _) (byteAt_hi _ _)
            hrd hrs (key 1 hz (by decide)) (by rw [num4T hk.1 hk.2]; exact hcb) (beqf g4) e3 g3 k2 (beqf k7)
          rw [k5] at h
          exact h
        · obtain ⟨⟨⟨⟨⟨⟨k1, k2⟩, k3⟩, k4⟩, k5⟩, k6⟩, k7⟩ := hc
          have hz : noff x.op = 1 := by simp [noff, k1]
          have h := U_smod true ib so x.dst x.src x.c _ _ _ _ _ _ _ _ rest w hs hi hib ho.1 ho.2 hr.1 hr.2 (byteAt_lo _ _) (byteAt_hi _ _) (byteAt_lo _ _) (byteAt_hi _ _) (byteAt_lo _ _) (byteAt_hi _ _) (byteAt_lo _ _) (byteAt_hi _ _) (byteAt_lo _ _) (byteAt_hi _ _) (byteAt_lo _ _) (byteAt_hi _ _)
            hrd hrs (key 1 hz (by decide)) (by rw [num4T hk.1 hk.2]; exact hcb) (beqf g4) e3 g3 k2 (beqf k7)
          rw [k5] at h
          exact h
        · obtain ⟨⟨⟨⟨⟨⟨k1, k2⟩, k3⟩, k4⟩, k5⟩, k6⟩, k7⟩ := hc
          have hz : noff x.op = 8 := by simp [noff, k1]
          have h := U_mov8 true ib so x.dst x.src x.c _ _ _ _ _ _ _ _ rest w hs hi hib ho.1 ho.2 hr.1 hr.2 (byteAt_lo _ _) (byteAt_hi _ _) (byteAt_lo _ _) (byteAt_hi _ _) (byteAt_lo _ _) (byteAt_hi _ _) (byteAt_lo _ _) (byteAt_hi _ _) (byteAt_lo _ _) (byteAt_hi _ _) (byteAt_lo _ _) (byteAt_hi _ _)
            hrd hrs (key 8 hz (by decide)) (by rw [num4T hk.1 hk.2]; exact hcb) (beqf g4) e3 g3 k2 (beqf k7)
          rw [k5] at h
          exact h
        · obtain ⟨⟨⟨⟨⟨⟨k1, k2⟩, k3⟩, k4⟩, k5⟩, k6⟩, k7⟩ := hc
          have hz : noff x.op = 16 := by simp [noff, k1]
          have h := U_mov16 true ib so x.dst x.src x.c _ _ _ _ _ _ _ _ rest w hs hi hib ho.1 ho.2 hr.1 hr.2 (byteAt_lo _ _) (byteAt_hi _ _) (byteAt_lo _ _) (byteAt_hi _ _) (byteAt_lo _ _) (byteAt_hi _ _) (byteAt_lo _ _) (byteAt_hi _ _) (byteAt_lo _ _) (byteAt_hi _ _) (byteAt_lo _ _) (byteAt_hi _ _)
            hrd hrs (key 16 hz (by decide)) (by rw [num4T hk.1 hk.2]; exact hcb) (beqf g4) e3 g3 k2 (beqf k7)
          rw [k5] at h
          exact h
        · obtain ⟨⟨⟨⟨⟨⟨k1, k2⟩, k3⟩, k4⟩, k5⟩, k6⟩, k7⟩ := hc
          have hz : noff x.op = 32 := by simp [noff, k1]
          have h := U_mov32 true ib so x.dst x.src x.c _ _ _ _ _ _ _ _ rest w hs hi hib ho.1 ho.2 hr.1 hr.2 (byteAt_lo _ _) (byteAt_hi _ _) (byteAt_lo _ _) (byteAt_hi _ _) (byteAt_lo _ _) (byteAt_hi _ _) (byteAt_lo _ _) (byteAt_hi _ _) (byteAt_lo _ _) (byteAt_hi _ _) (byteAt_lo _ _) (byteAt_hi _ _)
            hrd hrs (key 32 hz (by decide)) (by rw [num4T hk.1 hk.2]; exact hcb) (beqf g4) e3 g3 k2 (beqf k7)
          rw [k5] at h
          exact h
        · obtain ⟨⟨⟨⟨⟨⟨⟨k1, k2⟩, k3⟩, k4⟩, k5⟩, k6⟩, k7⟩, k8⟩ := hc
          have hz : noff x.op = 0 := by simp [noff, k1, k2, k3, k4, k5]
          have h := U_alu0 true ib so x.dst x.src x.c _ _ _ _ _ _ _ _ rest w hs hi hib ho.1 ho.2 hr.1 hr.2 (byteAt_lo _ _) (byteAt_hi _ _) (byteAt_lo _ _) (byteAt_hi _ _) (byteAt_lo _ _) (byteAt_hi _ _) (byteAt_lo _ _) (byteAt_hi _ _) (byteAt_lo _ _) (byteAt_hi _ _) (byteAt_lo _ _) (byteAt_hi _ _)
            hrd hrs (key 0 hz (by decide)) (by rw [num4T hk.1 hk.2]; exact hcb) (beqf g4) e3 g3
          rw [k6] at h
          exact h
      · rw [if_neg ha] at hc
        have ha' : cALU (oClass x.op) = false := by simpa using ha
        have hf : offW x = x.off % 65536 := by unfold offW; rw [if_neg ha]
        rw [hf] at hs
        by_cases hat : oAtomic x.op ≠ 4294967295
        · rw [if_pos hat] at hc
          simp only [Bool.and_eq_true, decide_eq_true_eq, msk, low] at hc
          obtain ⟨⟨⟨⟨⟨⟨⟨⟨g1, g2⟩, g3⟩, g4⟩, g5⟩, g6⟩, g7⟩, g8⟩, g9⟩ := hc
          have hcc := Itm.atomic hx hat
          rw [← hcc] at g9
          exact U_atomic true ib so x.dst x.src x.off x.c _ _ _ _ _ _ _ _ x.op rest w hs hi hib ho.1 ho.2 hr.1 hr.2 (byteAt_lo _ _) (byteAt_hi _ _) (byteAt_lo _ _) (byteAt_hi _ _) (byteAt_lo _ _) (byteAt_hi _ _) (byteAt_lo _ _) (byteAt_hi _ _) (byteAt_lo _ _) (byteAt_hi _ _) (byteAt_lo _ _) (byteAt_hi _ _)
            hrd hrs (by rw [num2T (by omega) (by omega)]; exact i16_back hx.off0 hx.off1) (by rw [num4T hk.1 hk.2]; exact hcb) (beqf g4) (by rw [beqf g2]; rfl) g3 (beqt g7) (beqt g8) g9 (beqf h24)
        · rw [if_neg hat] at hc
          simp only [Bool.and_eq_true, Bool.or_eq_true, decide_eq_true_eq, msk, low] at hc
          obtain ⟨⟨⟨⟨g1, g2⟩, g3⟩, g4⟩, g5⟩ := hc
          rw [g1] at hs
          have e5 : (oClass x.op == 3 && oMode x.op == 192) = false := by
            rcases g4 with g4 | g4
            · rw [beqf g4]; rfl
            · rw [beqf g4, Bool.and_false]
          cases h3 : (oJump x.op == 128 && x.src == 0 && x.dst == 0)
          · exact U_plain true ib so x.dst x.src x.off x.c _ _ _ _ _ _ _ _ rest w hs hi hib (by omega) (by omega) hr.1 hr.2 (byteAt_lo _ _) (byteAt_hi _ _) (byteAt_lo _ _) (byteAt_hi _ _) (byteAt_lo _ _) (byteAt_hi _ _) (byteAt_lo _ _) (byteAt_hi _ _) (byteAt_lo _ _) (byteAt_hi _ _) (byteAt_lo _ _) (byteAt_hi _ _)
              hrd hrs (by rw [num2T (by omega) (by omega)]; exact i16_back hx.off0 hx.off1) (by rw [num4T hk.1 hk.2]; exact hcb) (beqf h24) h3 ha' e5
          · have h133 : x.op = 133 := by
              simp only [Bool.and_eq_true, beq_iff_eq] at h3
              rcases g5 with g5 | g5
              · exact absurd h3.1.1 g5
              · exact g5
            obtain ⟨_, c0, c1⟩ := Itm.call hx h133
            exact U_builtin true ib so x.dst x.src x.off x.c _ _ _ _ _ _ _ _ rest w hs hi hib (by omega) (by omega) hr.1 hr.2 (byteAt_lo _ _) (byteAt_hi _ _) (byteAt_lo _ _) (byteAt_hi _ _) (byteAt_lo _ _) (byteAt_hi _ _) (byteAt_lo _ _) (byteAt_hi _ _) (byteAt_lo _ _) (byteAt_hi _ _) (byteAt_lo _ _) (byteAt_hi _ _)
              hrd hrs (by rw [num2T (by omega) (by omega)]; exact i16_back hx.off0 hx.off1) (by rw [num4T hk.1 hk.2]; exact hcb) (beqf h24) h3 c0 c1 (or_zero c0 c1)
end Go.Proofs.YtobgjmgepckijaaGreatDoor
