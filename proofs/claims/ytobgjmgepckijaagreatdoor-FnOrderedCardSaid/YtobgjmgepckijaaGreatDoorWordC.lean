/- OpCode.String, walked: a code's word as the package writes it. -/
import Derived.Test.YtobgjmgepckijaaGreatDoorWordB
import Derived.Outline
namespace Go.Proofs.YtobgjmgepckijaaGreatDoor
open Go.RowKit
set_option linter.unusedVariables false
set_option linter.unusedSimpArgs false
def sizeL (s : Int) : ByteArray := if s = 24 then ⟨#[68, 87]⟩ else if s = 0 then ⟨#[87]⟩ else if s = 8 then ⟨#[72]⟩ else ⟨#[66]⟩
def lsP (op : Int) : List ByteArray := [trimW (classS (oClass op)) ⟨#[67, 108, 97, 115, 115]⟩, trimW (modeS (oMode op)) ⟨#[77, 111, 100, 101]⟩] ++ (if oAtomic op = 4294967295 then [] else [trimW (atomS (oAtomic op)) ⟨#[65, 116, 111, 109, 105, 99]⟩]) ++ [sizeL (oSize op)]
def aluP (op : Int) : List ByteArray := (if oALU op = 208 ∧ oClass op = 7 then [⟨#[66]⟩] else []) ++ [aluS (oALU op)] ++
  (if oALU op = 208 then (if oClass op = 4 then [endS (oBit op % 256)] else []) else [trimW (srcS (oBit op % 65536)) ⟨#[83, 111, 117, 114, 99, 101]⟩] ++ (if oClass op = 4 then [⟨#[51, 50]⟩] else []))
def jumpP (op : Int) : List ByteArray := [jumpS (oJump op)] ++ (if oClass op = 6 then [⟨#[51, 50]⟩] else []) ++ (if oJump op = 144 ∨ oJump op = 128 ∨ oJump op = 0 then [] else [trimW (srcS (oBit op % 65536)) ⟨#[83, 111, 117, 114, 99, 101]⟩])
def codeP (op : Int) : List ByteArray := if cLS (oClass op) = true then lsP op else if cALU (oClass op) = true then aluP op else jumpP op
def codeW (op : Int) : ByteArray := catS (codeP op)
def ordOps : List Int := [65731, 65739, 65747, 65755, 69827, 69835, 69843, 69851]
def wordOps : List Int := allOps ++ ordOps
def wchk (op : Int) : Bool :=
  if cLS (oClass op) = true then decide (0 ≤ oClass op) && decide (oClass op ≤ 3) && decide (oMode op ∈ ([0, 32, 64, 96, 128, 192] : List Int)) && (decide (oAtomic op = 4294967295) || decide (oAtomic op ∈ atomKeys)) && decide (oSize op ∈ ([0, 8, 16, 24] : List Int))
  else if cALU (oClass op) = true then decide (oALU op ∈ aluKeys) && decide (oClass op = 4 ∨ oClass op = 7) && decide (oBit op = 0 ∨ oBit op = 8)
  else cJump (oClass op) && decide (oJump op ∈ jumpKeys) && decide (oClass op = 5 ∨ oClass op = 6) && decide (oBit op = 0 ∨ oBit op = 8) && decide (oALU op ≠ 208)
theorem wchk_all : ∀ op ∈ wordOps, wchk op = true := by decide +kernel
set_option maxHeartbeats 4000000 in
set_option maxRecDepth 100000 in
theorem Code_ls (op c m a s : Int) (w : World) (hc : oClass op = c) (hl : cLS c = true) (hm : oMode op = m) (ha : oAtomic op = a) (hs : oSize op = s) (c0 : 0 ≤ c) (c1 : c ≤ 3)
    (hmm : m = 0 ∨ m = 32 ∨ m = 64 ∨ m = 96 ∨ m = 128 ∨ m = 192) (haa : a = 4294967295 ∨ a ∈ atomKeys) (hss : s = 0 ∨ s = 8 ∨ s = 16 ∨ s = 24) :
    Calls Tryz.prog 40 #[.int .u32 op] w fun e w' => e = .returned (.string (codeW op)) ∧ Below w.heap.size w w' := by
  have e0 : codeP op = [trimW (classS c) ⟨#[67, 108, 97, 115, 115]⟩, trimW (modeS m) ⟨#[77, 111, 100, 101]⟩] ++ (if a = 4294967295 then [] else [trimW (atomS a) ⟨#[65, 116, 111, 109, 105, 99]⟩]) ++ [sizeL s] := by
    unfold codeP; rw [hc, if_pos hl]; unfold lsP; rw [hc, hm, ha, hs]
  unfold codeW
  rw [e0]
  have HC := Lib.hid hc
  have HL := Lib.hid hl
  have HM := Lib.hid hm
  have HMM := Lib.hid hmm
  have HA := Lib.hid ha
  have hsz : Calls Tryz.prog 73 #[.int .u32 op] = Calls Tryz.prog 73 #[.int .u32 op] := rfl
  have HS := Lib.hid (fun W => hs ▸ Size_ls op W (by rw [hc]; exact hl))
  clear hc hl hm ha hs hmm hsz e0
  have B := Bld.start w
  by_cases hna : a = 4294967295
  · subst hna
    clear haa
    rw [if_pos rfl]
    go_enter Tryz.func40, Tryz.ntmps40
    go_wp2_with (first
      | (go_at_call 63; refine (Class_b HC.out _).mono ?_; rintro e w' ⟨rfl, rfl⟩)
      | (go_at_call 70; refine (isLS_b HL.out _).mono ?_; rintro e w' ⟨rfl, rfl⟩)
      | (go_at_call 72; refine (Trim_any _ _ _ (by first | with_reducible exact classS_size _ | with_reducible exact modeS_size _ | with_reducible exact atomS_size _ | with_reducible exact srcS_size _)).mono ?_; rintro e w' ⟨rfl, rfl⟩)
      | (go_at_call 71
         refine (B.write _ (by first | with_reducible exact trim_size (classS_size _) | with_reducible exact trim_size (modeS_size _) | with_reducible exact trim_size (atomS_size _) | with_reducible exact trim_size (srcS_size _) | with_reducible exact endS_size _ | with_reducible exact aluS_size _ | with_reducible exact jumpS_size _ | decide) (by decide)).mono ?_
         rintro e w' ⟨rfl, B'⟩
         replace B := B'
         clear B')
      | (go_at_call 80; refine B.string.mono ?_; rintro e w' ⟨rfl, hbe⟩)
      | (go_at_call 64; refine (Mode_b HM.out _).mono ?_; rintro e w' ⟨rfl, rfl⟩)
      | (go_at_call 30; refine (Atomic_b HA.out _).mono ?_; rintro e w' ⟨rfl, rfl⟩)
      | (go_at_call 31; refine (ClassString _ _ c0 (by omega)).mono ?_; rintro e w' ⟨rfl, hb⟩; replace B := B.below hb; clear hb)
      | (go_at_call 34; refine (ModeString _ _ HMM.out).mono ?_; rintro e w' ⟨rfl, rfl⟩))
    refine (HS.out _).mono ?_
    rintro e w' ⟨rfl, rfl⟩
    rcases hss with rfl | rfl | rfl | rfl
    all_goals
      go_wp2_with fail
      refine (B.write _ (by decide) (by decide)).mono ?_
      rintro e w' ⟨rfl, B'⟩
      clear B
      go_wp2_with fail
      refine B'.string.mono ?_
      rintro e w' ⟨rfl, hbe⟩
      go_wp2_with fail
      go_ret
      exact ⟨rfl, hbe⟩
  · have haa' : a ∈ atomKeys := by rcases haa with h | h; · exact absurd h hna
                                   · exact h
    have HAA := Lib.hid haa'
    have hna' : (a == 4294967295) = false := by simpa using hna
    clear haa haa'
    rw [if_neg hna]
    clear hna
    go_enter Tryz.func40, Tryz.ntmps40
    go_wp2_with (first
      | (go_at_call 63; refine (Class_b HC.out _).mono ?_; rintro e w' ⟨rfl, rfl⟩)
      | (go_at_call 70; refine (isLS_b HL.out _).mono ?_; rintro e w' ⟨rfl, rfl⟩)
      | (go_at_call 72; refine (Trim_any _ _ _ (by first | with_reducible exact classS_size _ | with_reducible exact modeS_size _ | with_reducible exact atomS_size _ | with_reducible exact srcS_size _)).mono ?_; rintro e w' ⟨rfl, rfl⟩)
      | (go_at_call 71
         refine (B.write _ (by first | with_reducible exact trim_size (classS_size _) | with_reducible exact trim_size (modeS_size _) | with_reducible exact trim_size (atomS_size _) | with_reducible exact trim_size (srcS_size _) | with_reducible exact endS_size _ | with_reducible exact aluS_size _ | with_reducible exact jumpS_size _ | decide) (by decide)).mono ?_
         rintro e w' ⟨rfl, B'⟩
         replace B := B'
         clear B')
      | (go_at_call 80; refine B.string.mono ?_; rintro e w' ⟨rfl, hbe⟩)
      | (go_at_call 64; refine (Mode_b HM.out _).mono ?_; rintro e w' ⟨rfl, rfl⟩)
      | (go_at_call 30; refine (Atomic_b HA.out _).mono ?_; rintro e w' ⟨rfl, rfl⟩)
      | (go_at_call 31; refine (ClassString _ _ c0 (by omega)).mono ?_; rintro e w' ⟨rfl, hb⟩; replace B := B.below hb; clear hb)
      | (go_at_call 39; refine (AtomString _ _ HAA.out).mono ?_; rintro e w' ⟨rfl, hb⟩; replace B := B.below hb; clear hb)
      | (go_at_call 34; refine (ModeString _ _ HMM.out).mono ?_; rintro e w' ⟨rfl, rfl⟩))
    refine (HS.out _).mono ?_
    rintro e w' ⟨rfl, rfl⟩
    rcases hss with rfl | rfl | rfl | rfl
    all_goals
      go_wp2_with fail
      refine (B.write _ (by decide) (by decide)).mono ?_
      rintro e w' ⟨rfl, B'⟩
      clear B
      go_wp2_with fail
      refine B'.string.mono ?_
      rintro e w' ⟨rfl, hbe⟩
      go_wp2_with fail
      go_ret
      exact ⟨rfl, hbe⟩
set_option maxHeartbeats 4000000 in
set_option maxRecDepth 100000 in
theorem Code_alu (op c k b : Int) (w : World) (hc : oClass op = c) (hl : cLS c = false) (hal : cALU c = true) (hk : oALU op = k) (hkk : k ∈ aluKeys) (hcc : c = 4 ∨ c = 7) (hb8 : oBit op = b) (hbb : b = 0 ∨ b = 8) :
    Calls Tryz.prog 40 #[.int .u32 op] w fun e w' => e = .returned (.string (codeW op)) ∧ Below w.heap.size w w' := by
  have e0 : codeP op = (if k = 208 ∧ c = 7 then [⟨#[66]⟩] else []) ++ [aluS k] ++ (if k = 208 then (if c = 4 then [endS (b % 256)] else []) else [trimW (srcS (b % 65536)) ⟨#[83, 111, 117, 114, 99, 101]⟩] ++ (if c = 4 then [⟨#[51, 50]⟩] else [])) := by
    unfold codeP; rw [hc, if_neg (by rw [hl]; decide), if_pos hal]; unfold aluP; rw [hc, hk, hb8]
  have HBS : b % 256 = b ∧ b % 65536 = b := by omega
  rw [HBS.1, HBS.2] at e0
  unfold codeW
  rw [e0]
  have HC := Lib.hid hc
  have HL := Lib.hid hl
  have HAL := Lib.hid hal
  have HK := Lib.hid hk
  have HKK := Lib.hid hkk
  have HE := Lib.hid (fun W (h : k = 208) => End_swap op W (by rw [hk]; exact h))
  have HB := Lib.hid (fun W (h : k ≠ 208) => Src_ok op W (.inr (by rw [hc]; exact hal)) (by rw [hk]; exact h))
  rw [hb8] at HE HB
  rw [HBS.1] at HE
  rw [HBS.2] at HB
  have HBB := Lib.hid hbb
  have B := Bld.start w
  obtain ⟨S, hS⟩ : ∃ S, catS ((if k = 208 ∧ c = 7 then [⟨#[66]⟩] else []) ++ [aluS k] ++ (if k = 208 then (if c = 4 then [endS b] else []) else [trimW (srcS b) ⟨#[83, 111, 117, 114, 99, 101]⟩] ++ (if c = 4 then [⟨#[51, 50]⟩] else []))) = S := ⟨_, rfl⟩
  rw [hS]
  have HSS := Lib.hid hS
  clear e0 hc hl hal hk hkk hb8 hbb HBS hS
  by_cases h208 : k = 208
  · subst h208
    have HE' := Lib.hid (fun W => HE.out W rfl)
    clear HE HB
    rcases hcc with rfl | rfl
    · go_enter Tryz.func40, Tryz.ntmps40
      go_wp2_with (first
        | (go_at_call 63; refine (Class_b HC.out _).mono ?_; rintro e w' ⟨rfl, rfl⟩)
        | (go_at_call 70; refine (isLS_b HL.out _).mono ?_; rintro e w' ⟨rfl, rfl⟩)
        | (go_at_call 74; refine (isALU_b HAL.out _).mono ?_; rintro e w' ⟨rfl, rfl⟩)
        | (go_at_call 75; refine (ALUOp_b HK.out _).mono ?_; rintro e w' ⟨rfl, rfl⟩)
        | (go_at_call 72; refine (Trim_any _ _ _ (by with_reducible exact srcS_size _)).mono ?_; rintro e w' ⟨rfl, rfl⟩)
        )
      refine (aluString _ _ HKK.out).mono ?_
      rintro e w' ⟨rfl, hb⟩
      replace B := B.below hb
      clear hb
      go_wp2_with fail
      refine (B.write _ (aluS_size _) (by decide)).mono ?_
      rintro e w' ⟨rfl, B'⟩
      clear B
      have B := B'
      clear B'
      go_wp2_with (first
        | (go_at_call 63; refine (Class_b HC.out _).mono ?_; rintro e w' ⟨rfl, rfl⟩)
        | (go_at_call 70; refine (isLS_b HL.out _).mono ?_; rintro e w' ⟨rfl, rfl⟩)
        | (go_at_call 74; refine (isALU_b HAL.out _).mono ?_; rintro e w' ⟨rfl, rfl⟩)
        | (go_at_call 75; refine (ALUOp_b HK.out _).mono ?_; rintro e w' ⟨rfl, rfl⟩)
        | (go_at_call 72; refine (Trim_any _ _ _ (by with_reducible exact srcS_size _)).mono ?_; rintro e w' ⟨rfl, rfl⟩)
        | (go_at_call 76; refine (HE'.out _).mono ?_; rintro e w' ⟨rfl, rfl⟩)
        | (go_at_call 37; refine (EndString _ _ HBB.out).mono ?_; rintro e w' ⟨rfl, rfl⟩))
      refine (B.write _ (endS_size _) (by decide)).mono ?_
      rintro e w' ⟨rfl, B'⟩
      clear B
      have B := B'
      clear B'
      go_wp2_with fail
      refine B.string.mono ?_
      rintro e w' ⟨rfl, hbe⟩
      go_wp2_with fail
      go_ret
      exact ⟨by rw [← HSS.out]; rfl, hbe⟩
    · go_enter Tryz.func40, Tryz.ntmps40
      go_wp2_with (first
        | (go_at_call 63; refine (Class_b HC.out _).mono ?_; rintro e w' ⟨rfl, rfl⟩)
        | (go_at_call 70; refine (isLS_b HL.out _).mono ?_; rintro e w' ⟨rfl, rfl⟩)
        | (go_at_call 74; refine (isALU_b HAL.out _).mono ?_; rintro e w' ⟨rfl, rfl⟩)
        | (go_at_call 75; refine (ALUOp_b HK.out _).mono ?_; rintro e w' ⟨rfl, rfl⟩)
        | (go_at_call 72; refine (Trim_any _ _ _ (by with_reducible exact srcS_size _)).mono ?_; rintro e w' ⟨rfl, rfl⟩)
        )
      refine (B.write _ (by decide) (by decide)).mono ?_
      rintro e w' ⟨rfl, B'⟩
      clear B
      have B := B'
      clear B'
      go_wp2_with (first
        | (go_at_call 63; refine (Class_b HC.out _).mono ?_; rintro e w' ⟨rfl, rfl⟩)
        | (go_at_call 70; refine (isLS_b HL.out _).mono ?_; rintro e w' ⟨rfl, rfl⟩)
        | (go_at_call 74; refine (isALU_b HAL.out _).mono ?_; rintro e w' ⟨rfl, rfl⟩)
        | (go_at_call 75; refine (ALUOp_b HK.out _).mono ?_; rintro e w' ⟨rfl, rfl⟩)
        | (go_at_call 72; refine (Trim_any _ _ _ (by with_reducible exact srcS_size _)).mono ?_; rintro e w' ⟨rfl, rfl⟩)
        )
      refine (aluString _ _ HKK.out).mono ?_
      rintro e w' ⟨rfl, hb⟩
      replace B := B.below hb
      clear hb
      go_wp2_with fail
      refine (B.write _ (aluS_size _) (by decide)).mono ?_
      rintro e w' ⟨rfl, B'⟩
      clear B
      have B := B'
      clear B'
      go_wp2_with (first
        | (go_at_call 63; refine (Class_b HC.out _).mono ?_; rintro e w' ⟨rfl, rfl⟩)
        | (go_at_call 70; refine (isLS_b HL.out _).mono ?_; rintro e w' ⟨rfl, rfl⟩)
        | (go_at_call 74; refine (isALU_b HAL.out _).mono ?_; rintro e w' ⟨rfl, rfl⟩)
        | (go_at_call 75; refine (ALUOp_b HK.out _).mono ?_; rintro e w' ⟨rfl, rfl⟩)
        | (go_at_call 72; refine (Trim_any _ _ _ (by with_reducible exact srcS_size _)).mono ?_; rintro e w' ⟨rfl, rfl⟩)
        )
      refine B.string.mono ?_
      rintro e w' ⟨rfl, hbe⟩
      go_wp2_with fail
      go_ret
      exact ⟨by rw [← HSS.out]; rfl, hbe⟩
  · replace HSS := Lib.hid (show catS ([] ++ [aluS k] ++ ([trimW (srcS b) ⟨#[83, 111, 117, 114, 99, 101]⟩] ++ (if c = 4 then [⟨#[51, 50]⟩] else []))) = S by have h := HSS.out; simp only [h208, false_and, if_false] at h; exact h)
    have HB' := Lib.hid (fun W => HB.out W h208)
    have h208' : (k == 208) = false := by simpa using h208
    clear HE HB h208
    rcases hcc with rfl | rfl
    · go_enter Tryz.func40, Tryz.ntmps40
      go_wp2_with (first
        | (go_at_call 63; refine (Class_b HC.out _).mono ?_; rintro e w' ⟨rfl, rfl⟩)
        | (go_at_call 70; refine (isLS_b HL.out _).mono ?_; rintro e w' ⟨rfl, rfl⟩)
        | (go_at_call 74; refine (isALU_b HAL.out _).mono ?_; rintro e w' ⟨rfl, rfl⟩)
        | (go_at_call 75; refine (ALUOp_b HK.out _).mono ?_; rintro e w' ⟨rfl, rfl⟩)
        | (go_at_call 72; refine (Trim_any _ _ _ (by with_reducible exact srcS_size _)).mono ?_; rintro e w' ⟨rfl, rfl⟩)
        )
      refine (aluString _ _ HKK.out).mono ?_
      rintro e w' ⟨rfl, hb⟩
      replace B := B.below hb
      clear hb
      go_wp2_with fail
      refine (B.write _ (aluS_size _) (by decide)).mono ?_
      rintro e w' ⟨rfl, B'⟩
      clear B
      have B := B'
      clear B'
      go_wp2_with (first
        | (go_at_call 63; refine (Class_b HC.out _).mono ?_; rintro e w' ⟨rfl, rfl⟩)
        | (go_at_call 70; refine (isLS_b HL.out _).mono ?_; rintro e w' ⟨rfl, rfl⟩)
        | (go_at_call 74; refine (isALU_b HAL.out _).mono ?_; rintro e w' ⟨rfl, rfl⟩)
        | (go_at_call 75; refine (ALUOp_b HK.out _).mono ?_; rintro e w' ⟨rfl, rfl⟩)
        | (go_at_call 72; refine (Trim_any _ _ _ (by with_reducible exact srcS_size _)).mono ?_; rintro e w' ⟨rfl, rfl⟩)
        | (go_at_call 77; refine (HB'.out _).mono ?_; rintro e w' ⟨rfl, rfl⟩)
        | (go_at_call 36; refine (SrcString _ _ HBB.out).mono ?_; rintro e w' ⟨rfl, rfl⟩))
      refine (B.write _ (trim_size (srcS_size _)) (by decide)).mono ?_
      rintro e w' ⟨rfl, B'⟩
      clear B
      have B := B'
      clear B'
      go_wp2_with fail
      refine (B.write _ (by decide) (by decide)).mono ?_
      rintro e w' ⟨rfl, B'⟩
      clear B
      have B := B'
      clear B'
      go_wp2_with fail
      refine B.string.mono ?_
      rintro e w' ⟨rfl, hbe⟩
      go_wp2_with fail
      go_ret
      exact ⟨by rw [← HSS.out]; rfl, hbe⟩
    · go_enter Tryz.func40, Tryz.ntmps40
      go_wp2_with (first
        | (go_at_call 63; refine (Class_b HC.out _).mono ?_; rintro e w' ⟨rfl, rfl⟩)
        | (go_at_call 70; refine (isLS_b HL.out _).mono ?_; rintro e w' ⟨rfl, rfl⟩)
        | (go_at_call 74; refine (isALU_b HAL.out _).mono ?_; rintro e w' ⟨rfl, rfl⟩)
        | (go_at_call 75; refine (ALUOp_b HK.out _).mono ?_; rintro e w' ⟨rfl, rfl⟩)
        | (go_at_call 72; refine (Trim_any _ _ _ (by with_reducible exact srcS_size _)).mono ?_; rintro e w' ⟨rfl, rfl⟩)
        )
      refine (aluString _ _ HKK.out).mono ?_
      rintro e w' ⟨rfl, hb⟩
      replace B := B.below hb
      clear hb
      go_wp2_with fail
      refine (B.write _ (aluS_size _) (by decide)).mono ?_
      rintro e w' ⟨rfl, B'⟩
      clear B
      have B := B'
      clear B'
      go_wp2_with (first
        | (go_at_call 63; refine (Class_b HC.out _).mono ?_; rintro e w' ⟨rfl, rfl⟩)
        | (go_at_call 70; refine (isLS_b HL.out _).mono ?_; rintro e w' ⟨rfl, rfl⟩)
        | (go_at_call 74; refine (isALU_b HAL.out _).mono ?_; rintro e w' ⟨rfl, rfl⟩)
        | (go_at_call 75; refine (ALUOp_b HK.out _).mono ?_; rintro e w' ⟨rfl, rfl⟩)
        | (go_at_call 72; refine (Trim_any _ _ _ (by with_reducible exact srcS_size _)).mono ?_; rintro e w' ⟨rfl, rfl⟩)
        | (go_at_call 77; refine (HB'.out _).mono ?_; rintro e w' ⟨rfl, rfl⟩)
        | (go_at_call 36; refine (SrcString _ _ HBB.out).mono ?_; rintro e w' ⟨rfl, rfl⟩))
      refine (B.write _ (trim_size (srcS_size _)) (by decide)).mono ?_
      rintro e w' ⟨rfl, B'⟩
      clear B
      have B := B'
      clear B'
      go_wp2_with fail
      refine B.string.mono ?_
      rintro e w' ⟨rfl, hbe⟩
      go_wp2_with fail
      go_ret
      exact ⟨by rw [← HSS.out]; rfl, hbe⟩
set_option maxHeartbeats 4000000 in
set_option maxRecDepth 100000 in
theorem Code_jump (op c k b : Int) (w : World) (hc : oClass op = c) (hl : cLS c = false) (hal : cALU c = false) (hj : cJump c = true) (hk : oJump op = k) (hkk : k ∈ jumpKeys) (hcc : c = 5 ∨ c = 6) (hb8 : oBit op = b) (hbb : b = 0 ∨ b = 8) (hns : oALU op ≠ 208) :
    Calls Tryz.prog 40 #[.int .u32 op] w fun e w' => e = .returned (.string (codeW op)) ∧ Below w.heap.size w w' := by
  have e0 : codeP op = [jumpS k] ++ (if c = 6 then [⟨#[51, 50]⟩] else []) ++ (if k = 144 ∨ k = 128 ∨ k = 0 then [] else [trimW (srcS (b % 65536)) ⟨#[83, 111, 117, 114, 99, 101]⟩]) := by
    unfold codeP; rw [hc, if_neg (by rw [hl]; decide), if_neg (by rw [hal]; decide)]; unfold jumpP; rw [hc, hk, hb8]
  have HBS : b % 65536 = b := by omega
  rw [HBS] at e0
  unfold codeW
  rw [e0]
  have HC := Lib.hid hc
  have HL := Lib.hid hl
  have HAL := Lib.hid hal
  have HJ := Lib.hid hj
  have HK := Lib.hid hk
  have HKK := Lib.hid hkk
  have HB := Lib.hid (fun W => Src_ok op W (.inl (by rw [hc]; exact hj)) hns)
  rw [hb8, HBS] at HB
  have HBB := Lib.hid hbb
  have B := Bld.start w
  obtain ⟨S, hS⟩ : ∃ S, catS ([jumpS k] ++ (if c = 6 then [⟨#[51, 50]⟩] else []) ++ (if k = 144 ∨ k = 128 ∨ k = 0 then [] else [trimW (srcS b) ⟨#[83, 111, 117, 114, 99, 101]⟩])) = S := ⟨_, rfl⟩
  rw [hS]
  have HSS := Lib.hid hS
  clear e0 hc hl hal hj hk hkk hb8 hbb HBS hS hns
  by_cases h1 : k = 144
  · subst h1
    rcases hcc with rfl | rfl
    · go_enter Tryz.func40, Tryz.ntmps40
      go_wp2_with (first
        | (go_at_call 63; refine (Class_b HC.out _).mono ?_; rintro e w' ⟨rfl, rfl⟩)
        | (go_at_call 70; refine (isLS_b HL.out _).mono ?_; rintro e w' ⟨rfl, rfl⟩)
        | (go_at_call 74; refine (isALU_b HAL.out _).mono ?_; rintro e w' ⟨rfl, rfl⟩)
        | (go_at_call 78; refine (isJump_b HJ.out _).mono ?_; rintro e w' ⟨rfl, rfl⟩)
        | (go_at_call 79; refine (JumpOp_b HK.out _).mono ?_; rintro e w' ⟨rfl, rfl⟩)
        | (go_at_call 72; refine (Trim_any _ _ _ (by with_reducible exact srcS_size _)).mono ?_; rintro e w' ⟨rfl, rfl⟩)
        | (go_at_call 77; refine (HB.out _).mono ?_; rintro e w' ⟨rfl, rfl⟩)
        | (go_at_call 36; refine (SrcString _ _ HBB.out).mono ?_; rintro e w' ⟨rfl, rfl⟩)
        )
      refine (jumpString _ _ HKK.out).mono ?_
      rintro e w' ⟨rfl, hb⟩
      replace B := B.below hb
      clear hb
      go_wp2_with fail
      refine (B.write _ (jumpS_size _) (by decide)).mono ?_
      rintro e w' ⟨rfl, B'⟩
      clear B
      have B := B'
      clear B'
      go_wp2_with (first
        | (go_at_call 63; refine (Class_b HC.out _).mono ?_; rintro e w' ⟨rfl, rfl⟩)
        | (go_at_call 70; refine (isLS_b HL.out _).mono ?_; rintro e w' ⟨rfl, rfl⟩)
        | (go_at_call 74; refine (isALU_b HAL.out _).mono ?_; rintro e w' ⟨rfl, rfl⟩)
        | (go_at_call 78; refine (isJump_b HJ.out _).mono ?_; rintro e w' ⟨rfl, rfl⟩)
        | (go_at_call 79; refine (JumpOp_b HK.out _).mono ?_; rintro e w' ⟨rfl, rfl⟩)
        | (go_at_call 72; refine (Trim_any _ _ _ (by with_reducible exact srcS_size _)).mono ?_; rintro e w' ⟨rfl, rfl⟩)
        | (go_at_call 77; refine (HB.out _).mono ?_; rintro e w' ⟨rfl, rfl⟩)
        | (go_at_call 36; refine (SrcString _ _ HBB.out).mono ?_; rintro e w' ⟨rfl, rfl⟩)
        )
      refine B.string.mono ?_
      rintro e w' ⟨rfl, hbe⟩
      go_wp2_with fail
      go_ret
      exact ⟨by rw [← HSS.out]; rfl, hbe⟩
    · go_enter Tryz.func40, Tryz.ntmps40
      go_wp2_with (first
        | (go_at_call 63; refine (Class_b HC.out _).mono ?_; rintro e w' ⟨rfl, rfl⟩)
        | (go_at_call 70; refine (isLS_b HL.out _).mono ?_; rintro e w' ⟨rfl, rfl⟩)
        | (go_at_call 74; refine (isALU_b HAL.out _).mono ?_; rintro e w' ⟨rfl, rfl⟩)
        | (go_at_call 78; refine (isJump_b HJ.out _).mono ?_; rintro e w' ⟨rfl, rfl⟩)
        | (go_at_call 79; refine (JumpOp_b HK.out _).mono ?_; rintro e w' ⟨rfl, rfl⟩)
        | (go_at_call 72; refine (Trim_any _ _ _ (by with_reducible exact srcS_size _)).mono ?_; rintro e w' ⟨rfl, rfl⟩)
        | (go_at_call 77; refine (HB.out _).mono ?_; rintro e w' ⟨rfl, rfl⟩)
        | (go_at_call 36; refine (SrcString _ _ HBB.out).mono ?_; rintro e w' ⟨rfl, rfl⟩)
        )
      refine (jumpString _ _ HKK.out).mono ?_
      rintro e w' ⟨rfl, hb⟩
      replace B := B.below hb
      clear hb
      go_wp2_with fail
      refine (B.write _ (jumpS_size _) (by decide)).mono ?_
      rintro e w' ⟨rfl, B'⟩
      clear B
      have B := B'
      clear B'
      go_wp2_with (first
        | (go_at_call 63; refine (Class_b HC.out _).mono ?_; rintro e w' ⟨rfl, rfl⟩)
        | (go_at_call 70; refine (isLS_b HL.out _).mono ?_; rintro e w' ⟨rfl, rfl⟩)
        | (go_at_call 74; refine (isALU_b HAL.out _).mono ?_; rintro e w' ⟨rfl, rfl⟩)
        | (go_at_call 78; refine (isJump_b HJ.out _).mono ?_; rintro e w' ⟨rfl, rfl⟩)
        | (go_at_call 79; refine (JumpOp_b HK.out _).mono ?_; rintro e w' ⟨rfl, rfl⟩)
        | (go_at_call 72; refine (Trim_any _ _ _ (by with_reducible exact srcS_size _)).mono ?_; rintro e w' ⟨rfl, rfl⟩)
        | (go_at_call 77; refine (HB.out _).mono ?_; rintro e w' ⟨rfl, rfl⟩)
        | (go_at_call 36; refine (SrcString _ _ HBB.out).mono ?_; rintro e w' ⟨rfl, rfl⟩)
        )
      refine (B.write _ (by decide) (by decide)).mono ?_
      rintro e w' ⟨rfl, B'⟩
      clear B
      have B := B'
      clear B'
      go_wp2_with (first
        | (go_at_call 63; refine (Class_b HC.out _).mono ?_; rintro e w' ⟨rfl, rfl⟩)
        | (go_at_call 70; refine (isLS_b HL.out _).mono ?_; rintro e w' ⟨rfl, rfl⟩)
        | (go_at_call 74; refine (isALU_b HAL.out _).mono ?_; rintro e w' ⟨rfl, rfl⟩)
        | (go_at_call 78; refine (isJump_b HJ.out _).mono ?_; rintro e w' ⟨rfl, rfl⟩)
        | (go_at_call 79; refine (JumpOp_b HK.out _).mono ?_; rintro e w' ⟨rfl, rfl⟩)
        | (go_at_call 72; refine (Trim_any _ _ _ (by with_reducible exact srcS_size _)).mono ?_; rintro e w' ⟨rfl, rfl⟩)
        | (go_at_call 77; refine (HB.out _).mono ?_; rintro e w' ⟨rfl, rfl⟩)
        | (go_at_call 36; refine (SrcString _ _ HBB.out).mono ?_; rintro e w' ⟨rfl, rfl⟩)
        )
      refine B.string.mono ?_
      rintro e w' ⟨rfl, hbe⟩
      go_wp2_with fail
      go_ret
      exact ⟨by rw [← HSS.out]; rfl, hbe⟩
  by_cases h2 : k = 128
  · subst h2
    rcases hcc with rfl | rfl
    · go_enter Tryz.func40, Tryz.ntmps40
      go_wp2_with (first
        | (go_at_call 63; refine (Class_b HC.out _).mono ?_; rintro e w' ⟨rfl, rfl⟩)
        | (go_at_call 70; refine (isLS_b HL.out _).mono ?_; rintro e w' ⟨rfl, rfl⟩)
        | (go_at_call 74; refine (isALU_b HAL.out _).mono ?_; rintro e w' ⟨rfl, rfl⟩)
        | (go_at_call 78; refine (isJump_b HJ.out _).mono ?_; rintro e w' ⟨rfl, rfl⟩)
        | (go_at_call 79; refine (JumpOp_b HK.out _).mono ?_; rintro e w' ⟨rfl, rfl⟩)
        | (go_at_call 72; refine (Trim_any _ _ _ (by with_reducible exact srcS_size _)).mono ?_; rintro e w' ⟨rfl, rfl⟩)
        | (go_at_call 77; refine (HB.out _).mono ?_; rintro e w' ⟨rfl, rfl⟩)
        | (go_at_call 36; refine (SrcString _ _ HBB.out).mono ?_; rintro e w' ⟨rfl, rfl⟩)
        )
      refine (jumpString _ _ HKK.out).mono ?_
      rintro e w' ⟨rfl, hb⟩
      replace B := B.below hb
      clear hb
      go_wp2_with fail
      refine (B.write _ (jumpS_size _) (by decide)).mono ?_
      rintro e w' ⟨rfl, B'⟩
      clear B
      have B := B'
      clear B'
      go_wp2_with (first
        | (go_at_call 63; refine (Class_b HC.out _).mono ?_; rintro e w' ⟨rfl, rfl⟩)
        | (go_at_call 70; refine (isLS_b HL.out _).mono ?_; rintro e w' ⟨rfl, rfl⟩)
        | (go_at_call 74; refine (isALU_b HAL.out _).mono ?_; rintro e w' ⟨rfl, rfl⟩)
        | (go_at_call 78; refine (isJump_b HJ.out _).mono ?_; rintro e w' ⟨rfl, rfl⟩)
        | (go_at_call 79; refine (JumpOp_b HK.out _).mono ?_; rintro e w' ⟨rfl, rfl⟩)
        | (go_at_call 72; refine (Trim_any _ _ _ (by with_reducible exact srcS_size _)).mono ?_; rintro e w' ⟨rfl, rfl⟩)
        | (go_at_call 77; refine (HB.out _).mono ?_; rintro e w' ⟨rfl, rfl⟩)
        | (go_at_call 36; refine (SrcString _ _ HBB.out).mono ?_; rintro e w' ⟨rfl, rfl⟩)
        )
      refine B.string.mono ?_
      rintro e w' ⟨rfl, hbe⟩
      go_wp2_with fail
      go_ret
      exact ⟨by rw [← HSS.out]; rfl, hbe⟩
    · go_enter Tryz.func40, Tryz.ntmps40
      go_wp2_with (first
        | (go_at_call 63; refine (Class_b HC.out _).mono ?_; rintro e w' ⟨rfl, rfl⟩)
        | (go_at_call 70; refine (isLS_b HL.out _).mono ?_; rintro e w' ⟨rfl, rfl⟩)
        | (go_at_call 74; refine (isALU_b HAL.out _).mono ?_; rintro e w' ⟨rfl, rfl⟩)
        | (go_at_call 78; refine (isJump_b HJ.out _).mono ?_; rintro e w' ⟨rfl, rfl⟩)
        | (go_at_call 79; refine (JumpOp_b HK.out _).mono ?_; rintro e w' ⟨rfl, rfl⟩)
        | (go_at_call 72; refine (Trim_any _ _ _ (by with_reducible exact srcS_size _)).mono ?_; rintro e w' ⟨rfl, rfl⟩)
        | (go_at_call 77; refine (HB.out _).mono ?_; rintro e w' ⟨rfl, rfl⟩)
        | (go_at_call 36; refine (SrcString _ _ HBB.out).mono ?_; rintro e w' ⟨rfl, rfl⟩)
        )
      refine (jumpString _ _ HKK.out).mono ?_
      rintro e w' ⟨rfl, hb⟩
      replace B := B.below hb
      clear hb
      go_wp2_with fail
      refine (B.write _ (jumpS_size _) (by decide)).mono ?_
      rintro e w' ⟨rfl, B'⟩
      clear B
      have B := B'
      clear B'
      go_wp2_with (first
        | (go_at_call 63; refine (Class_b HC.out _).mono ?_; rintro e w' ⟨rfl, rfl⟩)
        | (go_at_call 70; refine (isLS_b HL.out _).mono ?_; rintro e w' ⟨rfl, rfl⟩)
        | (go_at_call 74; refine (isALU_b HAL.out _).mono ?_; rintro e w' ⟨rfl, rfl⟩)
        | (go_at_call 78; refine (isJump_b HJ.out _).mono ?_; rintro e w' ⟨rfl, rfl⟩)
        | (go_at_call 79; refine (JumpOp_b HK.out _).mono ?_; rintro e w' ⟨rfl, rfl⟩)
        | (go_at_call 72; refine (Trim_any _ _ _ (by with_reducible exact srcS_size _)).mono ?_; rintro e w' ⟨rfl, rfl⟩)
        | (go_at_call 77; refine (HB.out _).mono ?_; rintro e w' ⟨rfl, rfl⟩)
        | (go_at_call 36; refine (SrcString _ _ HBB.out).mono ?_; rintro e w' ⟨rfl, rfl⟩)
        )
      refine (B.write _ (by decide) (by decide)).mono ?_
      rintro e w' ⟨rfl, B'⟩
      clear B
      have B := B'
      clear B'
      go_wp2_with (first
        | (go_at_call 63; refine (Class_b HC.out _).mono ?_; rintro e w' ⟨rfl, rfl⟩)
        | (go_at_call 70; refine (isLS_b HL.out _).mono ?_; rintro e w' ⟨rfl, rfl⟩)
        | (go_at_call 74; refine (isALU_b HAL.out _).mono ?_; rintro e w' ⟨rfl, rfl⟩)
        | (go_at_call 78; refine (isJump_b HJ.out _).mono ?_; rintro e w' ⟨rfl, rfl⟩)
        | (go_at_call 79; refine (JumpOp_b HK.out _).mono ?_; rintro e w' ⟨rfl, rfl⟩)
        | (go_at_call 72; refine (Trim_any _ _ _ (by with_reducible exact srcS_size _)).mono ?_; rintro e w' ⟨rfl, rfl⟩)
        | (go_at_call 77; refine (HB.out _).mono ?_; rintro e w' ⟨rfl, rfl⟩)
        | (go_at_call 36; refine (SrcString _ _ HBB.out).mono ?_; rintro e w' ⟨rfl, rfl⟩)
        )
      refine B.string.mono ?_
      rintro e w' ⟨rfl, hbe⟩
      go_wp2_with fail
      go_ret
      exact ⟨by rw [← HSS.out]; rfl, hbe⟩
  by_cases h3 : k = 0
  · subst h3
    rcases hcc with rfl | rfl
    · go_enter Tryz.func40, Tryz.ntmps40
      go_wp2_with (first
        | (go_at_call 63; refine (Class_b HC.out _).mono ?_; rintro e w' ⟨rfl, rfl⟩)
        | (go_at_call 70; refine (isLS_b HL.out _).mono ?_; rintro e w' ⟨rfl, rfl⟩)
        | (go_at_call 74; refine (isALU_b HAL.out _).mono ?_; rintro e w' ⟨rfl, rfl⟩)
        | (go_at_call 78; refine (isJump_b HJ.out _).mono ?_; rintro e w' ⟨rfl, rfl⟩)
        | (go_at_call 79; refine (JumpOp_b HK.out _).mono ?_; rintro e w' ⟨rfl, rfl⟩)
        | (go_at_call 72; refine (Trim_any _ _ _ (by with_reducible exact srcS_size _)).mono ?_; rintro e w' ⟨rfl, rfl⟩)
        | (go_at_call 77; refine (HB.out _).mono ?_; rintro e w' ⟨rfl, rfl⟩)
        | (go_at_call 36; refine (SrcString _ _ HBB.out).mono ?_; rintro e w' ⟨rfl, rfl⟩)
        )
      refine (jumpString _ _ HKK.out).mono ?_
      rintro e w' ⟨rfl, hb⟩
      replace B := B.below hb
      clear hb
      go_wp2_with fail
      refine (B.write _ (jumpS_size _) (by decide)).mono ?_
      rintro e w' ⟨rfl, B'⟩
      clear B
      have B := B'
      clear B'
      go_wp2_with (first
        | (go_at_call 63; refine (Class_b HC.out _).mono ?_; rintro e w' ⟨rfl, rfl⟩)
        | (go_at_call 70; refine (isLS_b HL.out _).mono ?_; rintro e w' ⟨rfl, rfl⟩)
        | (go_at_call 74; refine (isALU_b HAL.out _).mono ?_; rintro e w' ⟨rfl, rfl⟩)
        | (go_at_call 78; refine (isJump_b HJ.out _).mono ?_; rintro e w' ⟨rfl, rfl⟩)
        | (go_at_call 79; refine (JumpOp_b HK.out _).mono ?_; rintro e w' ⟨rfl, rfl⟩)
        | (go_at_call 72; refine (Trim_any _ _ _ (by with_reducible exact srcS_size _)).mono ?_; rintro e w' ⟨rfl, rfl⟩)
        | (go_at_call 77; refine (HB.out _).mono ?_; rintro e w' ⟨rfl, rfl⟩)
        | (go_at_call 36; refine (SrcString _ _ HBB.out).mono ?_; rintro e w' ⟨rfl, rfl⟩)
        )
      refine B.string.mono ?_
      rintro e w' ⟨rfl, hbe⟩
      go_wp2_with fail
      go_ret
      exact ⟨by rw [← HSS.out]; rfl, hbe⟩
    · go_enter Tryz.func40, Tryz.ntmps40
      go_wp2_with (first
        | (go_at_call 63; refine (Class_b HC.out _).mono ?_; rintro e w' ⟨rfl, rfl⟩)
        | (go_at_call 70; refine (isLS_b HL.out _).mono ?_; rintro e w' ⟨rfl, rfl⟩)
        | (go_at_call 74; refine (isALU_b HAL.out _).mono ?_; rintro e w' ⟨rfl, rfl⟩)
        | (go_at_call 78; refine (isJump_b HJ.out _).mono ?_; rintro e w' ⟨rfl, rfl⟩)
        | (go_at_call 79; refine (JumpOp_b HK.out _).mono ?_; rintro e w' ⟨rfl, rfl⟩)
        | (go_at_call 72; refine (Trim_any _ _ _ (by with_reducible exact srcS_size _)).mono ?_; rintro e w' ⟨rfl, rfl⟩)
        | (go_at_call 77; refine (HB.out _).mono ?_; rintro e w' ⟨rfl, rfl⟩)
        | (go_at_call 36; refine (SrcString _ _ HBB.out).mono ?_; rintro e w' ⟨rfl, rfl⟩)
        )
      refine (jumpString _ _ HKK.out).mono ?_
      rintro e w' ⟨rfl, hb⟩
      replace B := B.below hb
      clear hb
      go_wp2_with fail
      refine (B.write _ (jumpS_size _) (by decide)).mono ?_
      rintro e w' ⟨rfl, B'⟩
      clear B
      have B := B'
      clear B'
      go_wp2_with (first
        | (go_at_call 63; refine (Class_b HC.out _).mono ?_; rintro e w' ⟨rfl, rfl⟩)
        | (go_at_call 70; refine (isLS_b HL.out _).mono ?_; rintro e w' ⟨rfl, rfl⟩)
        | (go_at_call 74; refine (isALU_b HAL.out _).mono ?_; rintro e w' ⟨rfl, rfl⟩)
        | (go_at_call 78; refine (isJump_b HJ.out _).mono ?_; rintro e w' ⟨rfl, rfl⟩)
        | (go_at_call 79; refine (JumpOp_b HK.out _).mono ?_; rintro e w' ⟨rfl, rfl⟩)
        | (go_at_call 72; refine (Trim_any _ _ _ (by with_reducible exact srcS_size _)).mono ?_; rintro e w' ⟨rfl, rfl⟩)
        | (go_at_call 77; refine (HB.out _).mono ?_; rintro e w' ⟨rfl, rfl⟩)
        | (go_at_call 36; refine (SrcString _ _ HBB.out).mono ?_; rintro e w' ⟨rfl, rfl⟩)
        )
      refine (B.write _ (by decide) (by decide)).mono ?_
      rintro e w' ⟨rfl, B'⟩
      clear B
      have B := B'
      clear B'
      go_wp2_with (first
        | (go_at_call 63; refine (Class_b HC.out _).mono ?_; rintro e w' ⟨rfl, rfl⟩)
        | (go_at_call 70; refine (isLS_b HL.out _).mono ?_; rintro e w' ⟨rfl, rfl⟩)
        | (go_at_call 74; refine (isALU_b HAL.out _).mono ?_; rintro e w' ⟨rfl, rfl⟩)
        | (go_at_call 78; refine (isJump_b HJ.out _).mono ?_; rintro e w' ⟨rfl, rfl⟩)
        | (go_at_call 79; refine (JumpOp_b HK.out _).mono ?_; rintro e w' ⟨rfl, rfl⟩)
        | (go_at_call 72; refine (Trim_any _ _ _ (by with_reducible exact srcS_size _)).mono ?_; rintro e w' ⟨rfl, rfl⟩)
        | (go_at_call 77; refine (HB.out _).mono ?_; rintro e w' ⟨rfl, rfl⟩)
        | (go_at_call 36; refine (SrcString _ _ HBB.out).mono ?_; rintro e w' ⟨rfl, rfl⟩)
        )
      refine B.string.mono ?_
      rintro e w' ⟨rfl, hbe⟩
      go_wp2_with fail
      go_ret
      exact ⟨by rw [← HSS.out]; rfl, hbe⟩
  · replace HSS := Lib.hid (show catS ([jumpS k] ++ (if c = 6 then [⟨#[51, 50]⟩] else []) ++ [trimW (srcS b) ⟨#[83, 111, 117, 114, 99, 101]⟩]) = S by have h := HSS.out; simp only [h1, h2, h3, false_or, if_false] at h; exact h)
    have g1 : (k == 144) = false := by simpa using h1
    have g2 : (k == 128) = false := by simpa using h2
    have g3 : (k == 0) = false := by simpa using h3
    have g4 : (k != 144) = true := by simpa using h1
    have g5 : (k != 128) = true := by simpa using h2
    have g6 : (k != 0) = true := by simpa using h3
    clear h1 h2 h3
    rcases hcc with rfl | rfl
    · go_enter Tryz.func40, Tryz.ntmps40
      go_wp2_with (first
        | (go_at_call 63; refine (Class_b HC.out _).mono ?_; rintro e w' ⟨rfl, rfl⟩)
        | (go_at_call 70; refine (isLS_b HL.out _).mono ?_; rintro e w' ⟨rfl, rfl⟩)
        | (go_at_call 74; refine (isALU_b HAL.out _).mono ?_; rintro e w' ⟨rfl, rfl⟩)
        | (go_at_call 78; refine (isJump_b HJ.out _).mono ?_; rintro e w' ⟨rfl, rfl⟩)
        | (go_at_call 79; refine (JumpOp_b HK.out _).mono ?_; rintro e w' ⟨rfl, rfl⟩)
        | (go_at_call 72; refine (Trim_any _ _ _ (by with_reducible exact srcS_size _)).mono ?_; rintro e w' ⟨rfl, rfl⟩)
        | (go_at_call 77; refine (HB.out _).mono ?_; rintro e w' ⟨rfl, rfl⟩)
        | (go_at_call 36; refine (SrcString _ _ HBB.out).mono ?_; rintro e w' ⟨rfl, rfl⟩)
        )
      refine (jumpString _ _ HKK.out).mono ?_
      rintro e w' ⟨rfl, hb⟩
      replace B := B.below hb
      clear hb
      go_wp2_with fail
      refine (B.write _ (jumpS_size _) (by decide)).mono ?_
      rintro e w' ⟨rfl, B'⟩
      clear B
      have B := B'
      clear B'
      go_wp2_with (first
        | (go_at_call 63; refine (Class_b HC.out _).mono ?_; rintro e w' ⟨rfl, rfl⟩)
        | (go_at_call 70; refine (isLS_b HL.out _).mono ?_; rintro e w' ⟨rfl, rfl⟩)
        | (go_at_call 74; refine (isALU_b HAL.out _).mono ?_; rintro e w' ⟨rfl, rfl⟩)
        | (go_at_call 78; refine (isJump_b HJ.out _).mono ?_; rintro e w' ⟨rfl, rfl⟩)
        | (go_at_call 79; refine (JumpOp_b HK.out _).mono ?_; rintro e w' ⟨rfl, rfl⟩)
        | (go_at_call 72; refine (Trim_any _ _ _ (by with_reducible exact srcS_size _)).mono ?_; rintro e w' ⟨rfl, rfl⟩)
        | (go_at_call 77; refine (HB.out _).mono ?_; rintro e w' ⟨rfl, rfl⟩)
        | (go_at_call 36; refine (SrcString _ _ HBB.out).mono ?_; rintro e w' ⟨rfl, rfl⟩)
        )
      refine (B.write _ (trim_size (srcS_size _)) (by decide)).mono ?_
      rintro e w' ⟨rfl, B'⟩
      clear B
      have B := B'
      clear B'
      go_wp2_with fail
      refine B.string.mono ?_
      rintro e w' ⟨rfl, hbe⟩
      go_wp2_with fail
      go_ret
      exact ⟨by rw [← HSS.out]; rfl, hbe⟩
    · go_enter Tryz.func40, Tryz.ntmps40
      go_wp2_with (first
        | (go_at_call 63; refine (Class_b HC.out _).mono ?_; rintro e w' ⟨rfl, rfl⟩)
        | (go_at_call 70; refine (isLS_b HL.out _).mono ?_; rintro e w' ⟨rfl, rfl⟩)
        | (go_at_call 74; refine (isALU_b HAL.out _).mono ?_; rintro e w' ⟨rfl, rfl⟩)
        | (go_at_call 78; refine (isJump_b HJ.out _).mono ?_; rintro e w' ⟨rfl, rfl⟩)
        | (go_at_call 79; refine (JumpOp_b HK.out _).mono ?_; rintro e w' ⟨rfl, rfl⟩)
        | (go_at_call 72; refine (Trim_any _ _ _ (by with_reducible exact srcS_size _)).mono ?_; rintro e w' ⟨rfl, rfl⟩)
        | (go_at_call 77; refine (HB.out _).mono ?_; rintro e w' ⟨rfl, rfl⟩)
        | (go_at_call 36; refine (SrcString _ _ HBB.out).mono ?_; rintro e w' ⟨rfl, rfl⟩)
        )
      refine (jumpString _ _ HKK.out).mono ?_
      rintro e w' ⟨rfl, hb⟩
      replace B := B.below hb
      clear hb
      go_wp2_with fail
      refine (B.write _ (jumpS_size _) (by decide)).mono ?_
      rintro e w' ⟨rfl, B'⟩
      clear B
      have B := B'
      clear B'
      go_wp2_with (first
        | (go_at_call 63; refine (Class_b HC.out _).mono ?_; rintro e w' ⟨rfl, rfl⟩)
        | (go_at_call 70; refine (isLS_b HL.out _).mono ?_; rintro e w' ⟨rfl, rfl⟩)
        | (go_at_call 74; refine (isALU_b HAL.out _).mono ?_; rintro e w' ⟨rfl, rfl⟩)
        | (go_at_call 78; refine (isJump_b HJ.out _).mono ?_; rintro e w' ⟨rfl, rfl⟩)
        | (go_at_call 79; refine (JumpOp_b HK.out _).mono ?_; rintro e w' ⟨rfl, rfl⟩)
        | (go_at_call 72; refine (Trim_any _ _ _ (by with_reducible exact srcS_size _)).mono ?_; rintro e w' ⟨rfl, rfl⟩)
        | (go_at_call 77; refine (HB.out _).mono ?_; rintro e w' ⟨rfl, rfl⟩)
        | (go_at_call 36; refine (SrcString _ _ HBB.out).mono ?_; rintro e w' ⟨rfl, rfl⟩)
        )
      refine (B.write _ (by decide) (by decide)).mono ?_
      rintro e w' ⟨rfl, B'⟩
      clear B
      have B := B'
      clear B'
      go_wp2_with (first
        | (go_at_call 63; refine (Class_b HC.out _).mono ?_; rintro e w' ⟨rfl, rfl⟩)
        | (go_at_call 70; refine (isLS_b HL.out _).mono ?_; rintro e w' ⟨rfl, rfl⟩)
        | (go_at_call 74; refine (isALU_b HAL.out _).mono ?_; rintro e w' ⟨rfl, rfl⟩)
        | (go_at_call 78; refine (isJump_b HJ.out _).mono ?_; rintro e w' ⟨rfl, rfl⟩)
        | (go_at_call 79; refine (JumpOp_b HK.out _).mono ?_; rintro e w' ⟨rfl, rfl⟩)
        | (go_at_call 72; refine (Trim_any _ _ _ (by with_reducible exact srcS_size _)).mono ?_; rintro e w' ⟨rfl, rfl⟩)
        | (go_at_call 77; refine (HB.out _).mono ?_; rintro e w' ⟨rfl, rfl⟩)
        | (go_at_call 36; refine (SrcString _ _ HBB.out).mono ?_; rintro e w' ⟨rfl, rfl⟩)
        )
      refine (B.write _ (trim_size (srcS_size _)) (by decide)).mono ?_
      rintro e w' ⟨rfl, B'⟩
      clear B
      have B := B'
      clear B'
      go_wp2_with fail
      refine B.string.mono ?_
      rintro e w' ⟨rfl, hbe⟩
      go_wp2_with fail
      go_ret
      exact ⟨by rw [← HSS.out]; rfl, hbe⟩
theorem CodeString (op : Int) (w : World) (h : op ∈ wordOps) : Calls Tryz.prog 40 #[.int .u32 op] w fun e w' => e = .returned (.string (codeW op)) ∧ Below w.heap.size w w' := by
  have hc := wchk_all op h
  unfold wchk at hc
  by_cases hl : cLS (oClass op) = true
  · rw [if_pos hl] at hc
    simp only [Bool.and_eq_true, Bool.or_eq_true, decide_eq_true_eq, List.mem_cons, List.not_mem_nil, or_false] at hc
    obtain ⟨⟨⟨⟨c0, c1⟩, hm⟩, ha⟩, hs⟩ := hc
    exact Code_ls op _ _ _ _ w rfl hl rfl rfl rfl c0 c1 hm ha hs
  · rw [if_neg hl] at hc
    have hl' : cLS (oClass op) = false := by simpa using hl
    by_cases hal : cALU (oClass op) = true
    · rw [if_pos hal] at hc
      simp only [Bool.and_eq_true, decide_eq_true_eq] at hc
      obtain ⟨⟨hk, hcc⟩, hb⟩ := hc
      exact Code_alu op _ _ _ w rfl hl' hal rfl hk hcc rfl hb
    · rw [if_neg hal] at hc
      have hal' : cALU (oClass op) = false := by simpa using hal
      simp only [Bool.and_eq_true, decide_eq_true_eq] at hc
      obtain ⟨⟨⟨⟨hj, hk⟩, hcc⟩, hb⟩, hns⟩ := hc
      exact Code_jump op _ _ _ w rfl hl' hal' hj rfl hk hcc rfl hb hns
end Go.Proofs.YtobgjmgepckijaaGreatDoor
