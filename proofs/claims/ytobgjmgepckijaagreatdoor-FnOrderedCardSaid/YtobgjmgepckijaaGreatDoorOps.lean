/- The small functions of package asm over codes, each by a contract: what it hands back is a plain function of the code; the world is as it was. -/
import Derived.Test.YtobgjmgepckijaaGreatDoorProg
import Derived.Test.YtobgjmgepckijaaGreatDoorPlain
import Derived.WalkKit
import Derived.KernelRfl
import Derived.Below
import Derived.WalkLawsBesides
import Derived.WalkSpells
import Derived.Lib.Hide
namespace Go.Proofs.YtobgjmgepckijaaGreatDoor
open Go.RowKit
set_option linter.unusedVariables false
set_option linter.unusedSimpArgs false

def oClass (a : Int) : Int := bits .and .u32 a 7 % 256
def cLS (c : Int) : Bool := c == 0 || c == 1 || c == 2 || c == 3
def cJump (c : Int) : Bool := c == 5 || c == 6
def cALU (c : Int) : Bool := c == 4 || c == 7
def oMode (a : Int) : Int := if cLS (oClass a) = true then bits .and .u32 a 224 % 256 else 255
def oAtomic (a : Int) : Int := if oClass a = 3 ∧ oMode a = 192 then bits .and .u32 a 130816 else 4294967295
theorem u32_bits_range (op : BinOp) (a b : Int) (h : op = .and ∨ op = .or ∨ op = .xor ∨ op = .andNot) : 0 ≤ bits op .u32 a b ∧ bits op .u32 a b ≤ 4294967295 := by
  rcases h with rfl | rfl | rfl | rfl
  all_goals (show 0 ≤ IntKind.u32.wrap _ ∧ IntKind.u32.wrap _ ≤ 4294967295; rw [IntKind.wrap_u32]; omega)
theorem oAtomic_range (a : Int) : 0 ≤ oAtomic a ∧ oAtomic a ≤ 4294967295 := by
  unfold oAtomic
  split
  · exact u32_bits_range .and _ _ (.inl rfl)
  · decide

set_option maxHeartbeats 1000000 in
set_option maxRecDepth 100000 in
theorem Class_any (a : Int) (w : World) : Calls Tryz.prog 63 #[.int .u32 a] w fun e w' => e = .returned (.int .u8 (oClass a)) ∧ w = w' := by
  go_enter Tryz.func63, Tryz.ntmps63
  go_wp2
  go_ret
  exact ⟨rfl, rfl⟩
set_option maxHeartbeats 1000000 in
set_option maxRecDepth 100000 in
theorem isLS_any (c : Int) (w : World) : Calls Tryz.prog 70 #[.int .u8 c] w fun e w' => e = .returned (.bool (cLS c)) ∧ w = w' := by
  by_cases h0 : c = 0
  · subst h0; go_enter Tryz.func70, Tryz.ntmps70; go_wp2; go_ret; exact ⟨rfl, rfl⟩
  by_cases h1 : c = 1
  · subst h1; go_enter Tryz.func70, Tryz.ntmps70; go_wp2; go_ret; exact ⟨rfl, rfl⟩
  by_cases h2 : c = 2
  · subst h2; go_enter Tryz.func70, Tryz.ntmps70; go_wp2; go_ret; exact ⟨rfl, rfl⟩
  by_cases h3 : c = 3
  · subst h3; go_enter Tryz.func70, Tryz.ntmps70; go_wp2; go_ret; exact ⟨rfl, rfl⟩
  have e0 : (c == 0) = false := by simpa using h0
  have e1 : (c == 1) = false := by simpa using h1
  have e2 : (c == 2) = false := by simpa using h2
  have e3 : (c == 3) = false := by simpa using h3
  have e : cLS c = false := by simp [cLS, e0, e1, e2, e3]
  rw [e]
  clear h0 h1 h2 h3 e
  go_enter Tryz.func70, Tryz.ntmps70
  go_wp2
  go_ret
  exact ⟨rfl, rfl⟩
set_option maxHeartbeats 1000000 in
set_option maxRecDepth 100000 in
theorem isJump_any (c : Int) (w : World) : Calls Tryz.prog 78 #[.int .u8 c] w fun e w' => e = .returned (.bool (cJump c)) ∧ w = w' := by
  by_cases h0 : c = 5
  · subst h0; go_enter Tryz.func78, Tryz.ntmps78; go_wp2; go_ret; exact ⟨rfl, rfl⟩
  by_cases h1 : c = 6
  · subst h1; go_enter Tryz.func78, Tryz.ntmps78; go_wp2; go_ret; exact ⟨rfl, rfl⟩
  have e0 : (c == 5) = false := by simpa using h0
  have e1 : (c == 6) = false := by simpa using h1
  have e : cJump c = false := by simp [cJump, e0, e1]
  rw [e]
  clear h0 h1 e
  go_enter Tryz.func78, Tryz.ntmps78
  go_wp2
  go_ret
  exact ⟨rfl, rfl⟩
set_option maxHeartbeats 1000000 in
set_option maxRecDepth 100000 in
theorem Mode_any (a : Int) (w : World) : Calls Tryz.prog 64 #[.int .u32 a] w fun e w' => e = .returned (.int .u8 (oMode a)) ∧ w = w' := by
  unfold oMode
  cases h : cLS (oClass a)
  all_goals
    go_enter Tryz.func64, Tryz.ntmps64
    go_wp2_with (first | (go_at_call 63; refine (Class_any _ _).mono ?_; rintro e w' ⟨rfl, rfl⟩) | (go_at_call 70; refine (isLS_any _ _).mono ?_; rintro e w' ⟨rfl, rfl⟩))
    go_ret
    exact ⟨by simp, rfl⟩
set_option maxHeartbeats 1000000 in
set_option maxRecDepth 100000 in
theorem AtomicOp_any (a : Int) (w : World) : Calls Tryz.prog 30 #[.int .u32 a] w fun e w' => e = .returned (.int .u32 (oAtomic a)) ∧ w = w' := by
  unfold oAtomic
  by_cases h3 : oClass a = 3
  · have e3 : (oClass a != 3) = false := by simp [h3]
    by_cases hm : oMode a = 192
    · rw [if_pos ⟨h3, hm⟩]
      have em : (oMode a != 192) = false := by simp [hm]
      clear h3 hm
      go_enter Tryz.func30, Tryz.ntmps30
      go_wp2_with (first | (go_at_call 63; refine (Class_any _ _).mono ?_; rintro e w' ⟨rfl, rfl⟩) | (go_at_call 64; refine (Mode_any _ _).mono ?_; rintro e w' ⟨rfl, rfl⟩))
      go_ret
      exact ⟨rfl, rfl⟩
    · rw [if_neg (fun h => hm h.2)]
      have em : (oMode a != 192) = true := by simp [hm]
      clear h3 hm
      go_enter Tryz.func30, Tryz.ntmps30
      go_wp2_with (first | (go_at_call 63; refine (Class_any _ _).mono ?_; rintro e w' ⟨rfl, rfl⟩) | (go_at_call 64; refine (Mode_any _ _).mono ?_; rintro e w' ⟨rfl, rfl⟩))
      go_ret
      exact ⟨rfl, rfl⟩
  · rw [if_neg (fun h => h3 h.1)]
    have e3 : (oClass a != 3) = true := by simp [h3]
    clear h3
    go_enter Tryz.func30, Tryz.ntmps30
    go_wp2_with (go_at_call 63; refine (Class_any _ _).mono ?_; rintro e w' ⟨rfl, rfl⟩)
    go_ret
    exact ⟨rfl, rfl⟩
set_option maxHeartbeats 1000000 in
set_option maxRecDepth 100000 in
theorem AtomicOf_any (a : Int) (w : World) (h0 : 0 ≤ a) (h1 : a < 131072) : Calls Tryz.prog 13 #[.int .i64 a] w fun e w' => e = .returned (.int .i64 (oAtomic a)) ∧ w = w' := by
  have hb := oAtomic_range a
  obtain ⟨hb0, hb1⟩ := hb
  go_enter Tryz.func13, Tryz.ntmps13
  go_wp2_with (go_at_call 30; refine (AtomicOp_any _ _).mono ?_; rintro e w' ⟨rfl, rfl⟩)
  go_ret
  exact ⟨rfl, rfl⟩
set_option maxHeartbeats 1000000 in
set_option maxRecDepth 100000 in
theorem valid_atomic (m : Int) (w : World) (hv : bits .and .u32 m 4294836479 = 0) : Calls Tryz.prog 125 #[.int .u32 m, .int .u32 130816] w fun e w' => e = .returned (.bool true) ∧ w = w' := by
  have hx : bits .xor .u32 IntKind.u32.max 130816 = 4294836479 := by decide
  go_enter Tryz.func125, Tryz.ntmps125
  go_wp2
  go_ret
  exact ⟨by simp [hx, hv], rfl⟩
def oSetAtomic (a m : Int) : Int := if oClass a = 3 ∧ oMode a = 192 then bits .or .u32 (bits .and .u32 a 4294836479) m else 65535
set_option maxHeartbeats 1000000 in
set_option maxRecDepth 100000 in
theorem SetAtomicOp_any (a m : Int) (w : World) (hv : bits .and .u32 m 4294836479 = 0) :
    Calls Tryz.prog 109 #[.int .u32 a, .int .u32 m] w fun e w' => e = .returned (.int .u32 (oSetAtomic a m)) ∧ w = w' := by
  have HV := Lib.hid hv
  clear hv
  unfold oSetAtomic
  by_cases h3 : oClass a = 3
  · have e3 : (oClass a != 3) = false := by simp [h3]
    by_cases hm : oMode a = 192
    · rw [if_pos ⟨h3, hm⟩]
      have em : (oMode a != 192) = false := by simp [hm]
      clear h3 hm
      go_enter Tryz.func109, Tryz.ntmps109
      go_wp2_with (first | (go_at_call 63; refine (Class_any _ _).mono ?_; rintro e w' ⟨rfl, rfl⟩) | (go_at_call 64; refine (Mode_any _ _).mono ?_; rintro e w' ⟨rfl, rfl⟩) | (go_at_call 125; refine (valid_atomic _ _ HV.out).mono ?_; rintro e w' ⟨rfl, rfl⟩))
      go_ret
      exact ⟨rfl, rfl⟩
    · rw [if_neg (fun h => hm h.2)]
      have em : (oMode a != 192) = true := by simp [hm]
      clear h3 hm
      go_enter Tryz.func109, Tryz.ntmps109
      go_wp2_with (first | (go_at_call 63; refine (Class_any _ _).mono ?_; rintro e w' ⟨rfl, rfl⟩) | (go_at_call 64; refine (Mode_any _ _).mono ?_; rintro e w' ⟨rfl, rfl⟩))
      go_ret
      exact ⟨rfl, rfl⟩
  · rw [if_neg (fun h => h3 h.1)]
    have e3 : (oClass a != 3) = true := by simp [h3]
    clear h3
    go_enter Tryz.func109, Tryz.ntmps109
    go_wp2_with (go_at_call 63; refine (Class_any _ _).mono ?_; rintro e w' ⟨rfl, rfl⟩)
    go_ret
    exact ⟨rfl, rfl⟩
theorem oSetAtomic_range (a m : Int) : 0 ≤ oSetAtomic a m ∧ oSetAtomic a m ≤ 4294967295 := by
  unfold oSetAtomic
  split
  · exact u32_bits_range .or _ _ (.inr (.inl rfl))
  · decide
def oJump (a : Int) : Int :=
  if cJump (oClass a) = true then (if oClass a = 6 ∧ (bits .and .u32 a 240 % 256 = 144 ∨ bits .and .u32 a 240 % 256 = 128) then 255 else bits .and .u32 a 240 % 256) else 255
set_option maxHeartbeats 1000000 in
set_option maxRecDepth 100000 in
theorem JumpOp_any (a : Int) (w : World) : Calls Tryz.prog 79 #[.int .u32 a] w fun e w' => e = .returned (.int .u8 (oJump a)) ∧ w = w' := by
  unfold oJump
  cases hc : cJump (oClass a)
  · go_enter Tryz.func79, Tryz.ntmps79
    go_wp2_with (first | (go_at_call 63; refine (Class_any _ _).mono ?_; rintro e w' ⟨rfl, rfl⟩) | (go_at_call 78; refine (isJump_any _ _).mono ?_; rintro e w' ⟨rfl, rfl⟩))
    go_ret
    exact ⟨rfl, rfl⟩
  · rw [if_pos rfl]
    by_cases h6 : oClass a = 6
    · have b6 : (oClass a == 6) = true := by simp [h6]
      by_cases h1 : bits .and .u32 a 240 % 256 = 144
      · rw [if_pos ⟨h6, .inl h1⟩]
        have b1 : (bits .and .u32 a 240 % 256 == 144) = true := by simp [h1]
        clear h6 h1
        go_enter Tryz.func79, Tryz.ntmps79
        go_wp2_with (first | (go_at_call 63; refine (Class_any _ _).mono ?_; rintro e w' ⟨rfl, rfl⟩) | (go_at_call 78; refine (isJump_any _ _).mono ?_; rintro e w' ⟨rfl, rfl⟩))
        go_ret
        exact ⟨rfl, rfl⟩
      · have b1 : (bits .and .u32 a 240 % 256 == 144) = false := by simp [h1]
        by_cases h2 : bits .and .u32 a 240 % 256 = 128
        · rw [if_pos ⟨h6, .inr h2⟩]
          have b2 : (bits .and .u32 a 240 % 256 == 128) = true := by simp [h2]
          clear h6 h1 h2
          go_enter Tryz.func79, Tryz.ntmps79
          go_wp2_with (first | (go_at_call 63; refine (Class_any _ _).mono ?_; rintro e w' ⟨rfl, rfl⟩) | (go_at_call 78; refine (isJump_any _ _).mono ?_; rintro e w' ⟨rfl, rfl⟩))
          go_ret
          exact ⟨rfl, rfl⟩
        · rw [if_neg (fun h => h.2.elim h1 h2)]
          have b2 : (bits .and .u32 a 240 % 256 == 128) = false := by simp [h2]
          clear h6 h1 h2
          go_enter Tryz.func79, Tryz.ntmps79
          go_wp2_with (first | (go_at_call 63; refine (Class_any _ _).mono ?_; rintro e w' ⟨rfl, rfl⟩) | (go_at_call 78; refine (isJump_any _ _).mono ?_; rintro e w' ⟨rfl, rfl⟩))
          go_ret
          exact ⟨rfl, rfl⟩
    · rw [if_neg (fun h => h6 h.1)]
      have b6 : (oClass a == 6) = false := by simp [h6]
      clear h6
      go_enter Tryz.func79, Tryz.ntmps79
      go_wp2_with (first | (go_at_call 63; refine (Class_any _ _).mono ?_; rintro e w' ⟨rfl, rfl⟩) | (go_at_call 78; refine (isJump_any _ _).mono ?_; rintro e w' ⟨rfl, rfl⟩))
      go_ret
      exact ⟨rfl, rfl⟩
set_option maxHeartbeats 1000000 in
set_option maxRecDepth 100000 in
theorem LoadImmOp24 (w : World) : Calls Tryz.prog 119 #[.int .u8 24] w fun e w' => e = .returned (.int .u32 24) ∧ w = w' := by
  go_enter Tryz.func119, Tryz.ntmps119
  go_wp2
  go_ret
  exact ⟨rfl, rfl⟩
set_option maxHeartbeats 1000000 in
set_option maxRecDepth 100000 in
theorem IsDW_any (a : Int) (w : World) : Calls Tryz.prog 95 #[.int .u32 a] w fun e w' => e = .returned (.bool (a == 24)) ∧ w = w' := by
  go_enter Tryz.func95, Tryz.ntmps95
  go_wp2_with (go_at_call 119; refine (LoadImmOp24 _).mono ?_; rintro e w' ⟨rfl, rfl⟩)
  go_ret
  exact ⟨rfl, rfl⟩
def rawN (a : Int) : Int := if a = 24 then 2 else 1
set_option maxHeartbeats 1000000 in
set_option maxRecDepth 100000 in
theorem raw_any (a : Int) (w : World) : Calls Tryz.prog 105 #[.int .u32 a] w fun e w' => e = .returned (.int .i64 (rawN a)) ∧ w = w' := by
  unfold rawN
  by_cases h : a = 24
  · subst h
    go_enter Tryz.func105, Tryz.ntmps105
    go_wp2_with (go_at_call 95; refine (IsDW_any _ _).mono ?_; rintro e w' ⟨rfl, rfl⟩)
    go_ret
    exact ⟨rfl, rfl⟩
  · rw [if_neg h]
    have b : (a == 24) = false := by simp [h]
    clear h
    go_enter Tryz.func105, Tryz.ntmps105
    go_wp2_with (go_at_call 95; refine (IsDW_any _ _).mono ?_; rintro e w' ⟨rfl, rfl⟩)
    go_ret
    exact ⟨rfl, rfl⟩
end Go.Proofs.YtobgjmgepckijaaGreatDoor
