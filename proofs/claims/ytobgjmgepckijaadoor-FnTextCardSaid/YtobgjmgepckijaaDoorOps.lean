/- The small functions of package asm over codes, each by a contract: what it hands back is a plain function of the code; the world is as it was. -/
import Derived.Test.YtobgjmgepckijaaDoorProg
import Derived.Test.YtobgjmgepckijaaDoorPlain
import Derived.WalkKit
import Derived.KernelRfl
import Derived.Below
import Derived.WalkLawsBesides
import Derived.WalkSpells
import Derived.Lib.Hide
namespace Go.Proofs.YtobgjmgepckijaaDoor
open Go.RowKit
set_option linter.unusedVariables false
set_option linter.unusedSimpArgs false

def oClass (a : Int) : Int := bits .and .u32 a 7 % 256
def cLS (c : Int) : Bool := c == 0 || c == 1 || c == 2 || c == 3
def cJump (c : Int) : Bool := c == 5 || c == 6
def cALU (c : Int) : Bool := c == 4 || c == 7
def oMode (a : Int) : Int := if cLS (oClass a) = true then bits .and .u32 a 224 % 256 else 255
def oAtomic (a : Int) : Int := if oClass a = 3 ∧ oMode a = 192 then bits .and .u32 a 130816 else 4294967295
theorem u32_bits_range (op : BinOp) (a b : Int) (h : op = .and ∨ op = .or ∨ op = .xor ∨ op = .andNot) : 0 ≤ bits op .u32 a b ∧ bits op .u32 a b ≤ 4294967295 := by
  rcases h with rfl | rfl | rfl | rfl
  all_goals (show 0 ≤ IntKind.u32.wrap _ ∧ IntKind.u32.wrap _ ≤ 4294967295; rw [IntKind.wrap_u32]; omega)
theorem oAtomic_range (a : Int) : 0 ≤ oAtomic a ∧ oAtomic a ≤ 4294967295 := by
  unfold oAtomic
  split
  · exact u32_bits_range .and _ _ (.inl rfl)
  · decide

set_option maxHeartbeats 1000000 in
set_option maxRecDepth 100000 in
theorem Class_any (a : Int) (w : World) : Calls Tryd.prog 44 #[.int .u32 a] w fun e w' => e = .returned (.int .u8 (oClass a)) ∧ w = w' := by
  go_enter Tryd.func44, Tryd.ntmps44
  go_wp2
  go_ret
  exact ⟨rfl, rfl⟩
set_option maxHeartbeats 1000000 in
set_option maxRecDepth 100000 in
theorem isLS_any (c : Int) (w : World) : Calls Tryd.prog 45 #[.int .u8 c] w fun e w' => e = .returned (.bool (cLS c)) ∧ w = w' := by
  by_cases h0 : c = 0
  · subst h0; go_enter Tryd.func45, Tryd.ntmps45; go_wp2; go_ret; exact ⟨rfl, rfl⟩
  by_cases h1 : c = 1
  · subst h1; go_enter Tryd.func45, Tryd.ntmps45; go_wp2; go_ret; exact ⟨rfl, rfl⟩
  by_cases h2 : c = 2
  · subst h2; go_enter Tryd.func45, Tryd.ntmps45; go_wp2; go_ret; exact ⟨rfl, rfl⟩
  by_cases h3 : c = 3
  · subst h3; go_enter Tryd.func45, Tryd.ntmps45; go_wp2; go_ret; exact ⟨rfl, rfl⟩
  have e0 : (c == 0) = false := by simpa using h0
  have e1 : (c == 1) = false := by simpa using h1
  have e2 : (c == 2) = false := by simpa using h2
  have e3 : (c == 3) = false := by simpa using h3
  have e : cLS c = false := by simp [cLS, e0, e1, e2, e3]
  rw [e]
  clear h0 h1 h2 h3 e
  go_enter Tryd.func45, Tryd.ntmps45
  go_wp2
  go_ret
  exact ⟨rfl, rfl⟩
set_option maxHeartbeats 1000000 in
set_option maxRecDepth 100000 in
theorem isJump_any (c : Int) (w : World) : Calls Tryd.prog 55 #[.int .u8 c] w fun e w' => e = .returned (.bool (cJump c)) ∧ w = w' := by
  by_cases h0 : c = 5
  · subst h0; go_enter Tryd.func55, Tryd.ntmps55; go_wp2; go_ret; exact ⟨rfl, rfl⟩
  by_cases h1 : c = 6
  · subst h1; go_enter Tryd.func55, Tryd.ntmps55; go_wp2; go_ret; exact ⟨rfl, rfl⟩
  have e0 : (c == 5) = false := by simpa using h0
  have e1 : (c == 6) = false := by simpa using h1
  have e : cJump c = false := by simp [cJump, e0, e1]
  rw [e]
  clear h0 h1 e
  go_enter Tryd.func55, Tryd.ntmps55
  go_wp2
  go_ret
  exact ⟨rfl, rfl⟩
set_option maxHeartbeats 1000000 in
set_option maxRecDepth 100000 in
theorem Mode_any (a : Int) (w : World) : Calls Tryd.prog 48 #[.int .u32 a] w fun e w' => e = .returned (.int .u8 (oMode a)) ∧ w = w' := by
  unfold oMode
  cases h : cLS (oClass a)
  all_goals
    go_enter Tryd.func48, Tryd.ntmps48
    go_wp2_with (first | (go_at_call 44; refine (Class_any _ _).mono ?_; rintro e w' ⟨rfl, rfl⟩) | (go_at_call 45; refine (isLS_any _ _).mono ?_; rintro e w' ⟨rfl, rfl⟩))
    go_ret
    exact ⟨by simp, rfl⟩
set_option maxHeartbeats 1000000 in
set_option maxRecDepth 100000 in
theorem AtomicOp_any (a : Int) (w : World) : Calls Tryd.prog 49 #[.int .u32 a] w fun e w' => e = .returned (.int .u32 (oAtomic a)) ∧ w = w' := by
  unfold oAtomic
  by_cases h3 : oClass a = 3
  · have e3 : (oClass a != 3) = false := by simp [h3]
    by_cases hm : oMode a = 192
    · rw [if_pos ⟨h3, hm⟩]
      have em : (oMode a != 192) = false := by simp [hm]
      clear h3 hm
      go_enter Tryd.func49, Tryd.ntmps49
      go_wp2_with (first | (go_at_call 44; refine (Class_any _ _).mono ?_; rintro e w' ⟨rfl, rfl⟩) | (go_at_call 48; refine (Mode_any _ _).mono ?_; rintro e w' ⟨rfl, rfl⟩))
      go_ret
      exact ⟨rfl, rfl⟩
    · rw [if_neg (fun h => hm h.2)]
      have em : (oMode a != 192) = true := by simp [hm]
      clear h3 hm
      go_enter Tryd.func49, Tryd.ntmps49
      go_wp2_with (first | (go_at_call 44; refine (Class_any _ _).mono ?_; rintro e w' ⟨rfl, rfl⟩) | (go_at_call 48; refine (Mode_any _ _).mono ?_; rintro e w' ⟨rfl, rfl⟩))
      go_ret
      exact ⟨rfl, rfl⟩
  · rw [if_neg (fun h => h3 h.1)]
    have e3 : (oClass a != 3) = true := by simp [h3]
    clear h3
    go_enter Tryd.func49, Tryd.ntmps49
    go_wp2_with (go_at_call 44; refine (Class_any _ _).mono ?_; rintro e w' ⟨rfl, rfl⟩)
    go_ret
    exact ⟨rfl, rfl⟩
def sIsAtomic (a : Int) : Bool := bits .and .i64 a 7 == 3 && bits .and .i64 a 224 == 192
set_option maxHeartbeats 1000000 in
set_option maxRecDepth 100000 in
theorem sIsAtomic_any (a : Int) (w : World) : Calls Tryd.prog 13 #[.int .i64 a] w fun e w' => e = .returned (.bool (sIsAtomic a)) ∧ w = w' := by
  unfold sIsAtomic
  cases h : (bits .and .i64 a 7 == 3)
  all_goals
    go_enter Tryd.func13, Tryd.ntmps13
    go_wp2
    go_ret
    exact ⟨by simp, rfl⟩
def oJump (a : Int) : Int :=
  if cJump (oClass a) = true then (if oClass a = 6 ∧ (bits .and .u32 a 240 % 256 = 144 ∨ bits .and .u32 a 240 % 256 = 128) then 255 else bits .and .u32 a 240 % 256) else 255
set_option maxHeartbeats 1000000 in
set_option maxRecDepth 100000 in
theorem JumpOp_any (a : Int) (w : World) : Calls Tryd.prog 56 #[.int .u32 a] w fun e w' => e = .returned (.int .u8 (oJump a)) ∧ w = w' := by
  unfold oJump
  cases hc : cJump (oClass a)
  · go_enter Tryd.func56, Tryd.ntmps56
    go_wp2_with (first | (go_at_call 44; refine (Class_any _ _).mono ?_; rintro e w' ⟨rfl, rfl⟩) | (go_at_call 55; refine (isJump_any _ _).mono ?_; rintro e w' ⟨rfl, rfl⟩))
    go_ret
    exact ⟨rfl, rfl⟩
  · rw [if_pos rfl]
    by_cases h6 : oClass a = 6
    · have b6 : (oClass a == 6) = true := by simp [h6]
      by_cases h1 : bits .and .u32 a 240 % 256 = 144
      · rw [if_pos ⟨h6, .inl h1⟩]
        have b1 : (bits .and .u32 a 240 % 256 == 144) = true := by simp [h1]
        clear h6 h1
        go_enter Tryd.func56, Tryd.ntmps56
        go_wp2_with (first | (go_at_call 44; refine (Class_any _ _).mono ?_; rintro e w' ⟨rfl, rfl⟩) | (go_at_call 55; refine (isJump_any _ _).mono ?_; rintro e w' ⟨rfl, rfl⟩))
        go_ret
        exact ⟨rfl, rfl⟩
      · have b1 : (bits .and .u32 a 240 % 256 == 144) = false := by simp [h1]
        by_cases h2 : bits .and .u32 a 240 % 256 = 128
        · rw [if_pos ⟨h6, .inr h2⟩]
          have b2 : (bits .and .u32 a 240 % 256 == 128) = true := by simp [h2]
          clear h6 h1 h2
          go_enter Tryd.func56, Tryd.ntmps56
          go_wp2_with (first | (go_at_call 44; refine (Class_any _ _).mono ?_; rintro e w' ⟨rfl, rfl⟩) | (go_at_call 55; refine (isJump_any _ _).mono ?_; rintro e w' ⟨rfl, rfl⟩))
          go_ret
          exact ⟨rfl, rfl⟩
        · rw [if_neg (fun h => h.2.elim h1 h2)]
          have b2 : (bits .and .u32 a 240 % 256 == 128) = false := by simp [h2]
          clear h6 h1 h2
          go_enter Tryd.func56, Tryd.ntmps56
          go_wp2_with (first | (go_at_call 44; refine (Class_any _ _).mono ?_; rintro e w' ⟨rfl, rfl⟩) | (go_at_call 55; refine (isJump_any _ _).mono ?_; rintro e w' ⟨rfl, rfl⟩))
          go_ret
          exact ⟨rfl, rfl⟩
    · rw [if_neg (fun h => h6 h.1)]
      have b6 : (oClass a == 6) = false := by simp [h6]
      clear h6
      go_enter Tryd.func56, Tryd.ntmps56
      go_wp2_with (first | (go_at_call 44; refine (Class_any _ _).mono ?_; rintro e w' ⟨rfl, rfl⟩) | (go_at_call 55; refine (isJump_any _ _).mono ?_; rintro e w' ⟨rfl, rfl⟩))
      go_ret
      exact ⟨rfl, rfl⟩
set_option maxHeartbeats 1000000 in
set_option maxRecDepth 100000 in
theorem LoadImmOp24 (w : World) : Calls Tryd.prog 77 #[.int .u8 24] w fun e w' => e = .returned (.int .u32 24) ∧ w = w' := by
  go_enter Tryd.func77, Tryd.ntmps77
  go_wp2
  go_ret
  exact ⟨rfl, rfl⟩
def rawN (a : Int) : Int := if a = 24 then 2 else 1
end Go.Proofs.YtobgjmgepckijaaDoor
