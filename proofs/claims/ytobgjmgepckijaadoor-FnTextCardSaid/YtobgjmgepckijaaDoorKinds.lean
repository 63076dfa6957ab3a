/- spec.IsALU, spec.IsJump, walked; and what FnWord asks of each code: plain, by reckoning. -/
import Derived.Test.YtobgjmgepckijaaDoorSay
import Derived.Test.YtobgjmgepckijaaDoorInsB
import Derived.Outline
namespace Go.Proofs.YtobgjmgepckijaaDoor
open Go.RowKit
set_option linter.unusedVariables false
set_option linter.unusedSimpArgs false
def kALU (a : Int) : Bool := bits .and .i64 a 7 == 4 || bits .and .i64 a 7 == 7
set_option maxHeartbeats 4000000 in
set_option maxRecDepth 100000 in
theorem kALU_any (a : Int) (b : Bool) (h : kALU a = b) (w : World) : Calls Tryd.prog 9 #[.int .i64 a] w fun e w' => e = .returned (.bool b) ∧ w = w' := by
  subst h
  unfold kALU
  cases h1 : (bits .and .i64 a 7 == 4) <;> cases h2 : (bits .and .i64 a 7 == 7)
  all_goals
    go_enter Tryd.func9, Tryd.ntmps9
    go_wp2
    go_ret
    exact ⟨rfl, rfl⟩
def kJump (a : Int) : Bool := bits .and .i64 a 7 == 5 || bits .and .i64 a 7 == 6
set_option maxHeartbeats 4000000 in
set_option maxRecDepth 100000 in
theorem kJump_any (a : Int) (b : Bool) (h : kJump a = b) (w : World) : Calls Tryd.prog 11 #[.int .i64 a] w fun e w' => e = .returned (.bool b) ∧ w = w' := by
  subst h
  unfold kJump
  cases h1 : (bits .and .i64 a 7 == 5) <;> cases h2 : (bits .and .i64 a 7 == 6)
  all_goals
    go_enter Tryd.func11, Tryd.ntmps11
    go_wp2
    go_ret
    exact ⟨rfl, rfl⟩
def cwL : List ByteArray := [⟨#[76, 100, 67, 108, 97, 115, 115]⟩, ⟨#[76, 100, 88, 67, 108, 97, 115, 115]⟩, ⟨#[83, 116, 67, 108, 97, 115, 115]⟩, ⟨#[83, 116, 88, 67, 108, 97, 115, 115]⟩, ⟨#[65, 76, 85, 67, 108, 97, 115, 115]⟩, ⟨#[74, 117, 109, 112, 67, 108, 97, 115, 115]⟩, ⟨#[74, 117, 109, 112, 51, 50, 67, 108, 97, 115, 115]⟩, ⟨#[65, 76, 85, 54, 52, 67, 108, 97, 115, 115]⟩]
def swL : List ByteArray := [⟨#[73, 109, 109, 83, 111, 117, 114, 99, 101]⟩, ⟨#[82, 101, 103, 83, 111, 117, 114, 99, 101]⟩]
def oClr (op : Int) : Int := bits .andNot .i64 (bits .and .i64 op 65520) 8
def wlaw (op : Int) : Bool :=
  let c := bits .and .i64 op 7
  let b := bits .and .i64 op 8
  let q := bits .and .i64 (op / 8) 1
  let m := bits .and .i64 op 240
  let z := bits .and .i64 op 24
  decide (0 ≤ c ∧ c < 8) && decide (0 ≤ q ∧ q < 2) && decide (b = 0 ∨ b = 8) && decide (classS c = cwL.getD c.toNat ⟨#[]⟩) &&
  (if kALU op = true then
    if m = 208 then decide (endS b = leL.getD q.toNat ⟨#[]⟩)
    else decide (oClr op ∈ aluKeys) && decide (aluS (oClr op) = sOper op) && decide (srcS b = swL.getD q.toNat ⟨#[]⟩) &&
      decide ((op / 256 = 1 ∧ (m = 48 ∨ m = 144 ∨ m = 176)) ∨ op / 256 = 2 ∨ op / 256 = 3 ∨ (op / 256 = 0 ∧ 0 ≤ bits .and .i64 (op / 16) 15 ∧ bits .and .i64 (op / 16) 15 < 14))
   else if kJump op = true then decide (m ∈ jumpKeys) && decide (jumpS m = sJump op) && decide (srcS b = swL.getD q.toNat ⟨#[]⟩) && decide (0 ≤ bits .and .i64 (op / 16) 15 ∧ bits .and .i64 (op / 16) 15 < 14)
   else decide (z = 0 ∨ z = 8 ∨ z = 16 ∨ z = 24) && decide (sizeS z = sSizeW op) && decide (0 ≤ bits .and .i64 (op / 8) 3 ∧ bits .and .i64 (op / 8) 3 < 4) &&
    (if sIsAtomic op = true then decide (op / 256 * 256 ∈ atomKeys) && decide (atomS (op / 256 * 256) = sAtomW (op / 256)) && decide (op / 256 ∈ sAtomKeys)
     else decide (bits .and .i64 op 224 = 0 ∨ bits .and .i64 op 224 = 32 ∨ bits .and .i64 op 224 = 64 ∨ bits .and .i64 op 224 = 96 ∨ bits .and .i64 op 224 = 128 ∨ bits .and .i64 op 224 = 192) &&
      decide (modeS (bits .and .i64 op 224) = sModeW op) && decide (0 ≤ bits .and .i64 (op / 32) 7 ∧ bits .and .i64 (op / 32) 7 < 7)))
theorem wlaw_all : ∀ op ∈ allOps, wlaw op = true := by decide +kernel
end Go.Proofs.YtobgjmgepckijaaDoor
