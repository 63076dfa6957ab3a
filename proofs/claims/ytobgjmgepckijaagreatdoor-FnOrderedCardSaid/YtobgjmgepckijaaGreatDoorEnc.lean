/- An instruction as its bytes, plain; Marshal and Unmarshal at every instruction of the generator. -/
import Derived.Test.YtobgjmgepckijaaGreatDoorMarA
import Derived.Test.YtobgjmgepckijaaGreatDoorMarB
import Derived.Test.YtobgjmgepckijaaGreatDoorMarC
import Derived.Test.YtobgjmgepckijaaGreatDoorMarD
import Derived.Test.YtobgjmgepckijaaGreatDoorMarE
import Derived.Test.YtobgjmgepckijaaGreatDoorUnmA
import Derived.Test.YtobgjmgepckijaaGreatDoorUnmB
import Derived.Test.YtobgjmgepckijaaGreatDoorUnmC
import Derived.Test.YtobgjmgepckijaaGreatDoorUnmD
import Derived.Test.YtobgjmgepckijaaGreatDoorUnmE
namespace Go.Proofs.YtobgjmgepckijaaGreatDoor
open Go.RowKit
set_option linter.unusedVariables false
set_option linter.unusedSimpArgs false
def noff (op : Int) : Int := if oALU op = 304 then 1 else if oALU op = 400 then 1 else if oALU op = 432 then 8 else if oALU op = 688 then 16 else if oALU op = 944 then 32 else 0
def offW (x : Itm) : Int := if cALU (oClass x.op) = true then noff x.op else x.off % 65536
/-- an instruction's bytes -/
def encB (big : Bool) (x : Itm) : List Int := rawB big (x.op % 256) (regsOf big x.dst x.src) (offW x) (x.c % 4294967296) ++ (if x.op = 24 then secB big (x.c / 4294967296 % 4294967296) else [])
def msk (a : Int) : Bool := decide (bits .and .u32 a 4294967040 = 0)
def low (a b : Int) : Bool := decide (bits .and .u32 a 255 % 256 = b)
def extOk (op b alu base new : Int) : Bool := decide (oALU op = new) && decide (oALU b = alu) && msk (oSetALU op alu) && low (oSetALU op alu) b && decide (oSetALU b new = op) && decide (op ≠ 24) && decide (oSetALU b new ≠ 24)
/-- what a code's bits say -/
def chk (op : Int) : Bool :=
  let b := op % 256
  decide (op ≠ 65535) &&
  (if op = 24 then decide (oJump op ≠ 128) && decide (cALU (oClass op) = false) && decide (oAtomic op = 4294967295) && msk op && low op 24 && decide (oClass op ≠ 3)
  else if cALU (oClass op) = true then
    decide (oJump op ≠ 128) && decide (oJump b ≠ 128) && decide (cALU (oClass b) = true) && decide (b ≠ 24) &&
    (extOk op b 48 0 304 || extOk op b 144 0 400 || extOk op b 176 0 432 || extOk op b 176 0 688 || extOk op b 176 0 944 ||
      (decide (oALU op ≠ 304) && decide (oALU op ≠ 400) && decide (oALU op ≠ 432) && decide (oALU op ≠ 688) && decide (oALU op ≠ 944) && decide (b = op) && msk op && low op op))
  else if oAtomic op ≠ 4294967295 then
    decide (oJump op ≠ 128) && decide (oJump b ≠ 128) && decide (cALU (oClass b) = false) && decide (b ≠ 24) && msk (bits .andNot .u32 op 130816) && low (bits .andNot .u32 op 130816) b && decide (oClass b = 3) && decide (oMode b = 192) &&
      decide (bits .or .u32 b (bits .and .u32 (wrap64 (op / 256 * 256) % 4294967296) 130816) = op)
  else decide (b = op) && msk op && low op op && (decide (oClass op ≠ 3) || decide (oMode op ≠ 192)) && (decide (oJump op ≠ 128) || decide (op = 133)))
theorem chk_all : ∀ op ∈ allOps, chk op = true := by decide +kernel
theorem alu_all : ∀ op ∈ condOps ++ memOps ++ atomOps ++ [5, 6, 133, 149, 24], cALU (oClass op) = false := by decide +kernel
theorem atom_all : ∀ op ∈ aluOps ++ swapOps ++ condOps ++ memOps ++ [5, 6, 133, 149, 24], oAtomic op = 4294967295 := by decide +kernel
theorem jump133 : oJump 133 = 128 := by decide +kernel
theorem u16w (n : Int) : IntKind.u16.wrap n = n % 65536 := by simp [IntKind.wrap, IntKind.bits, IntKind.signed]
theorem w32m (c : Int) : wrap32 c % 4294967296 = c % 4294967296 := by unfold wrap32; omega
theorem w32mm (c : Int) : wrap32 (c % 4294967296) % 4294967296 = c % 4294967296 := by unfold wrap32; omega
theorem byteAt_lo (k : Nat) (x : Int) : 0 ≤ byteAt k x := Int.emod_nonneg _ (by decide)
theorem byteAt_hi (k : Nat) (x : Int) : byteAt k x < 256 := Int.emod_lt_of_pos _ (by decide)
theorem two_bytes {f : Int} (h0 : 0 ≤ f) (h1 : f < 65536) : byteAt 0 f + byteAt 1 f * 256 = f := by
  simp only [byteAt, show (256 : Int) ^ 0 = 1 from rfl, show (256 : Int) ^ 1 = 256 from rfl]; omega
theorem four_bytes {k : Int} (h0 : 0 ≤ k) (h1 : k < 4294967296) : byteAt 0 k + byteAt 1 k * 256 + byteAt 2 k * 65536 + byteAt 3 k * 16777216 = k := by
  simp only [byteAt, show (256 : Int) ^ 0 = 1 from rfl, show (256 : Int) ^ 1 = 256 from rfl, show (256 : Int) ^ 2 = 65536 from rfl, show (256 : Int) ^ 3 = 16777216 from rfl]; omega
theorem num2F {f : Int} (h0 : 0 ≤ f) (h1 : f < 65536) : num2 false (byteAt 0 f) (byteAt 1 f) = f := two_bytes h0 h1
theorem num2T {f : Int} (h0 : 0 ≤ f) (h1 : f < 65536) : num2 true (byteAt 1 f) (byteAt 0 f) = f := two_bytes h0 h1
theorem num4F {k : Int} (h0 : 0 ≤ k) (h1 : k < 4294967296) : num4 false (byteAt 0 k) (byteAt 1 k) (byteAt 2 k) (byteAt 3 k) = k := four_bytes h0 h1
theorem num4T {k : Int} (h0 : 0 ≤ k) (h1 : k < 4294967296) : num4 true (byteAt 3 k) (byteAt 2 k) (byteAt 1 k) (byteAt 0 k) = k := four_bytes h0 h1
theorem i16_back {f : Int} (h0 : -32768 ≤ f) (h1 : f ≤ 32767) : IntKind.i16.wrap (f % 65536) = f := by
  simp [IntKind.wrap, IntKind.bits, IntKind.signed]; omega
theorem c32_back {c : Int} (h : I32 c) : c32 (c % 4294967296) = c := by
  obtain ⟨h0, h1⟩ := h
  unfold c32
  rw [IntKind.wrap_i32, IntKind.wrap_i64]; omega
theorem regsOf_range (big : Bool) {d s : Int} (d0 : 0 ≤ d) (d1 : d ≤ 10) (s0 : 0 ≤ s) (s1 : s ≤ 10) : 0 ≤ regsOf big d s ∧ regsOf big d s < 256 := by
  cases big <;> simp only [regsOf, if_true, if_false, Bool.false_eq_true] <;> omega
theorem regs_dst (big : Bool) {d s : Int} (d0 : 0 ≤ d) (d1 : d ≤ 10) (s0 : 0 ≤ s) (s1 : s ≤ 10) : dstOf big (regsOf big d s) = d := by
  cases big <;> simp only [regsOf, dstOf, if_true, if_false, Bool.false_eq_true] <;> omega
theorem regs_src (big : Bool) {d s : Int} (d0 : 0 ≤ d) (d1 : d ≤ 10) (s0 : 0 ≤ s) (s1 : s ≤ 10) : srcOf big (regsOf big d s) = s := by
  cases big <;> simp only [regsOf, srcOf, if_true, if_false, Bool.false_eq_true] <;> omega
theorem Itm.off_alu {x : Itm} (h : x.ok) (ha : cALU (oClass x.op) = true) : x.off = 0 := by
  rcases h.arm with h | h | h | h | h | h | h | h | h | h
  · exact h.2.1
  · exact h.2.2.1
  all_goals
    exfalso
    have := alu_all x.op (by simp only [List.mem_append, List.mem_cons]; simp [h.1])
    rw [this] at ha
    cases ha
theorem Itm.atomic {x : Itm} (h : x.ok) (ha : oAtomic x.op ≠ 4294967295) : x.c = x.op / 256 := by
  rcases h.arm with h | h | h | h | h | h | h | h | h | h
  · exact absurd (atom_all x.op (by simp [h.1])) ha
  · exact absurd (atom_all x.op (by simp [h.1])) ha
  · exact absurd (atom_all x.op (by simp [h.1])) ha
  · exact absurd (atom_all x.op (by simp [h.1])) ha
  · exact h.2
  all_goals exact absurd (atom_all x.op (by simp [h.1])) ha
theorem Itm.call {x : Itm} (h : x.ok) (ha : x.op = 133) : x.dst = 0 ∧ 0 ≤ x.c ∧ x.c < 268435456 := by
  rcases h.arm with h | h | h | h | h | h | h | h | h | h
  · exact absurd (ha ▸ h.1) (by decide)
  · exact absurd (ha ▸ h.1) (by decide)
  · exact absurd (ha ▸ h.1) (by decide)
  · exact absurd (ha ▸ h.1) (by decide)
  · exact absurd (ha ▸ h.1) (by decide)
  · omega
  · omega
  · exact ⟨h.2.1, h.2.2.2.2.1, h.2.2.2.2.2⟩
  · omega
  · omega
theorem Itm.small {x : Itm} (h : x.ok) (ha : x.op ≠ 24) : I32 x.c := by
  rcases h.arm with h | h | h | h | h | h | h | h | h | h
  · exact h.2.2
  · rcases h.2.2.2 with e | e | e <;> rw [e] <;> exact ⟨by decide, by decide⟩
  · exact h.2
  · exact h.2
  · have := atomOps_range x.op h.1
    rw [h.2]
    exact ⟨by omega, by omega⟩
  · rw [h.2.2.2]; exact ⟨by decide, by decide⟩
  · exact h.2.2.2.2
  · exact ⟨by omega, by omega⟩
  · rw [h.2.2.2.2]; exact ⟨by decide, by decide⟩
  · exact absurd h.1 ha
end Go.Proofs.YtobgjmgepckijaaGreatDoor
