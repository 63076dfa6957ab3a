/- Plain facts about numbers: the codes that the statements' generator makes, and what their bits say. No program in sight. -/
import Derived.WalkKit
import Derived.Laws.BitsAllLaws
namespace Go.Proofs.YtobgjmgepckijaaGreatDoor
open Go.RowKit
set_option linter.unusedVariables false
set_option linter.unusedSimpArgs false

/-- what is reckoned, with a number or a register -/
def aluOps : List Int := [4, 7, 12, 15, 20, 23, 28, 31, 36, 39, 44, 47, 52, 55, 60, 63, 308, 311, 316, 319, 68, 71, 76, 79, 84, 87, 92, 95, 100, 103, 108, 111, 116, 119, 124, 127, 132, 135, 148, 151, 156, 159, 404, 407, 412, 415, 164, 167, 172, 175, 180, 183, 188, 191, 444, 447, 700, 703, 959, 196, 199, 204, 207]
def swapOps : List Int := [212, 220, 215]
/-- jumps with a condition -/
def condOps : List Int := [21, 22, 29, 30, 37, 38, 45, 46, 53, 54, 61, 62, 69, 70, 77, 78, 85, 86, 93, 94, 101, 102, 109, 110, 117, 118, 125, 126, 165, 166, 173, 174, 181, 182, 189, 190, 197, 198, 205, 206, 213, 214, 221, 222]
/-- loads and stores -/
def memOps : List Int := [97, 105, 113, 121, 129, 137, 145, 98, 106, 114, 122, 99, 107, 115, 123]
def atomOps : List Int := [195, 451, 16579, 16835, 20675, 20931, 41155, 41411, 57795, 61891, 219, 475, 16603, 16859, 20699, 20955, 41179, 41435, 57819, 61915,
  65731, 65739, 65747, 65755, 69827, 69835, 69843, 69851]

def I32 (c : Int) : Prop := -2147483648 ≤ c ∧ c ≤ 2147483647
def I64 (c : Int) : Prop := -9223372036854775808 ≤ c ∧ c ≤ 9223372036854775807

def Arm (op dst src off c : Int) : Prop :=
  (op ∈ aluOps ∧ off = 0 ∧ I32 c) ∨ (op ∈ swapOps ∧ src = 0 ∧ off = 0 ∧ (c = 16 ∨ c = 32 ∨ c = 64)) ∨ (op ∈ condOps ∧ I32 c) ∨ (op ∈ memOps ∧ I32 c) ∨
  (op ∈ atomOps ∧ c = op / 256) ∨ (op = 5 ∧ dst = 0 ∧ src = 0 ∧ c = 0) ∨ (op = 6 ∧ dst = 0 ∧ src = 0 ∧ off = 0 ∧ I32 c) ∨
  (op = 133 ∧ dst = 0 ∧ src ≤ 2 ∧ off = 0 ∧ 0 ≤ c ∧ c < 268435456) ∨ (op = 149 ∧ dst = 0 ∧ src = 0 ∧ off = 0 ∧ c = 0) ∨ (op = 24 ∧ src ≤ 4 ∧ off = 0 ∧ I64 c)

/-- an instruction that the generator makes -/
structure Good (op dst src off c : Int) : Prop where
  dst0 : 0 ≤ dst
  dst1 : dst ≤ 10
  src0 : 0 ≤ src
  src1 : src ≤ 10
  off0 : -32768 ≤ off
  off1 : off ≤ 32767
  arm : Arm op dst src off c

def allOps : List Int := aluOps ++ swapOps ++ condOps ++ memOps ++ atomOps ++ [5, 6, 133, 149, 24]

theorem Good.mem {op dst src off c : Int} (h : Good op dst src off c) : op ∈ allOps := by
  unfold allOps
  rcases h.arm with h | h | h | h | h | h | h | h | h | h
  · simp only [List.mem_append]; exact .inl (.inl (.inl (.inl (.inl h.1))))
  · simp only [List.mem_append]; exact .inl (.inl (.inl (.inl (.inr h.1))))
  · simp only [List.mem_append]; exact .inl (.inl (.inl (.inr h.1)))
  · simp only [List.mem_append]; exact .inl (.inl (.inr h.1))
  · simp only [List.mem_append]; exact .inl (.inr h.1)
  all_goals (rw [h.1]; decide)

theorem allOps_range : ∀ op ∈ allOps, 0 ≤ op ∧ op < 131072 := by decide +kernel
theorem atomOps_range : ∀ op ∈ atomOps, 0 ≤ op / 256 ∧ op / 256 ≤ 272 := by decide +kernel
theorem Good.op0 {op dst src off c : Int} (h : Good op dst src off c) : 0 ≤ op := (allOps_range op h.mem).1
theorem Good.op1 {op dst src off c : Int} (h : Good op dst src off c) : op < 131072 := (allOps_range op h.mem).2

/-! ## The masks of the generator -/
theorem u32_mask1 {x : Int} (h0 : 0 ≤ x) (h1 : x < 4294967296) : bits .and .u32 x 1 = x % 2 := by
  obtain ⟨a, rfl⟩ := Int.eq_ofNat_of_zero_le h0
  have := (bits_nat .u32 32 (by decide) (fun n h0 h1 => by rw [IntKind.wrap_u32]; omega) a 1 (by omega) (by omega)).1
  rw [show ((1 : Nat) : Int) = 1 from rfl] at this
  rw [this, nat_mask1]; omega
theorem u32_mask2 {x : Int} (h0 : 0 ≤ x) (h1 : x < 4294967296) : bits .and .u32 x 3 = x % 4 := by
  obtain ⟨a, rfl⟩ := Int.eq_ofNat_of_zero_le h0
  have := (bits_nat .u32 32 (by decide) (fun n h0 h1 => by rw [IntKind.wrap_u32]; omega) a 3 (by omega) (by omega)).1
  rw [show ((3 : Nat) : Int) = 3 from rfl] at this
  rw [this, nat_mask2]; omega
theorem i64_mask28 (x : Int) : 0 ≤ bits .and .i64 x 268435455 ∧ bits .and .i64 x 268435455 < 268435456 := by
  show 0 ≤ IntKind.i64.wrap ((BitVec.ofInt 64 x &&& BitVec.ofInt 64 268435455).toNat : Int) ∧ IntKind.i64.wrap ((BitVec.ofInt 64 x &&& BitVec.ofInt 64 268435455).toNat : Int) < 268435456
  rw [BitVec.toNat_and, show (BitVec.ofInt 64 268435455).toNat = 268435455 from rfl]
  have h : (BitVec.ofInt 64 x).toNat &&& 268435455 ≤ 268435455 := Nat.and_le_right
  rw [IntKind.wrap_i64]
  omega

theorem two {q : Int} (h0 : 0 ≤ q) (h1 : q ≤ 1) : q = 0 ∨ q = 1 := by omega

/-! ## What is reckoned: the codes that group 0, 1, 2 makes -/
def aluChk (o cls q : Int) : Bool :=
  let p := bits .or .i64 (bits .or .i64 (o * 16) cls) (q * 8)
  decide (bits .and .i64 p 8 = q * 8) &&
  (if o = 8 then decide (bits .andNot .i64 p 8 ∈ aluOps ∧ bits .and .i64 (bits .andNot .i64 p 8) 8 = 0)
   else if o = 3 ∨ o = 9 then decide (bits .or .i64 p 0 ∈ aluOps) && decide (bits .or .i64 p 256 ∈ aluOps)
   else if o = 11 then decide (p ∈ aluOps) && (q == 0 || (decide (bits .or .i64 p 0 ∈ aluOps) && decide (bits .or .i64 p 256 ∈ aluOps) && decide (bits .or .i64 p 512 ∈ aluOps) && (cls == 4 || decide (bits .or .i64 p 768 ∈ aluOps))))
   else decide (p ∈ aluOps))
theorem aluChk_all : ∀ (o : Fin 13) (cls q : Fin 2), aluChk (o.val : Int) (if cls.val = 0 then 4 else 7) (q.val : Int) = true := by decide +kernel
theorem aluChk_of {o cls q : Int} (ho0 : 0 ≤ o) (ho1 : o ≤ 12) (hc : cls = 4 ∨ cls = 7) (hq0 : 0 ≤ q) (hq1 : q ≤ 1) : aluChk o cls q = true := by
  have := aluChk_all ⟨o.toNat, by omega⟩ ⟨if cls = 4 then 0 else 1, by split <;> omega⟩ ⟨q.toNat, by omega⟩
  have ho : ((o.toNat : Nat) : Int) = o := by omega
  have hq : ((q.toNat : Nat) : Int) = q := by omega
  simp only [ho, hq] at this
  rcases hc with rfl | rfl <;> simpa using this

/-! ## Jumps with a condition: group 4, 5 -/
def condChk (j cls q : Int) : Bool :=
  let p := bits .or .i64 (bits .or .i64 (j * 16) cls) (q * 8)
  decide (bits .and .i64 p 8 = q * 8) && decide (p ∈ condOps)
theorem condChk_all : ∀ j ∈ ([1, 2, 3, 4, 5, 6, 7, 10, 11, 12, 13] : List Int), ∀ cls ∈ ([5, 6] : List Int), ∀ q ∈ ([0, 1] : List Int), condChk j cls q = true := by decide +kernel

/-! ## Loads, stores: groups 8 to 10; atomics: group 11 -/
theorem mem_ldx : ∀ s ∈ ([0, 1, 2, 3] : List Int), bits .or .i64 97 (s * 8) ∈ memOps ∧ bits .or .i64 98 (s * 8) ∈ memOps ∧ bits .or .i64 99 (s * 8) ∈ memOps ∧ (s ≠ 3 → bits .or .i64 129 (s * 8) ∈ memOps) := by decide +kernel
theorem mem4 {s : Int} (h0 : 0 ≤ s) (h1 : s ≤ 3) : s ∈ ([0, 1, 2, 3] : List Int) := by
  have : s = 0 ∨ s = 1 ∨ s = 2 ∨ s = 3 := by omega
  rcases this with rfl | rfl | rfl | rfl <;> decide
theorem mem2 {s : Int} (h0 : 0 ≤ s) (h1 : s ≤ 1) : s ∈ ([0, 1] : List Int) := by
  rcases two h0 h1 with rfl | rfl <;> decide
def atomCs : List Int := [0, 1, 64, 65, 80, 81, 160, 161, 225, 241]
theorem atom_op : ∀ q ∈ ([0, 1] : List Int), ∀ c ∈ atomCs, bits .or .i64 (bits .or .i64 195 (q * 24)) (c * 256) ∈ atomOps ∧ bits .or .i64 (bits .or .i64 195 (q * 24)) (c * 256) / 256 = c := by decide +kernel
theorem atomCs_range : ∀ c ∈ atomCs, 0 ≤ c ∧ c ≤ 241 := by decide
end Go.Proofs.YtobgjmgepckijaaGreatDoor
