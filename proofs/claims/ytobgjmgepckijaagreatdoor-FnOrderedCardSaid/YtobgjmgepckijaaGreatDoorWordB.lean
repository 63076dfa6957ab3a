/- OpCode.String, walked: a code's word as the package writes it. -/
import Derived.Test.YtobgjmgepckijaaGreatDoorWordA
import Derived.Test.YtobgjmgepckijaaGreatDoorLists
import Derived.Lib.AppendIntMem
import Derived.Outline
namespace Go.Proofs.YtobgjmgepckijaaGreatDoor
open Go.RowKit
set_option linter.unusedVariables false
set_option linter.unusedSimpArgs false
def oSize (a : Int) : Int := bits .and .u32 a 24 % 256
def oBit (a : Int) : Int := bits .and .u32 a 8
set_option maxHeartbeats 4000000 in
set_option maxRecDepth 100000 in
theorem Size_ls (a : Int) (w : World) (h : cLS (oClass a) = true) : Calls Tryz.prog 73 #[.int .u32 a] w fun e w' => e = .returned (.int .u8 (oSize a)) ∧ w = w' := by
  unfold oSize
  have H := Lib.hid h
  clear h
  go_enter Tryz.func73, Tryz.ntmps73
  go_wp2_with (first | (go_at_call 63; refine (Class_any _ _).mono ?_; rintro e w' ⟨rfl, rfl⟩) | (go_at_call 70; refine (isLS_any _ _).mono ?_; rintro e w' ⟨rfl, rfl⟩; simp only [H.out]))
  go_ret
  exact ⟨rfl, rfl⟩
set_option maxHeartbeats 4000000 in
set_option maxRecDepth 100000 in
theorem End_swap (a : Int) (w : World) (h : oALU a = 208) : Calls Tryz.prog 76 #[.int .u32 a] w fun e w' => e = .returned (.int .u8 (oBit a % 256)) ∧ w = w' := by
  unfold oBit
  have H := Lib.hid h
  have hc : Calls Tryz.prog 75 #[.int .u32 a] w fun e w' => e = .returned (.int .u16 208) ∧ w = w' := h ▸ ALUOp_any a w
  have HC := Lib.hid hc
  clear h hc
  go_enter Tryz.func76, Tryz.ntmps76
  go_wp2_with fail
  refine HC.out.mono ?_
  rintro e w' ⟨rfl, rfl⟩
  go_wp2_with fail
  go_ret
  exact ⟨rfl, rfl⟩
theorem isLS_b {c : Int} {b : Bool} (h : cLS c = b) (w : World) : Calls Tryz.prog 70 #[.int .u8 c] w fun e w' => e = .returned (.bool b) ∧ w = w' := h ▸ isLS_any c w
theorem isALU_b {c : Int} {b : Bool} (h : cALU c = b) (w : World) : Calls Tryz.prog 74 #[.int .u8 c] w fun e w' => e = .returned (.bool b) ∧ w = w' := h ▸ isALU_any c w
theorem isJump_b {c : Int} {b : Bool} (h : cJump c = b) (w : World) : Calls Tryz.prog 78 #[.int .u8 c] w fun e w' => e = .returned (.bool b) ∧ w = w' := h ▸ isJump_any c w
theorem Class_b {a c : Int} (h : oClass a = c) (w : World) : Calls Tryz.prog 63 #[.int .u32 a] w fun e w' => e = .returned (.int .u8 c) ∧ w = w' := h ▸ Class_any a w
theorem ALUOp_b {a c : Int} (h : oALU a = c) (w : World) : Calls Tryz.prog 75 #[.int .u32 a] w fun e w' => e = .returned (.int .u16 c) ∧ w = w' := h ▸ ALUOp_any a w
theorem JumpOp_b {a c : Int} (h : oJump a = c) (w : World) : Calls Tryz.prog 79 #[.int .u32 a] w fun e w' => e = .returned (.int .u8 c) ∧ w = w' := h ▸ JumpOp_any a w
theorem Mode_b {a c : Int} (h : oMode a = c) (w : World) : Calls Tryz.prog 64 #[.int .u32 a] w fun e w' => e = .returned (.int .u8 c) ∧ w = w' := h ▸ Mode_any a w
theorem Atomic_b {a c : Int} (h : oAtomic a = c) (w : World) : Calls Tryz.prog 30 #[.int .u32 a] w fun e w' => e = .returned (.int .u32 c) ∧ w = w' := h ▸ AtomicOp_any a w
set_option maxHeartbeats 4000000 in
set_option maxRecDepth 100000 in
theorem isJA_b {c : Int} (w : World) (h : cJump c = true ∨ cALU c = true) : Calls Tryz.prog 117 #[.int .u8 c] w fun e w' => e = .returned (.bool true) ∧ w = w' := by
  cases hj : cJump c
  · have ha : cALU c = true := by rcases h with h | h; · rw [hj] at h; cases h
                                  · exact h
    have H1 := Lib.hid hj
    have H2 := Lib.hid ha
    clear h hj ha
    go_enter Tryz.func117, Tryz.ntmps117
    go_wp2_with (first | (go_at_call 78; refine (isJump_b H1.out _).mono ?_; rintro e w' ⟨rfl, rfl⟩) | (go_at_call 74; refine (isALU_b H2.out _).mono ?_; rintro e w' ⟨rfl, rfl⟩))
    go_ret
    exact ⟨rfl, rfl⟩
  · have H1 := Lib.hid hj
    clear h hj
    go_enter Tryz.func117, Tryz.ntmps117
    go_wp2_with (first | (go_at_call 78; refine (isJump_b H1.out _).mono ?_; rintro e w' ⟨rfl, rfl⟩))
    go_ret
    exact ⟨rfl, rfl⟩
set_option maxHeartbeats 4000000 in
set_option maxRecDepth 100000 in
theorem Src_ok (a : Int) (w : World) (h : cJump (oClass a) = true ∨ cALU (oClass a) = true) (hs : oALU a ≠ 208) : Calls Tryz.prog 77 #[.int .u32 a] w fun e w' => e = .returned (.int .u16 (oBit a % 65536)) ∧ w = w' := by
  unfold oBit
  obtain ⟨k, hk⟩ : ∃ k, oALU a = k := ⟨_, rfl⟩
  rw [hk] at hs
  have H1 := Lib.hid h
  have H2 := Lib.hid hk
  have hs' : ¬ k = 208 := hs
  clear h hk hs
  go_enter Tryz.func77, Tryz.ntmps77
  go_wp2_with (first | (go_at_call 63; refine (Class_any _ _).mono ?_; rintro e w' ⟨rfl, rfl⟩) | (go_at_call 117; refine (isJA_b _ H1.out).mono ?_; rintro e w' ⟨rfl, rfl⟩) | (go_at_call 75; refine (ALUOp_b H2.out _).mono ?_; rintro e w' ⟨rfl, rfl⟩))
  go_ret
  exact ⟨rfl, rfl⟩
/-! ## What is written piece by piece -/
def trimW (s p : ByteArray) : ByteArray := ⟨(Lib.trimSuffix s.data.toList p.data.toList).toArray⟩
def cat (ss : List ByteArray) : List UInt8 := ss.foldl (fun l s => l ++ s.data.toList) []
theorem trim_size {s p : ByteArray} {n : Nat} (h : s.size ≤ n) : (trimW s p).size ≤ n := by
  have h1 := Lib.trimSuffix_le s.data.toList p.data.toList
  have h2 := Lib.size_eq s
  rw [Lib.size_eq]
  simp only [trimW, List.toList_toArray]
  omega
theorem ite_sz {p : Prop} [Decidable p] {a b : ByteArray} {n : Nat} (ha : a.size ≤ n) (hb : b.size ≤ n) : (if p then a else b).size ≤ n := by split <;> assumption
theorem classS_size (c : Int) : (classS c).size ≤ 1000 := by unfold classS; repeat' (first | refine ite_sz (by decide +kernel) ?_ | decide +kernel)
theorem modeS_size (c : Int) : (modeS c).size ≤ 1000 := by unfold modeS; repeat' (first | refine ite_sz (by decide +kernel) ?_ | decide +kernel)
theorem srcS_size (c : Int) : (srcS c).size ≤ 1000 := by unfold srcS; repeat' (first | refine ite_sz (by decide +kernel) ?_ | decide +kernel)
theorem endS_size (c : Int) : (endS c).size ≤ 1000 := by unfold endS; repeat' (first | refine ite_sz (by decide +kernel) ?_ | decide +kernel)
theorem aluS_size (c : Int) : (aluS c).size ≤ 1000 := by unfold aluS; repeat' (first | refine ite_sz (by decide +kernel) ?_ | decide +kernel)
theorem jumpS_size (c : Int) : (jumpS c).size ≤ 1000 := by unfold jumpS; repeat' (first | refine ite_sz (by decide +kernel) ?_ | decide +kernel)
theorem atomS_size (c : Int) : (atomS c).size ≤ 1000 := by unfold atomS; repeat' (first | refine ite_sz (by decide +kernel) ?_ | decide +kernel)
theorem Trim_any (s p : ByteArray) (w : World) (hs : s.size ≤ 1000) : Calls Tryz.prog 72 #[.string s, .string p] w fun e w' => e = .returned (.string (trimW s p)) ∧ w = w' :=
  (Tryz.strings_TrimSuffix s p w (by omega)).mono fun _ _ ⟨h1, h2⟩ => ⟨h1, h2.symm⟩
def catS (ss : List ByteArray) : ByteArray := ⟨(cat ss).toArray⟩
theorem cat_snoc (ss : List ByteArray) (s : ByteArray) : cat (ss ++ [s]) = cat ss ++ s.data.toList := by simp [cat, List.foldl_append]
/-- a builder that this call has made: what pieces it holds -/
def Bld (w0 : World) (ss : List ByteArray) (k : Nat) (W : World) : Prop := Lib.IsBuilder 126 5 w0.heap.size w0.heap.size (Lib.byteCells (cat ss)) W ∧ Below w0.heap.size w0 W ∧ (cat ss).length ≤ k * 1000
theorem Bld.start (w0 : World) : Bld w0 [] 0 (w0.alloc (.cells #[.pointer none, .slice none 0 0] 126)) :=
  ⟨Lib.fresh_isBuilder _ _ w0, (Below.refl _ _).alloc (Nat.le_refl _) _, by simp [cat]⟩
theorem bldAt_below {T e B b p} {bs : List Value} {W W' : World} (h : Lib.BuilderAt T e B b p bs W) (hb : Below W.heap.size W W') : Lib.BuilderAt T e B b p bs W' := by
  obtain ⟨hB, v, hk, hown, hne⟩ := h
  exact ⟨hB, v, (hb.block b (heap_lt hk)).trans hk, own_below hown hb, hne⟩
theorem Bld.below {w0 W W' : World} {l : List ByteArray} {k : Nat} (h : Bld w0 l k W) (hb : Below W.heap.size W W') : Bld w0 l k W' :=
  ⟨h.1.imp (fun x => bldAt_below x hb) (fun x => bldAt_below x hb), h.2.1.trans (hb.mono h.2.1.size), h.2.2⟩
theorem Bld.write {w0 W : World} {ss : List ByteArray} {k : Nat} (h : Bld w0 ss k W) (s : ByteArray) (hs : s.size ≤ 1000) (hk : k ≤ 1000) :
    Calls Tryz.prog 71 #[.pointer (some ⟨w0.heap.size, 0, none⟩), .string s] W fun e W' => e = .returned (.tuple #[.int .i64 s.size, .nilIface]) ∧ Bld w0 (ss ++ [s]) (k + 1) W' := by
  refine (Tryz.Builder_WriteString w0.heap.size w0.heap.size _ s W h.1 (by have := h.2.2; rw [Lib.byteCells_length]; omega) h.2.1.size).mono ?_
  rintro e W' ⟨rfl, h1, h2⟩
  have e1 : Lib.byteCells (cat ss) ++ Lib.strCells s = Lib.byteCells (cat (ss ++ [s])) := by
    rw [cat_snoc, Lib.byteCells_append]; rfl
  rw [e1] at h1
  refine ⟨rfl, .inr h1, h.2.1.trans h2, ?_⟩
  have := h.2.2
  have h3 := Lib.size_eq s
  rw [cat_snoc, List.length_append]
  omega
theorem Bld.string {w0 W : World} {l : List ByteArray} {k : Nat} (h : Bld w0 l k W) :
    Calls Tryz.prog 80 #[.pointer (some ⟨w0.heap.size, 0, none⟩)] W fun e W' => e = .returned (.string (catS l)) ∧ Below w0.heap.size w0 W' :=
  (Tryz.Builder_String_any w0.heap.size w0.heap.size (cat l) W h.1 h.2.1.size).mono fun _ _ ⟨h1, h2⟩ => ⟨h1, h.2.1.trans h2⟩
end Go.Proofs.YtobgjmgepckijaaGreatDoor
