/- spec.Encode, walked: an instruction as the reference writes it. -/
import Derived.Test.YtobgjmgepckijaaGreatDoorEnc
import Derived.Test.YtobgjmgepckijaaGreatDoorPut
import Derived.Test.YtobgjmgepckijaaGreatDoorImpl
import Derived.Deep.RegionLaw
import Derived.Deep.Onto
import Derived.Deep.AppendLies
import Derived.BigQuiet
import Derived.Deep.QuietTactic
import Derived.Outline
namespace Go.Proofs.YtobgjmgepckijaaGreatDoor
open Go.RowKit
set_option linter.unusedVariables false
set_option linter.unusedSimpArgs false
theorem or_sd : ∀ d : Fin 11, ∀ s : Fin 11, bits .or .i64 (d.val : Int) ((s.val : Int) * 16) % 256 = (s.val : Int) * 16 + d.val ∧ bits .or .i64 ((d.val : Int) * 16) (s.val : Int) % 256 = (d.val : Int) * 16 + s.val := by decide +kernel
theorem or_sd' {d s : Int} (d0 : 0 ≤ d) (d1 : d ≤ 10) (s0 : 0 ≤ s) (s1 : s ≤ 10) : bits .or .i64 d (s * 16) % 256 = s * 16 + d ∧ bits .or .i64 (d * 16) s % 256 = d * 16 + s := by
  have := or_sd ⟨d.toNat, by omega⟩ ⟨s.toNat, by omega⟩
  simpa [Int.toNat_of_nonneg d0, Int.toNat_of_nonneg s0] using this
theorem sref_all : ∀ op ∈ allOps, sIsALU op = cALU (oClass op) ∧ (cALU (oClass op) = true → sOff op = noff op) := by decide +kernel
theorem rawB_put (big : Bool) (o r f k : Int) : rawB big o r f k = ([o, r] ++ putK big 2 f 2) ++ putK big 4 k 4 := by
  cases big <;> simp [rawB, eight, putK, putAt, List.range_succ]
theorem secB_put (big : Bool) (k : Int) : secB big k = [0, 0, 0, 0] ++ putK big 4 k 4 := by
  cases big <;> simp [secB, eight, putK, putAt, List.range_succ, byteAt]
theorem encB_put (big : Bool) (x : Itm) (h : x.op ≠ 24) : encB big x = ([x.op % 256, regsOf big x.dst x.src] ++ putK big 2 (offW x) 2) ++ putK big 4 (x.c % 4294967296) 4 := by
  unfold encB
  rw [if_neg h, List.append_nil, rawB_put]
theorem encB_put24 (big : Bool) (x : Itm) (h : x.op = 24) :
    encB big x = ((([x.op % 256, regsOf big x.dst x.src] ++ putK big 2 (offW x) 2) ++ putK big 4 (x.c % 4294967296) 4) ++ [0, 0, 0, 0]) ++ putK big 4 (x.c / 4294967296 % 4294967296) 4 := by
  unfold encB
  rw [if_pos h, rawB_put, secB_put, List.append_assoc _ [0, 0, 0, 0]]
theorem encB_len4 (big : Bool) (x : Itm) (h : ¬ x.op = 24) : (encB big x).length = 2 + 2 + 4 := by
  rw [encB_put big x h]; simp [putK_len]
theorem encB_len24 (big : Bool) (x : Itm) (h : x.op = 24) : (encB big x).length = 2 + 2 + 4 + 4 + 4 := by
  rw [encB_put24 big x h]; simp [putK_len]
def EncPost (w : World) (bs : List Int) (e : Ending) (w' : World) : Prop :=
  ∃ v, e = .returned v ∧ w'.ownsRow w.heap.size 5 1 v bs.length (byteRow bs) ∧ Below w.heap.size w w'
theorem sIsALU_b {a : Int} {b : Bool} (h : sIsALU a = b) (w : World) : Calls Tryz.prog 52 #[.int .i64 a] w fun e w' => e = .returned (.bool b) ∧ w = w' := h ▸ sIsALU_any a w
theorem own_lit {w : World} {cs : Array Value} {n H base : Nat} {size : Nat} {e : TypeId} (hH : w.heap.size = H) (hb : base ≤ H) (hm : n ≤ maxLen) (hs : cs.size = n * size) :
    (w.alloc (.cells cs e)).ownsRow base e size (.slice (some ⟨H, 0, none⟩) n n) n cs.toList := by
  subst hH; exact World.ownsRow_lit w cs n hb hm hs
theorem grown_undrew {w w' : World} {r : Option Nat} (h : w.drew.grownBy w' r) : w.grownBy w' r := ⟨h.os, h.tape, h.output, h.size, h.block⟩
theorem offW_alu {x : Itm} (hx : x.ok) (ha : sIsALU x.op = true) : offW x = sOff x.op % 65536 := by
  have h := sref_all x.op hx.mem
  have ha' : cALU (oClass x.op) = true := by rw [← h.1]; exact ha
  unfold offW
  rw [if_pos ha', h.2 ha']
  unfold noff
  repeat' split
  all_goals decide
theorem offW_plain {x : Itm} (hx : x.ok) (ha : sIsALU x.op = false) : offW x = x.off % 65536 := by
  have h := sref_all x.op hx.mem
  have ha' : ¬ cALU (oClass x.op) = true := by rw [← h.1, ha]; decide
  unfold offW
  rw [if_neg ha']
theorem sOff_range (a : Int) : 0 ≤ sOff a ∧ sOff a ≤ 32 := by
  unfold sOff
  repeat' split
  all_goals omega
theorem regs_byte (big : Bool) {d s : Int} (d0 : 0 ≤ d) (d1 : d ≤ 10) (s0 : 0 ≤ s) (s1 : s ≤ 10) : (if big then bits .or .i64 (d * 16) s else bits .or .i64 d (s * 16)) % 256 = regsOf big d s := by
  obtain ⟨r1, r2⟩ := or_sd' d0 d1 s0 s1
  cases big <;> simp only [regsOf, if_true, if_false, Bool.false_eq_true, r1, r2]
theorem u64_small {x : Int} (x0 : 0 ≤ x) (x1 : x < 4294967296) : IntKind.u64.wrap x = x := by
  simp [IntKind.wrap, IntKind.bits, IntKind.signed]; omega
theorem u64_hi (c : Int) : IntKind.u64.wrap c / 4294967296 = c / 4294967296 % 4294967296 := by
  simp [IntKind.wrap, IntKind.bits, IntKind.signed]; omega
theorem put_zero {w : World} {base n : Nat} {e : TypeId} {v : Value} {bs : List Int} (h : w.ownsRow base e 1 v n (byteRow bs ++ [.int .u8 0, .int .u8 0, .int .u8 0, .int .u8 0])) : w.ownsRow base e 1 v n (byteRow (bs ++ [0, 0, 0, 0])) := by
  rw [show byteRow (bs ++ [0, 0, 0, 0]) = byteRow bs ++ [.int .u8 0, .int .u8 0, .int .u8 0, .int .u8 0] by simp [byteRow]]; exact h
theorem eq24 {x : Int} (h : x = 24) : (x == 24) = true := by simpa using h
theorem neq24 {x : Int} (h : ¬ x = 24) : (x == 24) = false := by simpa using h
set_option maxHeartbeats 4000000 in
set_option maxRecDepth 100000 in
theorem Enc_true_true_plain (x : Itm) (w : World) (hx : x.ok) (h24 : ¬ x.op = 24) (ha : sIsALU x.op = true) :
    Calls Tryz.prog 22 #[insV x.op x.dst x.src x.off x.c, .bool true] w (EncPost w (encB true x)) := by
  have hop0 := hx.op0
  have hop1 := hx.op1
  obtain ⟨d0, d1, s0, s1⟩ := And.intro hx.dst0 (And.intro hx.dst1 (And.intro hx.src0 hx.src1))
  have hu1 := u16w (sOff x.op)
  have hu2 := u64_small (x := (sOff x.op) % 65536) (by omega) (by omega)
  have hc2 := u64_small (x := x.c % 4294967296) (by omega) (by omega)
  have hA := Lib.hid ha
  have HR := Lib.hid (regs_byte true d0 d1 s0 s1)
  simp only [if_true, if_false, Bool.false_eq_true] at HR
  have HF := Lib.hid (offW_alu hx ha)
  have HE := Lib.hid (encB_put true x h24)
  have F0 : 0 ≤ (sOff x.op) % 65536 := by omega
  have F1 : (sOff x.op) % 65536 < 4294967296 := by omega
  have F2 : 0 ≤ x.c % 4294967296 := by omega
  have F3 : x.c % 4294967296 < 4294967296 := by omega
  have HX := Lib.hid hx
  have e24 := neq24 h24
  have H24 := Lib.hid h24
  clear ha hx h24
  go_enter Tryz.func22, Tryz.ntmps22
  go_wp2_with fail
  go_quiet (fail)
  go_wp2_with (first | (go_at_call 52; refine (sIsALU_b hA.out _).mono ?_; rintro e w' ⟨rfl, rfl⟩) | (go_at_call 55; refine (sOff_any _ _ hop0 hop1).mono ?_; rintro e w' ⟨rfl, rfl⟩))
  have hI : (w.alloc (.cells #[.int .i64 x.op, .int .i64 x.dst, .int .i64 x.src, .int .i64 x.off, .int .i64 x.c, .string ⟨#[]⟩, .string ⟨#[]⟩] 26)).heap[w.heap.size]? = some (.cells #[.int .i64 x.op, .int .i64 x.dst, .int .i64 x.src, .int .i64 x.off, .int .i64 x.c, .string ⟨#[]⟩, .string ⟨#[]⟩] 26 (0, 0)) := heap_at rfl
  have hz0 : (w.alloc (.cells #[.int .i64 x.op, .int .i64 x.dst, .int .i64 x.src, .int .i64 x.off, .int .i64 x.c, .string ⟨#[]⟩, .string ⟨#[]⟩] 26)).heap.size = w.heap.size + 1 := by simp
  refine (put_any true 2 (.inl rfl) ((sOff x.op) % 65536) (w.heap.size + 1) 2 _ [x.op % 256, bits .or .i64 (x.dst * 16) x.src % 256] _ F0 F1 (by omega) (by simp) (own_drewN (own_lit hz0 (Nat.le_refl _) (by simp [maxLen]) rfl) _)).mono ?_
  rintro e w2 ⟨v2, rfl, hown2, hb2⟩
  have hz2 := hb2.size
  simp only [World.heap_drewN, World.alloc, Array.size_push] at hz2
  go_wp2_with fail
  refine (put_any true 4 (.inr rfl) (x.c % 4294967296) (w.heap.size + 1) _ _ _ _ F2 F3 (by omega) (by omega) hown2).mono ?_
  rintro e w3 ⟨v3, rfl, hown3, hb3⟩
  have hb4 : Below (w.heap.size + 1) (w.alloc (.cells #[.int .i64 x.op, .int .i64 x.dst, .int .i64 x.src, .int .i64 x.off, .int .i64 x.c, .string ⟨#[]⟩, .string ⟨#[]⟩] 26)) w3 :=
    ((below_drewN ((Below.refl _ _).alloc (by simp) _) _).trans hb2).trans hb3
  have hI3 := (hb4.block w.heap.size (by omega)).trans hI
  have c0 : w3.cell? ⟨w.heap.size, 0, none⟩ = some (.int .i64 x.op) := cell_of_row _ _ 0 _ _ _ hI3
  have c4 : w3.cell? ⟨w.heap.size, 4, none⟩ = some (.int .i64 x.c) := cell_of_row _ _ 4 _ _ _ hI3
  have hlt : w.heap.size < w3.heap.size := heap_lt hI3
  have hbw : Below w.heap.size w w3 := ((Below.refl _ _).alloc (Nat.le_refl _) _).trans (hb4.mono (by omega))
  rw [HR.out] at hown3
  clear hown2 hb2 hb3 hI hI3
  clear hb4
  go_wp2_with fail
  go_ret
  rw [← HF.out, ← HE.out] at hown3
  exact ⟨_, rfl, by simpa [encB_len4 true x H24.out] using World.ownsRow.mono hown3 (by omega), hbw⟩
set_option maxHeartbeats 4000000 in
set_option maxRecDepth 100000 in
theorem Enc_true_false_plain (x : Itm) (w : World) (hx : x.ok) (h24 : ¬ x.op = 24) (ha : sIsALU x.op = false) :
    Calls Tryz.prog 22 #[insV x.op x.dst x.src x.off x.c, .bool true] w (EncPost w (encB true x)) := by
  have hop0 := hx.op0
  have hop1 := hx.op1
  obtain ⟨d0, d1, s0, s1⟩ := And.intro hx.dst0 (And.intro hx.dst1 (And.intro hx.src0 hx.src1))
  have hu1 := u16w x.off
  have hu2 := u64_small (x := x.off % 65536) (by omega) (by omega)
  have hc2 := u64_small (x := x.c % 4294967296) (by omega) (by omega)
  have hA := Lib.hid ha
  have HR := Lib.hid (regs_byte true d0 d1 s0 s1)
  simp only [if_true, if_false, Bool.false_eq_true] at HR
  have HF := Lib.hid (offW_plain hx ha)
  have HE := Lib.hid (encB_put true x h24)
  have F0 : 0 ≤ x.off % 65536 := by omega
  have F1 : x.off % 65536 < 4294967296 := by omega
  have F2 : 0 ≤ x.c % 4294967296 := by omega
  have F3 : x.c % 4294967296 < 4294967296 := by omega
  have HX := Lib.hid hx
  have e24 := neq24 h24
  have H24 := Lib.hid h24
  clear ha hx h24
  go_enter Tryz.func22, Tryz.ntmps22
  go_wp2_with fail
  go_quiet (fail)
  go_wp2_with (first | (go_at_call 52; refine (sIsALU_b hA.out _).mono ?_; rintro e w' ⟨rfl, rfl⟩) | (go_at_call 55; refine (sOff_any _ _ hop0 hop1).mono ?_; rintro e w' ⟨rfl, rfl⟩))
  have hI : (w.alloc (.cells #[.int .i64 x.op, .int .i64 x.dst, .int .i64 x.src, .int .i64 x.off, .int .i64 x.c, .string ⟨#[]⟩, .string ⟨#[]⟩] 26)).heap[w.heap.size]? = some (.cells #[.int .i64 x.op, .int .i64 x.dst, .int .i64 x.src, .int .i64 x.off, .int .i64 x.c, .string ⟨#[]⟩, .string ⟨#[]⟩] 26 (0, 0)) := heap_at rfl
  have hz0 : (w.alloc (.cells #[.int .i64 x.op, .int .i64 x.dst, .int .i64 x.src, .int .i64 x.off, .int .i64 x.c, .string ⟨#[]⟩, .string ⟨#[]⟩] 26)).heap.size = w.heap.size + 1 := by simp
  refine (put_any true 2 (.inl rfl) (x.off % 65536) (w.heap.size + 1) 2 _ [x.op % 256, bits .or .i64 (x.dst * 16) x.src % 256] _ F0 F1 (by omega) (by simp) (own_drewN (own_lit hz0 (Nat.le_refl _) (by simp [maxLen]) rfl) _)).mono ?_
  rintro e w2 ⟨v2, rfl, hown2, hb2⟩
  have hz2 := hb2.size
  simp only [World.heap_drewN, World.alloc, Array.size_push] at hz2
  go_wp2_with fail
  refine (put_any true 4 (.inr rfl) (x.c % 4294967296) (w.heap.size + 1) _ _ _ _ F2 F3 (by omega) (by omega) hown2).mono ?_
  rintro e w3 ⟨v3, rfl, hown3, hb3⟩
  have hb4 : Below (w.heap.size + 1) (w.alloc (.cells #[.int .i64 x.op, .int .i64 x.dst, .int .i64 x.src, .int .i64 x.off, .int .i64 x.c, .string ⟨#[]⟩, .string ⟨#[]⟩] 26)) w3 :=
    ((below_drewN ((Below.refl _ _).alloc (by simp) _) _).trans hb2).trans hb3
  have hI3 := (hb4.block w.heap.size (by omega)).trans hI
  have c0 : w3.cell? ⟨w.heap.size, 0, none⟩ = some (.int .i64 x.op) := cell_of_row _ _ 0 _ _ _ hI3
  have c4 : w3.cell? ⟨w.heap.size, 4, none⟩ = some (.int .i64 x.c) := cell_of_row _ _ 4 _ _ _ hI3
  have hlt : w.heap.size < w3.heap.size := heap_lt hI3
  have hbw : Below w.heap.size w w3 := ((Below.refl _ _).alloc (Nat.le_refl _) _).trans (hb4.mono (by omega))
  rw [HR.out] at hown3
  clear hown2 hb2 hb3 hI hI3
  clear hb4
  go_wp2_with fail
  go_ret
  rw [← HF.out, ← HE.out] at hown3
  exact ⟨_, rfl, by simpa [encB_len4 true x H24.out] using World.ownsRow.mono hown3 (by omega), hbw⟩
set_option maxHeartbeats 4000000 in
set_option maxRecDepth 100000 in
theorem Enc_false_true_plain (x : Itm) (w : World) (hx : x.ok) (h24 : ¬ x.op = 24) (ha : sIsALU x.op = true) :
    Calls Tryz.prog 22 #[insV x.op x.dst x.src x.off x.c, .bool false] w (EncPost w (encB false x)) := by
  have hop0 := hx.op0
  have hop1 := hx.op1
  obtain ⟨d0, d1, s0, s1⟩ := And.intro hx.dst0 (And.intro hx.dst1 (And.intro hx.src0 hx.src1))
  have hu1 := u16w (sOff x.op)
  have hu2 := u64_small (x := (sOff x.op) % 65536) (by omega) (by omega)
  have hc2 := u64_small (x := x.c % 4294967296) (by omega) (by omega)
  have hA := Lib.hid ha
  have HR := Lib.hid (regs_byte false d0 d1 s0 s1)
  simp only [if_true, if_false, Bool.false_eq_true] at HR
  have HF := Lib.hid (offW_alu hx ha)
  have HE := Lib.hid (encB_put false x h24)
  have F0 : 0 ≤ (sOff x.op) % 65536 := by omega
  have F1 : (sOff x.op) % 65536 < 4294967296 := by omega
  have F2 : 0 ≤ x.c % 4294967296 := by omega
  have F3 : x.c % 4294967296 < 4294967296 := by omega
  have HX := Lib.hid hx
  have e24 := neq24 h24
  have H24 := Lib.hid h24
  clear ha hx h24
  go_enter Tryz.func22, Tryz.ntmps22
  go_wp2_with fail
  go_quiet (fail)
  go_wp2_with (first | (go_at_call 52; refine (sIsALU_b hA.out _).mono ?_; rintro e w' ⟨rfl, rfl⟩) | (go_at_call 55; refine (sOff_any _ _ hop0 hop1).mono ?_; rintro e w' ⟨rfl, rfl⟩))
  have hI : (w.alloc (.cells #[.int .i64 x.op, .int .i64 x.dst, .int .i64 x.src, .int .i64 x.off, .int .i64 x.c, .string ⟨#[]⟩, .string ⟨#[]⟩] 26)).heap[w.heap.size]? = some (.cells #[.int .i64 x.op, .int .i64 x.dst, .int .i64 x.src, .int .i64 x.off, .int .i64 x.c, .string ⟨#[]⟩, .string ⟨#[]⟩] 26 (0, 0)) := heap_at rfl
  have hz0 : (w.alloc (.cells #[.int .i64 x.op, .int .i64 x.dst, .int .i64 x.src, .int .i64 x.off, .int .i64 x.c, .string ⟨#[]⟩, .string ⟨#[]⟩] 26)).heap.size = w.heap.size + 1 := by simp
  refine (put_any false 2 (.inl rfl) ((sOff x.op) % 65536) (w.heap.size + 1) 2 _ [x.op % 256, bits .or .i64 x.dst (x.src * 16) % 256] _ F0 F1 (by omega) (by simp) (own_drewN (own_lit hz0 (Nat.le_refl _) (by simp [maxLen]) rfl) _)).mono ?_
  rintro e w2 ⟨v2, rfl, hown2, hb2⟩
  have hz2 := hb2.size
  simp only [World.heap_drewN, World.alloc, Array.size_push] at hz2
  go_wp2_with fail
  refine (put_any false 4 (.inr rfl) (x.c % 4294967296) (w.heap.size + 1) _ _ _ _ F2 F3 (by omega) (by omega) hown2).mono ?_
  rintro e w3 ⟨v3, rfl, hown3, hb3⟩
  have hb4 : Below (w.heap.size + 1) (w.alloc (.cells #[.int .i64 x.op, .int .i64 x.dst, .int .i64 x.src, .int .i64 x.off, .int .i64 x.c, .string ⟨#[]⟩, .string ⟨#[]⟩] 26)) w3 :=
    ((below_drewN ((Below.refl _ _).alloc (by simp) _) _).trans hb2).trans hb3
  have hI3 := (hb4.block w.heap.size (by omega)).trans hI
  have c0 : w3.cell? ⟨w.heap.size, 0, none⟩ = some (.int .i64 x.op) := cell_of_row _ _ 0 _ _ _ hI3
  have c4 : w3.cell? ⟨w.heap.size, 4, none⟩ = some (.int .i64 x.c) := cell_of_row _ _ 4 _ _ _ hI3
  have hlt : w.heap.size < w3.heap.size := heap_lt hI3
  have hbw : Below w.heap.size w w3 := ((Below.refl _ _).alloc (Nat.le_refl _) _).trans (hb4.mono (by omega))
  rw [HR.out] at hown3
  clear hown2 hb2 hb3 hI hI3
  clear hb4
  go_wp2_with fail
  go_ret
  rw [← HF.out, ← HE.out] at hown3
  exact ⟨_, rfl, by simpa [encB_len4 false x H24.out] using World.ownsRow.mono hown3 (by omega), hbw⟩
set_option maxHeartbeats 4000000 in
set_option maxRecDepth 100000 in
theorem Enc_false_false_plain (x : Itm) (w : World) (hx : x.ok) (h24 : ¬ x.op = 24) (ha : sIsALU x.op = false) :
    Calls Tryz.prog 22 #[insV x.op x.dst x.src x.off x.c, .bool false] w (EncPost w (encB false x)) := by
  have hop0 := hx.op0
  have hop1 := hx.op1
  obtain ⟨d0, d1, s0, s1⟩ := And.intro hx.dst0 (And.intro hx.dst1 (And.intro hx.src0 hx.src1))
  have hu1 := u16w x.off
  have hu2 := u64_small (x := x.off % 65536) (by omega) (by omega)
  have hc2 := u64_small (x := x.c % 4294967296) (by omega) (by omega)
  have hA := Lib.hid ha
  have HR := Lib.hid (regs_byte false d0 d1 s0 s1)
  simp only [if_true, if_false, Bool.false_eq_true] at HR
  have HF := Lib.hid (offW_plain hx ha)
  have HE := Lib.hid (encB_put false x h24)
  have F0 : 0 ≤ x.off % 65536 := by omega
  have F1 : x.off % 65536 < 4294967296 := by omega
  have F2 : 0 ≤ x.c % 4294967296 := by omega
  have F3 : x.c % 4294967296 < 4294967296 := by omega
  have HX := Lib.hid hx
  have e24 := neq24 h24
  have H24 := Lib.hid h24
  clear ha hx h24
  go_enter Tryz.func22, Tryz.ntmps22
  go_wp2_with fail
  go_quiet (fail)
  go_wp2_with (first | (go_at_call 52; refine (sIsALU_b hA.out _).mono ?_; rintro e w' ⟨rfl, rfl⟩) | (go_at_call 55; refine (sOff_any _ _ hop0 hop1).mono ?_; rintro e w' ⟨rfl, rfl⟩))
  have hI : (w.alloc (.cells #[.int .i64 x.op, .int .i64 x.dst, .int .i64 x.src, .int .i64 x.off, .int .i64 x.c, .string ⟨#[]⟩, .string ⟨#[]⟩] 26)).heap[w.heap.size]? = some (.cells #[.int .i64 x.op, .int .i64 x.dst, .int .i64 x.src, .int .i64 x.off, .int .i64 x.c, .string ⟨#[]⟩, .string ⟨#[]⟩] 26 (0, 0)) := heap_at rfl
  have hz0 : (w.alloc (.cells #[.int .i64 x.op, .int .i64 x.dst, .int .i64 x.src, .int .i64 x.off, .int .i64 x.c, .string ⟨#[]⟩, .string ⟨#[]⟩] 26)).heap.size = w.heap.size + 1 := by simp
  refine (put_any false 2 (.inl rfl) (x.off % 65536) (w.heap.size + 1) 2 _ [x.op % 256, bits .or .i64 x.dst (x.src * 16) % 256] _ F0 F1 (by omega) (by simp) (own_drewN (own_lit hz0 (Nat.le_refl _) (by simp [maxLen]) rfl) _)).mono ?_
  rintro e w2 ⟨v2, rfl, hown2, hb2⟩
  have hz2 := hb2.size
  simp only [World.heap_drewN, World.alloc, Array.size_push] at hz2
  go_wp2_with fail
  refine (put_any false 4 (.inr rfl) (x.c % 4294967296) (w.heap.size + 1) _ _ _ _ F2 F3 (by omega) (by omega) hown2).mono ?_
  rintro e w3 ⟨v3, rfl, hown3, hb3⟩
  have hb4 : Below (w.heap.size + 1) (w.alloc (.cells #[.int .i64 x.op, .int .i64 x.dst, .int .i64 x.src, .int .i64 x.off, .int .i64 x.c, .string ⟨#[]⟩, .string ⟨#[]⟩] 26)) w3 :=
    ((below_drewN ((Below.refl _ _).alloc (by simp) _) _).trans hb2).trans hb3
  have hI3 := (hb4.block w.heap.size (by omega)).trans hI
  have c0 : w3.cell? ⟨w.heap.size, 0, none⟩ = some (.int .i64 x.op) := cell_of_row _ _ 0 _ _ _ hI3
  have c4 : w3.cell? ⟨w.heap.size, 4, none⟩ = some (.int .i64 x.c) := cell_of_row _ _ 4 _ _ _ hI3
  have hlt : w.heap.size < w3.heap.size := heap_lt hI3
  have hbw : Below w.heap.size w w3 := ((Below.refl _ _).alloc (Nat.le_refl _) _).trans (hb4.mono (by omega))
  rw [HR.out] at hown3
  clear hown2 hb2 hb3 hI hI3
  clear hb4
  go_wp2_with fail
  go_ret
  rw [← HF.out, ← HE.out] at hown3
  exact ⟨_, rfl, by simpa [encB_len4 false x H24.out] using World.ownsRow.mono hown3 (by omega), hbw⟩
set_option maxHeartbeats 4000000 in
set_option maxRecDepth 100000 in
theorem Enc_true_false_dw (x : Itm) (w : World) (hx : x.ok) (h24 :  x.op = 24) (ha : sIsALU x.op = false) :
    Calls Tryz.prog 22 #[insV x.op x.dst x.src x.off x.c, .bool true] w (EncPost w (encB true x)) := by
  have hop0 := hx.op0
  have hop1 := hx.op1
  obtain ⟨d0, d1, s0, s1⟩ := And.intro hx.dst0 (And.intro hx.dst1 (And.intro hx.src0 hx.src1))
  have hu1 := u16w x.off
  have hu2 := u64_small (x := x.off % 65536) (by omega) (by omega)
  have hc2 := u64_small (x := x.c % 4294967296) (by omega) (by omega)
  have hA := Lib.hid ha
  have HR := Lib.hid (regs_byte true d0 d1 s0 s1)
  simp only [if_true, if_false, Bool.false_eq_true] at HR
  have HF := Lib.hid (offW_plain hx ha)
  have HE := Lib.hid (encB_put24 true x h24)
  have F0 : 0 ≤ x.off % 65536 := by omega
  have F1 : x.off % 65536 < 4294967296 := by omega
  have F2 : 0 ≤ x.c % 4294967296 := by omega
  have F3 : x.c % 4294967296 < 4294967296 := by omega
  have HX := Lib.hid hx
  have e24 := eq24 h24
  have H24 := Lib.hid h24
  clear ha hx h24
  go_enter Tryz.func22, Tryz.ntmps22
  go_wp2_with fail
  go_quiet (fail)
  go_wp2_with (first | (go_at_call 52; refine (sIsALU_b hA.out _).mono ?_; rintro e w' ⟨rfl, rfl⟩) | (go_at_call 55; refine (sOff_any _ _ hop0 hop1).mono ?_; rintro e w' ⟨rfl, rfl⟩))
  have hI : (w.alloc (.cells #[.int .i64 x.op, .int .i64 x.dst, .int .i64 x.src, .int .i64 x.off, .int .i64 x.c, .string ⟨#[]⟩, .string ⟨#[]⟩] 26)).heap[w.heap.size]? = some (.cells #[.int .i64 x.op, .int .i64 x.dst, .int .i64 x.src, .int .i64 x.off, .int .i64 x.c, .string ⟨#[]⟩, .string ⟨#[]⟩] 26 (0, 0)) := heap_at rfl
  have hz0 : (w.alloc (.cells #[.int .i64 x.op, .int .i64 x.dst, .int .i64 x.src, .int .i64 x.off, .int .i64 x.c, .string ⟨#[]⟩, .string ⟨#[]⟩] 26)).heap.size = w.heap.size + 1 := by simp
  refine (put_any true 2 (.inl rfl) (x.off % 65536) (w.heap.size + 1) 2 _ [x.op % 256, bits .or .i64 (x.dst * 16) x.src % 256] _ F0 F1 (by omega) (by simp) (own_drewN (own_lit hz0 (Nat.le_refl _) (by simp [maxLen]) rfl) _)).mono ?_
  rintro e w2 ⟨v2, rfl, hown2, hb2⟩
  have hz2 := hb2.size
  simp only [World.heap_drewN, World.alloc, Array.size_push] at hz2
  go_wp2_with fail
  refine (put_any true 4 (.inr rfl) (x.c % 4294967296) (w.heap.size + 1) _ _ _ _ F2 F3 (by omega) (by omega) hown2).mono ?_
  rintro e w3 ⟨v3, rfl, hown3, hb3⟩
  have hb4 : Below (w.heap.size + 1) (w.alloc (.cells #[.int .i64 x.op, .int .i64 x.dst, .int .i64 x.src, .int .i64 x.off, .int .i64 x.c, .string ⟨#[]⟩, .string ⟨#[]⟩] 26)) w3 :=
    ((below_drewN ((Below.refl _ _).alloc (by simp) _) _).trans hb2).trans hb3
  have hI3 := (hb4.block w.heap.size (by omega)).trans hI
  have c0 : w3.cell? ⟨w.heap.size, 0, none⟩ = some (.int .i64 x.op) := cell_of_row _ _ 0 _ _ _ hI3
  have c4 : w3.cell? ⟨w.heap.size, 4, none⟩ = some (.int .i64 x.c) := cell_of_row _ _ 4 _ _ _ hI3
  have hlt : w.heap.size < w3.heap.size := heap_lt hI3
  have hbw : Below w.heap.size w w3 := ((Below.refl _ _).alloc (Nat.le_refl _) _).trans (hb4.mono (by omega))
  rw [HR.out] at hown3
  clear hown2 hb2 hb3 hI hI3
  clear hbw
  have HS := Lib.hid (u64_hi x.c)
  have F4 : 0 ≤ IntKind.u64.wrap x.c / 4294967296 := by rw [HS.out]; omega
  have F5 : IntKind.u64.wrap x.c / 4294967296 < 4294967296 := by rw [HS.out]; omega
  obtain ⟨i0, hi, q0, q1, q2⟩ := info_parts infoByte
  obtain ⟨A3, k3, rfl, hn3, hk3⟩ := own_form hown3
  have HB := Lib.hid hb4
  have HO := Lib.hid hown3
  clear hb4 hown3
  go_wp2_with fail
  go_region_law (first
    | (refine step_append_lies _ rfl _ _ 28 rfl (w.heap.size + 1) 5 i0 _ 1 1 Tryz.underlying28 hi q0 q1 q2 rfl (by omega) _ (2 + 2 + 4) _ rfl (HO.out.alloc _) ⟨w3.heap.size, 0, none⟩ 4 4 [.int .u8 0, .int .u8 0, .int .u8 0, .int .u8 0] rfl rfl (World.news_of_block (heap_at rfl)) (by simp [Value.oneCell']) (by omega) (by simp [maxLen]) (by omega) (by simp; omega) _ rfl ?_
       intro g4 k4 w4 hown4 hgrow _ hlt4
       go_loud (have hb5 := below_append (HB.out.alloc hlt _) (HO.out.alloc _) (Nat.le_refl _) (by rw [show (w3.alloc _).heap.size = w3.heap.size + 1 from by simp]; omega) (grown_undrew hgrow))
       go_loud (have hz5 : w.heap.size + 1 ≤ w4.heap.size := Nat.le_trans (Nat.le_of_eq hz0.symm) hb5.size)
       go_loud (have d4 : w4.cell? ⟨w.heap.size, 4, none⟩ = some (.int .i64 x.c) := cell_of_row _ _ 4 _ _ _ ((hb5.block w.heap.size (Nat.lt_succ_self _)).trans (heap_at rfl)))
       clear hgrow)
    | (go_simp; go_at_call 56
       go_loud (refine (put_any true 4 (.inr rfl) (IntKind.u64.wrap x.c / 4294967296) (w.heap.size + 1) (2 + 2 + 4 + 4) _ _ _ F4 F5 (by omega) hz5 (put_zero hown4)).mono ?_)
       rintro e w5 ⟨v5, rfl, hown5, hb6⟩))
  all_goals
    rw [HS.out, ← HF.out, ← HE.out] at hown5
    have hbw : Below w.heap.size w w5 := ((Below.refl _ _).alloc (Nat.le_refl _) _).trans ((hb5.trans hb6).mono (by omega))
    clear hb5 hb6 hown4 d4
    go_wp2_with fail
    go_ret
    exact ⟨_, rfl, by simpa [encB_len24 true x H24.out] using World.ownsRow.mono hown5 (by omega), hbw⟩
set_option maxHeartbeats 4000000 in
set_option maxRecDepth 100000 in
theorem Enc_false_false_dw (x : Itm) (w : World) (hx : x.ok) (h24 :  x.op = 24) (ha : sIsALU x.op = false) :
    Calls Tryz.prog 22 #[insV x.op x.dst x.src x.off x.c, .bool false] w (EncPost w (encB false x)) := by
  have hop0 := hx.op0
  have hop1 := hx.op1
  obtain ⟨d0, d1, s0, s1⟩ := And.intro hx.dst0 (And.intro hx.dst1 (And.intro hx.src0 hx.src1))
  have hu1 := u16w x.off
  have hu2 := u64_small (x := x.off % 65536) (by omega) (by omega)
  have hc2 := u64_small (x := x.c % 4294967296) (by omega) (by omega)
  have hA := Lib.hid ha
  have HR := Lib.hid (regs_byte false d0 d1 s0 s1)
  simp only [if_true, if_false, Bool.false_eq_true] at HR
  have HF := Lib.hid (offW_plain hx ha)
  have HE := Lib.hid (encB_put24 false x h24)
  have F0 : 0 ≤ x.off % 65536 := by omega
  have F1 : x.off % 65536 < 4294967296 := by omega
  have F2 : 0 ≤ x.c % 4294967296 := by omega
  have F3 : x.c % 4294967296 < 4294967296 := by omega
  have HX := Lib.hid hx
  have e24 := eq24 h24
  have H24 := Lib.hid h24
  clear ha hx h24
  go_enter Tryz.func22, Tryz.ntmps22
  go_wp2_with fail
  go_quiet (fail)
  go_wp2_with (first | (go_at_call 52; refine (sIsALU_b hA.out _).mono ?_; rintro e w' ⟨rfl, rfl⟩) | (go_at_call 55; refine (sOff_any _ _ hop0 hop1).mono ?_; rintro e w' ⟨rfl, rfl⟩))
  have hI : (w.alloc (.cells #[.int .i64 x.op, .int .i64 x.dst, .int .i64 x.src, .int .i64 x.off, .int .i64 x.c, .string ⟨#[]⟩, .string ⟨#[]⟩] 26)).heap[w.heap.size]? = some (.cells #[.int .i64 x.op, .int .i64 x.dst, .int .i64 x.src, .int .i64 x.off, .int .i64 x.c, .string ⟨#[]⟩, .string ⟨#[]⟩] 26 (0, 0)) := heap_at rfl
  have hz0 : (w.alloc (.cells #[.int .i64 x.op, .int .i64 x.dst, .int .i64 x.src, .int .i64 x.off, .int .i64 x.c, .string ⟨#[]⟩, .string ⟨#[]⟩] 26)).heap.size = w.heap.size + 1 := by simp
  refine (put_any false 2 (.inl rfl) (x.off % 65536) (w.heap.size + 1) 2 _ [x.op % 256, bits .or .i64 x.dst (x.src * 16) % 256] _ F0 F1 (by omega) (by simp) (own_drewN (own_lit hz0 (Nat.le_refl _) (by simp [maxLen]) rfl) _)).mono ?_
  rintro e w2 ⟨v2, rfl, hown2, hb2⟩
  have hz2 := hb2.size
  simp only [World.heap_drewN, World.alloc, Array.size_push] at hz2
  go_wp2_with fail
  refine (put_any false 4 (.inr rfl) (x.c % 4294967296) (w.heap.size + 1) _ _ _ _ F2 F3 (by omega) (by omega) hown2).mono ?_
  rintro e w3 ⟨v3, rfl, hown3, hb3⟩
  have hb4 : Below (w.heap.size + 1) (w.alloc (.cells #[.int .i64 x.op, .int .i64 x.dst, .int .i64 x.src, .int .i64 x.off, .int .i64 x.c, .string ⟨#[]⟩, .string ⟨#[]⟩] 26)) w3 :=
    ((below_drewN ((Below.refl _ _).alloc (by simp) _) _).trans hb2).trans hb3
  have hI3 := (hb4.block w.heap.size (by omega)).trans hI
  have c0 : w3.cell? ⟨w.heap.size, 0, none⟩ = some (.int .i64 x.op) := cell_of_row _ _ 0 _ _ _ hI3
  have c4 : w3.cell? ⟨w.heap.size, 4, none⟩ = some (.int .i64 x.c) := cell_of_row _ _ 4 _ _ _ hI3
  have hlt : w.heap.size < w3.heap.size := heap_lt hI3
  have hbw : Below w.heap.size w w3 := ((Below.refl _ _).alloc (Nat.le_refl _) _).trans (hb4.mono (by omega))
  rw [HR.out] at hown3
  clear hown2 hb2 hb3 hI hI3
  clear hbw
  have HS := Lib.hid (u64_hi x.c)
  have F4 : 0 ≤ IntKind.u64.wrap x.c / 4294967296 := by rw [HS.out]; omega
  have F5 : IntKind.u64.wrap x.c / 4294967296 < 4294967296 := by rw [HS.out]; omega
  obtain ⟨i0, hi, q0, q1, q2⟩ := info_parts infoByte
  obtain ⟨A3, k3, rfl, hn3, hk3⟩ := own_form hown3
  have HB := Lib.hid hb4
  have HO := Lib.hid hown3
  clear hb4 hown3
  go_wp2_with fail
  go_region_law (first
    | (refine step_append_lies _ rfl _ _ 28 rfl (w.heap.size + 1) 5 i0 _ 1 1 Tryz.underlying28 hi q0 q1 q2 rfl (by omega) _ (2 + 2 + 4) _ rfl (HO.out.alloc _) ⟨w3.heap.size, 0, none⟩ 4 4 [.int .u8 0, .int .u8 0, .int .u8 0, .int .u8 0] rfl rfl (World.news_of_block (heap_at rfl)) (by simp [Value.oneCell']) (by omega) (by simp [maxLen]) (by omega) (by simp; omega) _ rfl ?_
       intro g4 k4 w4 hown4 hgrow _ hlt4
       go_loud (have hb5 := below_append (HB.out.alloc hlt _) (HO.out.alloc _) (Nat.le_refl _) (by rw [show (w3.alloc _).heap.size = w3.heap.size + 1 from by simp]; omega) (grown_undrew hgrow))
       go_loud (have hz5 : w.heap.size + 1 ≤ w4.heap.size := Nat.le_trans (Nat.le_of_eq hz0.symm) hb5.size)
       go_loud (have d4 : w4.cell? ⟨w.heap.size, 4, none⟩ = some (.int .i64 x.c) := cell_of_row _ _ 4 _ _ _ ((hb5.block w.heap.size (Nat.lt_succ_self _)).trans (heap_at rfl)))
       clear hgrow)
    | (go_simp; go_at_call 56
       go_loud (refine (put_any false 4 (.inr rfl) (IntKind.u64.wrap x.c / 4294967296) (w.heap.size + 1) (2 + 2 + 4 + 4) _ _ _ F4 F5 (by omega) hz5 (put_zero hown4)).mono ?_)
       rintro e w5 ⟨v5, rfl, hown5, hb6⟩))
  all_goals
    rw [HS.out, ← HF.out, ← HE.out] at hown5
    have hbw : Below w.heap.size w w5 := ((Below.refl _ _).alloc (Nat.le_refl _) _).trans ((hb5.trans hb6).mono (by omega))
    clear hb5 hb6 hown4 d4
    go_wp2_with fail
    go_ret
    exact ⟨_, rfl, by simpa [encB_len24 false x H24.out] using World.ownsRow.mono hown5 (by omega), hbw⟩
theorem dw_plain {x : Itm} (h : x.op = 24) : sIsALU x.op = false := by rw [h]; decide +kernel
theorem Encode_any (big : Bool) (x : Itm) (w : World) (hx : x.ok) : Calls Tryz.prog 22 #[insV x.op x.dst x.src x.off x.c, .bool big] w (EncPost w (encB big x)) := by
  by_cases h24 : x.op = 24
  · cases big
    · exact Enc_false_false_dw x w hx h24 (dw_plain h24)
    · exact Enc_true_false_dw x w hx h24 (dw_plain h24)
  · cases ha : sIsALU x.op <;> cases big
    · exact Enc_false_false_plain x w hx h24 ha
    · exact Enc_true_false_plain x w hx h24 ha
    · exact Enc_false_true_plain x w hx h24 ha
    · exact Enc_true_true_plain x w hx h24 ha
end Go.Proofs.YtobgjmgepckijaaGreatDoor
