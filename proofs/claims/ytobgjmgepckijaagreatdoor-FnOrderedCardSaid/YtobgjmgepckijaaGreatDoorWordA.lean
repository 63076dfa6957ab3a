/- The package's words of a class, a mode, a size, a source, an order of bytes, a register, an atomic operation; and the getters that they want. -/
import Derived.Test.YtobgjmgepckijaaGreatDoorMaps
import Derived.Test.YtobgjmgepckijaaGreatDoorShelf
import Derived.Test.YtobgjmgepckijaaGreatDoorCode
import Derived.BigQuiet
import Derived.Deep.QuietTactic
import Derived.RegionTactic
import Derived.Outline
namespace Go.Proofs.YtobgjmgepckijaaGreatDoor
open Go.RowKit
set_option linter.unusedVariables false
set_option linter.unusedSimpArgs false
def classS (c : Int) : ByteArray := if c = 0 then ⟨#[76, 100, 67, 108, 97, 115, 115]⟩ else if c = 1 then ⟨#[76, 100, 88, 67, 108, 97, 115, 115]⟩ else if c = 2 then ⟨#[83, 116, 67, 108, 97, 115, 115]⟩ else if c = 3 then ⟨#[83, 116, 88, 67, 108, 97, 115, 115]⟩ else if c = 4 then ⟨#[65, 76, 85, 67, 108, 97, 115, 115]⟩ else if c = 5 then ⟨#[74, 117, 109, 112, 67, 108, 97, 115, 115]⟩ else if c = 6 then ⟨#[74, 117, 109, 112, 51, 50, 67, 108, 97, 115, 115]⟩ else ⟨#[65, 76, 85, 54, 52, 67, 108, 97, 115, 115]⟩
def modeS (m : Int) : ByteArray := if m = 0 then ⟨#[73, 109, 109, 77, 111, 100, 101]⟩ else if m = 32 then ⟨#[65, 98, 115, 77, 111, 100, 101]⟩ else if m = 64 then ⟨#[73, 110, 100, 77, 111, 100, 101]⟩ else if m = 96 then ⟨#[77, 101, 109, 77, 111, 100, 101]⟩ else if m = 128 then ⟨#[77, 101, 109, 83, 88, 77, 111, 100, 101]⟩ else if m = 192 then ⟨#[65, 116, 111, 109, 105, 99, 77, 111, 100, 101]⟩ else ⟨#[73, 110, 118, 97, 108, 105, 100, 77, 111, 100, 101]⟩
def sizeS (s : Int) : ByteArray := if s = 0 then ⟨#[87, 111, 114, 100]⟩ else if s = 8 then ⟨#[72, 97, 108, 102]⟩ else if s = 16 then ⟨#[66, 121, 116, 101]⟩ else if s = 24 then ⟨#[68, 87, 111, 114, 100]⟩ else ⟨#[73, 110, 118, 97, 108, 105, 100, 83, 105, 122, 101]⟩
def srcS (s : Int) : ByteArray := if s = 0 then ⟨#[73, 109, 109, 83, 111, 117, 114, 99, 101]⟩ else if s = 8 then ⟨#[82, 101, 103, 83, 111, 117, 114, 99, 101]⟩ else ⟨#[73, 110, 118, 97, 108, 105, 100, 83, 111, 117, 114, 99, 101]⟩
def endS (s : Int) : ByteArray := if s = 0 then ⟨#[76, 69]⟩ else if s = 8 then ⟨#[66, 69]⟩ else ⟨#[73, 110, 118, 97, 108, 105, 100, 69, 110, 100, 105, 97, 110]⟩
set_option maxHeartbeats 4000000 in
set_option maxRecDepth 100000 in
theorem ClassString (c : Int) (w : World) (h0 : 0 ≤ c) (h1 : c ≤ 7) : Calls Tryz.prog 31 #[.int .u8 c] w fun e w' => e = .returned (.string (classS c)) ∧ Below w.heap.size w w' := by
  have h : c = 0 ∨ c = 1 ∨ c = 2 ∨ c = 3 ∨ c = 4 ∨ c = 5 ∨ c = 6 ∨ c = 7 := by omega
  rcases h with rfl | rfl | rfl | rfl | rfl | rfl | rfl | rfl
  all_goals
    go_enter Tryz.func31, Tryz.ntmps31
    go_wp2_with fail
    go_quiet (fail)
    go_wp2_with fail
    go_ret
    exact ⟨by simp only [classS]; rfl, below_drewN ((Below.refl _ _).alloc (Nat.le_refl _) _) _⟩
set_option maxHeartbeats 4000000 in
set_option maxRecDepth 100000 in
theorem ModeString (m : Int) (w : World) (hm : m = 0 ∨ m = 32 ∨ m = 64 ∨ m = 96 ∨ m = 128 ∨ m = 192) : Calls Tryz.prog 34 #[.int .u8 m] w fun e w' => e = .returned (.string (modeS m)) ∧ w = w' := by
  rcases hm with rfl | rfl | rfl | rfl | rfl | rfl
  all_goals
    go_enter Tryz.func34, Tryz.ntmps34
    go_wp2_with fail
    go_ret
    exact ⟨rfl, rfl⟩
set_option maxHeartbeats 4000000 in
set_option maxRecDepth 100000 in
theorem SizeString (m : Int) (w : World) (hm : m = 0 ∨ m = 8 ∨ m = 16 ∨ m = 24) : Calls Tryz.prog 35 #[.int .u8 m] w fun e w' => e = .returned (.string (sizeS m)) ∧ w = w' := by
  rcases hm with rfl | rfl | rfl | rfl
  all_goals
    go_enter Tryz.func35, Tryz.ntmps35
    go_wp2_with fail
    go_ret
    exact ⟨rfl, rfl⟩
set_option maxHeartbeats 4000000 in
set_option maxRecDepth 100000 in
theorem SrcString (m : Int) (w : World) (hm : m = 0 ∨ m = 8) : Calls Tryz.prog 36 #[.int .u16 m] w fun e w' => e = .returned (.string (srcS m)) ∧ w = w' := by
  rcases hm with rfl | rfl
  all_goals
    go_enter Tryz.func36, Tryz.ntmps36
    go_wp2_with fail
    go_ret
    exact ⟨rfl, rfl⟩
set_option maxHeartbeats 4000000 in
set_option maxRecDepth 100000 in
theorem EndString (m : Int) (w : World) (hm : m = 0 ∨ m = 8) : Calls Tryz.prog 37 #[.int .u8 m] w fun e w' => e = .returned (.string (endS m)) ∧ w = w' := by
  rcases hm with rfl | rfl
  all_goals
    go_enter Tryz.func37, Tryz.ntmps37
    go_wp2_with fail
    go_ret
    exact ⟨rfl, rfl⟩
def regS (d : Int) : ByteArray := if d = 10 then ⟨#[114, 102, 112]⟩ else ⟨#[114]⟩ ++ ⟨(Lib.decDigits d.toNat).toArray⟩
theorem digits_len : ∀ k : Fin 11, (Lib.decDigits k.val).length ≤ 2 := by decide +kernel
set_option maxHeartbeats 4000000 in
set_option maxRecDepth 100000 in
theorem RegString (d : Int) (w : World) (d0 : 0 ≤ d) (d1 : d ≤ 10) : Calls Tryz.prog 38 #[.int .u8 d] w fun e w' => e = .returned (.string (regS d)) ∧ w = w' := by
  by_cases h : d = 10
  · subst h
    go_enter Tryz.func38, Tryz.ntmps38
    go_wp2_with fail
    go_ret
    exact ⟨rfl, rfl⟩
  · obtain ⟨n, rfl⟩ := Int.eq_ofNat_of_zero_le d0
    have hi : n < 100 := by omega
    have h' : ¬ (n : Int) = 10 := h
    have hdl := digits_len ⟨n, by omega⟩
    simp only at hdl
    have e1 : regS n = ⟨#[114]⟩ ++ ⟨(Lib.decDigits n).toArray⟩ := by unfold regS; rw [if_neg h, Int.toNat_natCast]
    rw [e1]
    go_enter Tryz.func38, Tryz.ntmps38
    go_wp2_with fail
    refine (Tryz.strconv_Itoa_small n hi _).mono ?_
    rintro e w1 ⟨rfl, rfl⟩
    go_wp2_with fail
    go_ret
    exact ⟨rfl, rfl⟩
def atomKeys : List Int := [0, 20480, 16384, 40960, 256, 20736, 16640, 41216, 57600, 61696, 65536, 69632]
def atomS (a : Int) : ByteArray := if a = 0 then aluS 0 else if a = 20480 then aluS 80 else if a = 16384 then aluS 64 else if a = 40960 then aluS 160 else if a = 256 then ⟨#[70, 101, 116, 99, 104]⟩ ++ aluS 0 else if a = 20736 then ⟨#[70, 101, 116, 99, 104]⟩ ++ aluS 80 else if a = 16640 then ⟨#[70, 101, 116, 99, 104]⟩ ++ aluS 64 else
  if a = 41216 then ⟨#[70, 101, 116, 99, 104]⟩ ++ aluS 160 else if a = 57600 then ⟨#[88, 99, 104, 103]⟩ else if a = 61696 then ⟨#[67, 109, 112, 88, 99, 104, 103]⟩ else if a = 65536 then ⟨#[76, 100, 65, 99, 113]⟩ else ⟨#[83, 116, 82, 101, 108]⟩
theorem xor_all : bits .xor .u32 256 256 = 0 ∧ bits .xor .u32 20736 256 = 20480 ∧ bits .xor .u32 16640 256 = 16384 ∧ bits .xor .u32 41216 256 = 40960 := by decide +kernel
set_option maxHeartbeats 4000000 in
set_option maxRecDepth 100000 in
theorem AtomString (a : Int) (w : World) (ha : a ∈ atomKeys) : Calls Tryz.prog 39 #[.int .u32 a] w fun e w' => e = .returned (.string (atomS a)) ∧ Below w.heap.size w w' := by
  obtain ⟨x1, x2, x3, x4⟩ := xor_all
  simp only [atomKeys, List.mem_cons, List.not_mem_nil, or_false] at ha
  rcases ha with rfl | rfl | rfl | rfl | rfl | rfl | rfl | rfl | rfl | rfl | rfl | rfl
  iterate 8
    · go_enter Tryz.func39, Tryz.ntmps39
      go_wp2_with fail
      refine (aluString _ _ (by decide)).mono ?_
      rintro e w1 ⟨rfl, hb⟩
      go_wp2_with fail
      go_ret
      exact ⟨rfl, hb⟩
  iterate 4
    · go_enter Tryz.func39, Tryz.ntmps39
      go_wp2_with fail
      go_ret
      exact ⟨rfl, Below.refl _ _⟩
end Go.Proofs.YtobgjmgepckijaaGreatDoor
