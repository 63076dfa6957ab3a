/- The reference's words: a number's text, a register, an operation, a jump, an atomic operation. -/
import Derived.Test.YtobgjmgepckijaaGreatDoorProg
import Derived.Test.YtobgjmgepckijaaGreatDoorBelow
import Derived.WalkKit
import Derived.KernelRfl
import Derived.WalkLawsBesides
import Derived.WalkSpells
import Derived.Lib.Hide
import Derived.Lib.ItoaNum
import Derived.Laws.Runes
import Derived.Outline
namespace Go.Proofs.YtobgjmgepckijaaGreatDoor
open Go.RowKit
set_option linter.unusedVariables false
set_option linter.unusedSimpArgs false
theorem enc_digit : ∀ d : Fin 10, Utf8.encode (48 + (d.val : Int)) = ⟨#[UInt8.ofNat (48 + d.val)]⟩ := by decide +kernel
theorem enc_digit' {d : Nat} (h : d < 10) : Utf8.encode (48 + (d : Int)) = ⟨#[UInt8.ofNat (48 + d)]⟩ := enc_digit ⟨d, h⟩
theorem decDigits_small : ∀ (k u : Nat), u < 10 ^ k → 0 < k → (Lib.decDigits u).length ≤ k
  | 0, _, _, h => absurd h (Nat.lt_irrefl _)
  | k + 1, u, hu, _ => by
    rw [Lib.decDigits]
    split
    · simp
    · rename_i h
      have hk : 0 < k := by
        rcases Nat.eq_zero_or_pos k with rfl | h'
        · simp at hu; omega
        · exact h'
      have := decDigits_small k (u / 10) (by rw [Nat.div_lt_iff_lt_mul (by decide)]; rwa [Nat.pow_succ] at hu) hk
      simp only [List.length_append, List.length_cons, List.length_nil]
      omega
theorem dig_len {u : Nat} (h : u < 18446744073709551616) : (Lib.decDigits u).length ≤ 20 := decDigits_small 20 u (Nat.lt_trans h (by decide)) (by decide)
def natS (n : Nat) : ByteArray := ⟨(Lib.decDigits n).toArray⟩
theorem natS_lt {n : Nat} (h : n < 10) : natS n = ⟨#[UInt8.ofNat (48 + n)]⟩ := by unfold natS; rw [Lib.decDigits_one h]
theorem natS_ge {n : Nat} (h : ¬ n < 10) : natS n = natS (n / 10) ++ ⟨#[UInt8.ofNat (48 + n % 10)]⟩ := by
  unfold natS
  rw [Lib.decDigits, dif_neg h]
  apply ByteArray.ext
  simp [ByteArray.data_append]
theorem natS_size {n : Nat} (h : n < 18446744073709551616) : (natS n).size ≤ 20 := dig_len h
set_option maxHeartbeats 4000000 in
set_option maxRecDepth 100000 in
theorem natural_lt (n : Nat) (w : World) (h : n < 10) : Calls Tryz.prog 89 #[.int .u64 n] w fun e w' => e = .returned (.string (natS n)) ∧ w = w' := by
  rw [natS_lt h]
  have he := enc_digit' h
  obtain ⟨D, hD⟩ : ∃ D, (⟨#[UInt8.ofNat (48 + n)]⟩ : ByteArray) = D := ⟨_, rfl⟩
  rw [hD] at he ⊢
  clear hD
  have h1 : (n : Int) < 10 := by omega
  have h0 : (0 : Int) ≤ (n : Int) := by omega
  go_enter Tryz.func89, Tryz.ntmps89
  go_wp2_with fail
  go_ret
  exact ⟨rfl, rfl⟩
set_option maxHeartbeats 4000000 in
set_option maxRecDepth 100000 in
theorem natural_step (n : Nat) (w : World) (h : ¬ n < 10) (hn : n < 18446744073709551616) (ih : ∀ w, Calls Tryz.prog 89 #[.int .u64 ((n : Int) / 10)] w fun e w' => e = .returned (.string (natS (n / 10))) ∧ w = w') :
    Calls Tryz.prog 89 #[.int .u64 n] w fun e w' => e = .returned (.string (natS n)) ∧ w = w' := by
  rw [natS_ge h]
  have he := enc_digit' (d := n % 10) (Nat.mod_lt _ (by decide))
  rw [show ((n % 10 : Nat) : Int) = (n : Int) % 10 by omega] at he
  have hs := natS_size (n := n / 10) (by omega)
  obtain ⟨S, hS⟩ : ∃ S, natS (n / 10) = S := ⟨_, rfl⟩
  obtain ⟨D, hD⟩ : ∃ D, (⟨#[UInt8.ofNat (48 + n % 10)]⟩ : ByteArray) = D := ⟨_, rfl⟩
  rw [hS] at ih hs ⊢
  rw [hD] at he ⊢
  have hDs : D.size = 1 := by rw [← hD]; rfl
  have IH := Lib.hid ih
  have h1 : ¬ (n : Int) < 10 := by omega
  have h0 : (0 : Int) ≤ (n : Int) := by omega
  have hw : IntKind.u64.wrap ((n : Int) / 10) = (n : Int) / 10 := by simp [IntKind.wrap, IntKind.bits, IntKind.signed]; omega
  clear ih hS hD hn h
  go_enter Tryz.func89, Tryz.ntmps89
  go_wp2_with (go_at_call 89; refine (IH.out _).mono ?_; rintro e w' ⟨rfl, rfl⟩)
  go_ret
  exact ⟨rfl, rfl⟩
theorem natural_any : ∀ (k n : Nat) (w : World), n < k → n < 18446744073709551616 → Calls Tryz.prog 89 #[.int .u64 n] w fun e w' => e = .returned (.string (natS n)) ∧ w = w'
  | 0, _, _, h, _ => absurd h (Nat.not_lt_zero _)
  | k + 1, n, w, h, hn => by
    by_cases h10 : n < 10
    · exact natural_lt n w h10
    · refine natural_step n w h10 hn (fun w => ?_)
      have := natural_any k (n / 10) w (by omega) (by omega)
      rwa [show ((n / 10 : Nat) : Int) = (n : Int) / 10 by omega] at this
/-- a number's text -/
def decS (n : Int) : ByteArray := if n < 0 then ⟨#[45]⟩ ++ natS n.natAbs else natS n.toNat
set_option maxHeartbeats 4000000 in
set_option maxRecDepth 100000 in
theorem Decimal_any (n : Int) (w : World) (h0 : -9223372036854775808 ≤ n) (h1 : n ≤ 9223372036854775807) : Calls Tryz.prog 49 #[.int .i64 n] w fun e w' => e = .returned (.string (decS n)) ∧ w = w' := by
  unfold decS
  by_cases h : n < 0
  · rw [if_pos h]
    have hs := natS_size (n := n.natAbs) (by omega)
    have e1 : IntKind.u64.wrap (-(IntKind.u64.wrap n)) = (n.natAbs : Int) := by simp [IntKind.wrap, IntKind.bits, IntKind.signed]; omega
    obtain ⟨q, hq⟩ : ∃ q : Int, (n.natAbs : Int) = q := ⟨_, rfl⟩
    obtain ⟨S, hS⟩ : ∃ S, natS n.natAbs = S := ⟨_, rfl⟩
    have HC := Lib.hid (fun W => natural_any (n.natAbs + 1) n.natAbs W (Nat.lt_succ_self _) (by omega))
    rw [hq, hS] at HC
    rw [hq] at e1
    rw [hS] at hs ⊢
    clear hq hS h0 h1
    go_enter Tryz.func49, Tryz.ntmps49
    go_wp2_with (go_at_call 89; refine (HC.out _).mono ?_; rintro e w' ⟨rfl, rfl⟩)
    go_ret
    exact ⟨rfl, rfl⟩
  · rw [if_neg h]
    have hs := natS_size (n := n.toNat) (by omega)
    have e1 : IntKind.u64.wrap n = n := by simp [IntKind.wrap, IntKind.bits, IntKind.signed]; omega
    obtain ⟨S, hS⟩ : ∃ S, natS n.toNat = S := ⟨_, rfl⟩
    have HC := Lib.hid (fun W => natural_any (n.toNat + 1) n.toNat W (Nat.lt_succ_self _) (by omega))
    rw [Int.toNat_of_nonneg (by omega), hS] at HC
    rw [hS] at hs ⊢
    clear hS h0 h1
    go_enter Tryz.func49, Tryz.ntmps49
    go_wp2_with (go_at_call 89; refine (HC.out _).mono ?_; rintro e w' ⟨rfl, rfl⟩)
    go_ret
    exact ⟨rfl, rfl⟩
theorem decS_size {n : Int} (h0 : -9223372036854775808 ≤ n) (h1 : n ≤ 9223372036854775807) : (decS n).size ≤ 21 := by
  unfold decS
  split
  · have := natS_size (n := n.natAbs) (by omega)
    rw [ByteArray.size_append]
    have e : (⟨#[45]⟩ : ByteArray).size = 1 := rfl
    omega
  · have := natS_size (n := n.toNat) (by omega)
    omega
def sRegS (d : Int) : ByteArray := if d = 10 then ⟨#[114, 102, 112]⟩ else ⟨#[114]⟩ ++ decS d
set_option maxHeartbeats 4000000 in
set_option maxRecDepth 100000 in
theorem sReg_any (d : Int) (w : World) (d0 : 0 ≤ d) (d1 : d ≤ 10) : Calls Tryz.prog 50 #[.int .i64 d] w fun e w' => e = .returned (.string (sRegS d)) ∧ w = w' := by
  unfold sRegS
  by_cases h : d = 10
  · rw [if_pos h]
    subst h
    go_enter Tryz.func50, Tryz.ntmps50
    go_wp2_with fail
    go_ret
    exact ⟨rfl, rfl⟩
  · rw [if_neg h]
    have hs := decS_size (n := d) (by omega) (by omega)
    have HC := Lib.hid (fun W => Decimal_any d W (by omega) (by omega))
    obtain ⟨S, hS⟩ : ∃ S, decS d = S := ⟨_, rfl⟩
    rw [hS] at HC hs ⊢
    clear hS
    go_enter Tryz.func50, Tryz.ntmps50
    go_wp2_with (go_at_call 49; refine (HC.out _).mono ?_; rintro e w' ⟨rfl, rfl⟩)
    go_ret
    exact ⟨rfl, rfl⟩
/-! ## Tables -/
theorem pick_at {α : Type} {l : List α} {q : Int} {n : Nat} (h0 : 0 ≤ q) (h1 : q < n) (hl : l.length = n) (d : α) : l[q.toNat]? = some (l.getD q.toNat d) := by
  have : q.toNat < l.length := by omega
  simp [List.getD, List.getElem?_eq_getElem this]
def jwL : List ByteArray := [⟨#[74, 97]⟩, ⟨#[74, 69, 113]⟩, ⟨#[74, 71, 84]⟩, ⟨#[74, 71, 69]⟩, ⟨#[74, 83, 101, 116]⟩, ⟨#[74, 78, 69]⟩, ⟨#[74, 83, 71, 84]⟩, ⟨#[74, 83, 71, 69]⟩, ⟨#[67, 97, 108, 108]⟩, ⟨#[69, 120, 105, 116]⟩, ⟨#[74, 76, 84]⟩, ⟨#[74, 76, 69]⟩, ⟨#[74, 83, 76, 84]⟩, ⟨#[74, 83, 76, 69]⟩]
def opL : List ByteArray := [⟨#[65, 100, 100]⟩, ⟨#[83, 117, 98]⟩, ⟨#[77, 117, 108]⟩, ⟨#[68, 105, 118]⟩, ⟨#[79, 114]⟩, ⟨#[65, 110, 100]⟩, ⟨#[76, 83, 104]⟩, ⟨#[82, 83, 104]⟩, ⟨#[78, 101, 103]⟩, ⟨#[77, 111, 100]⟩, ⟨#[88, 111, 114]⟩, ⟨#[77, 111, 118]⟩, ⟨#[65, 114, 83, 104]⟩, ⟨#[83, 119, 97, 112]⟩]
def mdL : List ByteArray := [⟨#[73, 109, 109]⟩, ⟨#[65, 98, 115]⟩, ⟨#[73, 110, 100]⟩, ⟨#[77, 101, 109]⟩, ⟨#[77, 101, 109, 83, 88]⟩, ⟨#[]⟩, ⟨#[65, 116, 111, 109, 105, 99]⟩]
def clL : List ByteArray := [⟨#[76, 100]⟩, ⟨#[76, 100, 88]⟩, ⟨#[83, 116]⟩, ⟨#[83, 116, 88]⟩]
def smL : List ByteArray := [⟨#[87]⟩, ⟨#[72]⟩, ⟨#[66]⟩, ⟨#[68, 87]⟩]
def srL : List ByteArray := [⟨#[73, 109, 109]⟩, ⟨#[82, 101, 103]⟩]
def leL : List ByteArray := [⟨#[76, 69]⟩, ⟨#[66, 69]⟩]
def szL : List ByteArray := [⟨#[87, 111, 114, 100]⟩, ⟨#[72, 97, 108, 102]⟩, ⟨#[66, 121, 116, 101]⟩, ⟨#[68, 87, 111, 114, 100]⟩]
theorem look_get {l : List ByteArray} {q : Int} {n : Nat} (h0 : 0 ≤ q) (h1 : q < n) (hl : l.length = n) : ∀ h : q.toNat < (l.map Value.string).length, (l.map Value.string)[q.toNat]'h = .string (l.getD q.toNat ⟨#[]⟩) := fun h => by
  have : q.toNat < l.length := by omega
  simp [List.getD, List.getElem?_eq_getElem this]
theorem look_at {l : List ByteArray} {q : Int} {n : Nat} (h0 : 0 ≤ q) (h1 : q < n) (hl : l.length = n) : (l.map Value.string)[q.toNat]? = some (.string (l.getD q.toNat ⟨#[]⟩)) := by
  have : q.toNat < l.length := by omega
  simp [List.getD, List.getElem?_eq_getElem this]
theorem getD_size {l : List ByteArray} {n : Nat} (h : ∀ s ∈ l, s.size ≤ n) (k : Nat) : (l.getD k ⟨#[]⟩).size ≤ n := by
  by_cases hk : k < l.length
  · have e : l.getD k ⟨#[]⟩ = l[k] := by simp [List.getD, hk]
    rw [e]; exact h _ (List.getElem_mem hk)
  · have e : l.getD k ⟨#[]⟩ = ⟨#[]⟩ := by simp [List.getD, List.getElem?_eq_none (Nat.le_of_not_lt hk)]
    rw [e]; exact Nat.zero_le _
theorem mdL_size (k : Nat) : (mdL.getD k ⟨#[]⟩).size ≤ 20 := getD_size (by decide) k
theorem clL_size (k : Nat) : (clL.getD k ⟨#[]⟩).size ≤ 20 := getD_size (by decide) k
theorem smL_size (k : Nat) : (smL.getD k ⟨#[]⟩).size ≤ 20 := getD_size (by decide) k
theorem srL_size (k : Nat) : (srL.getD k ⟨#[]⟩).size ≤ 20 := getD_size (by decide) k
theorem leL_size (k : Nat) : (leL.getD k ⟨#[]⟩).size ≤ 20 := getD_size (by decide) k
theorem opL_size (k : Nat) : (opL.getD k ⟨#[]⟩).size ≤ 20 := getD_size (by decide) k
theorem jwL_size (k : Nat) : (jwL.getD k ⟨#[]⟩).size ≤ 20 := getD_size (by decide) k
def sJump (op : Int) : ByteArray := jwL.getD (bits .and .i64 (op / 16) 15).toNat ⟨#[]⟩
set_option maxHeartbeats 4000000 in
set_option maxRecDepth 100000 in
theorem sJump_any (op : Int) (w : World) (p0 : 0 ≤ op) (h : bits .and .i64 (op / 16) 15 < 14) (h0 : 0 ≤ bits .and .i64 (op / 16) 15) : Calls Tryz.prog 45 #[.int .i64 op] w fun e w' => e = .returned (.string (sJump op)) ∧ Below w.heap.size w w' := by
  unfold sJump
  obtain ⟨q, hq⟩ : ∃ q, bits .and .i64 (op / 16) 15 = q := ⟨_, rfl⟩
  rw [hq] at h h0 ⊢
  have hl := look_get (l := jwL) (n := 14) h0 h rfl
  obtain ⟨S, hS⟩ : ∃ S, jwL.getD q.toNat ⟨#[]⟩ = S := ⟨_, rfl⟩
  rw [hS] at hl ⊢
  simp only [jwL, List.map_cons, List.map_nil] at hl
  go_enter Tryz.func45, Tryz.ntmps45
  go_wp2_with fail
  go_ret
  exact ⟨rfl, (Below.refl _ _).alloc (Nat.le_refl _) _⟩
def sOpW (op : Int) : ByteArray := opL.getD (bits .and .i64 (op / 16) 15).toNat ⟨#[]⟩
def sOper (op : Int) : ByteArray := if op / 256 = 1 then (if bits .and .i64 op 240 = 48 then ⟨#[83, 68, 105, 118]⟩ else if bits .and .i64 op 240 = 144 then ⟨#[83, 77, 111, 100]⟩ else ⟨#[77, 111, 118, 83, 88, 56]⟩) else if op / 256 = 2 then ⟨#[77, 111, 118, 83, 88, 49, 54]⟩ else if op / 256 = 3 then ⟨#[77, 111, 118, 83, 88, 51, 50]⟩ else sOpW op
set_option maxHeartbeats 4000000 in
set_option maxRecDepth 100000 in
theorem sOper_any (op k m q : Int) (w : World) (p0 : 0 ≤ op) (hk : op / 256 = k) (hm : bits .and .i64 op 240 = m) (hq : bits .and .i64 (op / 16) 15 = q) (h : (k = 1 ∧ (m = 48 ∨ m = 144 ∨ m = 176)) ∨ k = 2 ∨ k = 3 ∨ (k = 0 ∧ 0 ≤ q ∧ q < 14)) :
    Calls Tryz.prog 44 #[.int .i64 op] w fun e w' => e = .returned (.string (sOper op)) ∧ Below w.heap.size w w' := by
  unfold sOper sOpW
  rw [hk, hm, hq]
  rcases h with ⟨rfl, rfl | rfl | rfl⟩ | rfl | rfl | ⟨rfl, h0, h1⟩
  iterate 5
    · go_enter Tryz.func44, Tryz.ntmps44
      go_wp2_with fail
      go_ret
      exact ⟨rfl, Below.refl _ _⟩
  · rw [if_neg (by decide), if_neg (by decide), if_neg (by decide)]
    have hl := look_get (l := opL) (n := 14) h0 h1 rfl
    obtain ⟨S, hS⟩ : ∃ S, opL.getD q.toNat ⟨#[]⟩ = S := ⟨_, rfl⟩
    rw [hS] at hl ⊢
    simp only [opL, List.map_cons, List.map_nil] at hl
    go_enter Tryz.func44, Tryz.ntmps44
    go_wp2_with fail
    go_ret
    exact ⟨rfl, (Below.refl _ _).alloc (Nat.le_refl _) _⟩
def sAtomW (k : Int) : ByteArray := if k = 0 then ⟨#[65, 100, 100]⟩ else if k = 1 then ⟨#[70, 101, 116, 99, 104, 65, 100, 100]⟩ else if k = 64 then ⟨#[79, 114]⟩ else if k = 65 then ⟨#[70, 101, 116, 99, 104, 79, 114]⟩ else if k = 80 then ⟨#[65, 110, 100]⟩ else if k = 81 then ⟨#[70, 101, 116, 99, 104, 65, 110, 100]⟩ else if k = 160 then ⟨#[88, 111, 114]⟩ else if k = 161 then ⟨#[70, 101, 116, 99, 104, 88, 111, 114]⟩ else
  if k = 225 then ⟨#[88, 99, 104, 103]⟩ else if k = 241 then ⟨#[67, 109, 112, 88, 99, 104, 103]⟩ else if k = 256 then ⟨#[76, 100, 65, 99, 113]⟩ else ⟨#[83, 116, 82, 101, 108]⟩
def sAtomKeys : List Int := [0, 1, 64, 65, 80, 81, 160, 161, 225, 241, 256, 272]
set_option maxHeartbeats 4000000 in
set_option maxRecDepth 100000 in
theorem sAtomW_any (k : Int) (w : World) (h : k ∈ sAtomKeys) : Calls Tryz.prog 43 #[.int .i64 k] w fun e w' => e = .returned (.string (sAtomW k)) ∧ w = w' := by
  simp only [sAtomKeys, List.mem_cons, List.not_mem_nil, or_false] at h
  rcases h with rfl | rfl | rfl | rfl | rfl | rfl | rfl | rfl | rfl | rfl | rfl | rfl
  · have b1 : bits .and .i64 0 1 = 0 := by decide +kernel
    have b2 : bits .and .i64 0 240 = 0 := by decide +kernel
    go_enter Tryz.func43, Tryz.ntmps43
    go_wp2_with fail
    go_ret
    exact ⟨rfl, rfl⟩
  · have b1 : bits .and .i64 1 1 = 1 := by decide +kernel
    have b2 : bits .and .i64 1 240 = 0 := by decide +kernel
    go_enter Tryz.func43, Tryz.ntmps43
    go_wp2_with fail
    go_ret
    exact ⟨rfl, rfl⟩
  · have b1 : bits .and .i64 64 1 = 0 := by decide +kernel
    have b2 : bits .and .i64 64 240 = 64 := by decide +kernel
    go_enter Tryz.func43, Tryz.ntmps43
    go_wp2_with fail
    go_ret
    exact ⟨rfl, rfl⟩
  · have b1 : bits .and .i64 65 1 = 1 := by decide +kernel
    have b2 : bits .and .i64 65 240 = 64 := by decide +kernel
    go_enter Tryz.func43, Tryz.ntmps43
    go_wp2_with fail
    go_ret
    exact ⟨rfl, rfl⟩
  · have b1 : bits .and .i64 80 1 = 0 := by decide +kernel
    have b2 : bits .and .i64 80 240 = 80 := by decide +kernel
    go_enter Tryz.func43, Tryz.ntmps43
    go_wp2_with fail
    go_ret
    exact ⟨rfl, rfl⟩
  · have b1 : bits .and .i64 81 1 = 1 := by decide +kernel
    have b2 : bits .and .i64 81 240 = 80 := by decide +kernel
    go_enter Tryz.func43, Tryz.ntmps43
    go_wp2_with fail
    go_ret
    exact ⟨rfl, rfl⟩
  · have b1 : bits .and .i64 160 1 = 0 := by decide +kernel
    have b2 : bits .and .i64 160 240 = 160 := by decide +kernel
    go_enter Tryz.func43, Tryz.ntmps43
    go_wp2_with fail
    go_ret
    exact ⟨rfl, rfl⟩
  · have b1 : bits .and .i64 161 1 = 1 := by decide +kernel
    have b2 : bits .and .i64 161 240 = 160 := by decide +kernel
    go_enter Tryz.func43, Tryz.ntmps43
    go_wp2_with fail
    go_ret
    exact ⟨rfl, rfl⟩
  · have b1 : bits .and .i64 225 1 = 1 := by decide +kernel
    have b2 : bits .and .i64 225 240 = 224 := by decide +kernel
    go_enter Tryz.func43, Tryz.ntmps43
    go_wp2_with fail
    go_ret
    exact ⟨rfl, rfl⟩
  · have b1 : bits .and .i64 241 1 = 1 := by decide +kernel
    have b2 : bits .and .i64 241 240 = 240 := by decide +kernel
    go_enter Tryz.func43, Tryz.ntmps43
    go_wp2_with fail
    go_ret
    exact ⟨rfl, rfl⟩
  · have b1 : bits .and .i64 256 1 = 0 := by decide +kernel
    have b2 : bits .and .i64 256 240 = 0 := by decide +kernel
    go_enter Tryz.func43, Tryz.ntmps43
    go_wp2_with fail
    go_ret
    exact ⟨rfl, rfl⟩
  · have b1 : bits .and .i64 272 1 = 0 := by decide +kernel
    have b2 : bits .and .i64 272 240 = 16 := by decide +kernel
    go_enter Tryz.func43, Tryz.ntmps43
    go_wp2_with fail
    go_ret
    exact ⟨rfl, rfl⟩
set_option maxHeartbeats 4000000 in
set_option maxRecDepth 100000 in
theorem sClass_any (op : Int) (w : World) : Calls Tryz.prog 42 #[.int .i64 op] w fun e w' => e = .returned (.int .i64 (bits .and .i64 op 7)) ∧ w = w' := by
  go_enter Tryz.func42, Tryz.ntmps42
  go_wp2_with fail
  go_ret
  exact ⟨rfl, rfl⟩
end Go.Proofs.YtobgjmgepckijaaGreatDoor
