/- spec.put, spec.offsetOf, spec.IsALU, walked: a number written in so many bytes, in an order. -/
import Derived.Test.YtobgjmgepckijaaGreatDoorSink
import Derived.Test.YtobgjmgepckijaaGreatDoorCode
import Derived.Deep.AppendLies
import Derived.Outline
namespace Go.Proofs.YtobgjmgepckijaaGreatDoor
open Go.RowKit
set_option linter.unusedVariables false
set_option linter.unusedSimpArgs false
def putAt (big : Bool) (n : Nat) (x : Int) (i : Nat) : Int := byteAt (if big then n - 1 - i else i) x
def putK (big : Bool) (n : Nat) (x : Int) (k : Nat) : List Int := (List.range k).map (putAt big n x)
theorem putK_succ (big : Bool) (n : Nat) (x : Int) (k : Nat) : putK big n x (k + 1) = putK big n x k ++ [putAt big n x k] := by
  simp [putK, List.range_succ]
theorem putK_len (big : Bool) (n : Nat) (x : Int) (k : Nat) : (putK big n x k).length = k := by simp [putK]
theorem byteRow_snoc (bs : List Int) (b : Int) : byteRow bs ++ [.int .u8 b] = byteRow (bs ++ [b]) := by simp [byteRow]
def PutPost (w : World) (base m n : Nat) (bs cs : List Int) (e : Ending) (w' : World) : Prop :=
  ∃ v, e = .returned v ∧ w'.ownsRow base 5 1 v (m + n) (byteRow (bs ++ cs)) ∧ Below base w w'
theorem put_row {w : World} {base m k : Nat} {v : Value} {bs : List Int} {big : Bool} {n : Nat} {x y : Int} (hy : y = putAt big n x k)
    (h : w.ownsRow base 5 1 v (m + k + 1) (byteRow (bs ++ putK big n x k) ++ [.int .u8 y])) : w.ownsRow base 5 1 v (m + (k + 1)) (byteRow (bs ++ putK big n x (k + 1))) := by
  rw [putK_succ, ← List.append_assoc, ← hy, ← byteRow_snoc]; exact h
theorem byte_pow (j : Nat) (x : Int) : byteAt j x = x / 2 ^ (8 * j) % 256 := by
  unfold byteAt
  rw [Int.pow_mul]; rfl
theorem put_at (big : Bool) (n : Nat) (x : Int) (k : Nat) : x / 2 ^ (8 * (if big then n - 1 - k else k)) % 256 = putAt big n x k := (byte_pow _ x).symm
set_option maxHeartbeats 4000000 in
set_option maxRecDepth 100000 in
theorem put_2_true (x : Int) (base m : Nat) (v : Value) (bs : List Int) (w : World) (x0 : 0 ≤ x) (x1 : x < 4294967296) (hm : m ≤ 9000) (hb : base ≤ w.heap.size) (hown0 : w.ownsRow base 5 1 v m (byteRow bs)) :
    Calls Tryz.prog 56 #[v, .int .u64 x, .int .i64 2, .bool true] w (PutPost w base m 2 bs (putK true 2 x 2)) := by
  obtain ⟨i0, hi, hz0, hz1, hz2⟩ := info_parts infoByte
  have hl1 : (m : Int) ≤ 9000 := by omega
  go_enter Tryz.func56, Tryz.ntmps56
  go_wp2_with fail
  go_loopw [0, 12] (fun o i wr => ∃ k : Nat, k ≤ 2 ∧ i = .int .i64 k ∧ wr.ownsRow base 5 1 o (m + k) (byteRow (bs ++ putK true 2 x k)) ∧ Below base w wr) (fun _ i _ => 2 - (intOf i).toNat)
  case atStart => exact ⟨0, by omega, rfl, by simpa [putK] using hown0, Below.refl _ _⟩
  case round =>
    obtain ⟨k, hk, rfl, hown, hbr⟩ := hrel
    have hzr : base ≤ wr.heap.size := Nat.le_trans hb hbr.size
    obtain ⟨A, cp, rfl, hcp, hcm⟩ := own_form hown
    by_cases hlt : k < 2
    · have hlt' : (k : Int) < 2 := by omega
      have hy := put_at true 2 x k
      have HY := Lib.hid hy
      clear hy
      go_wp2_with (
        at_builtin
        go_loud (refine wpList_append_lies _ rfl _ _ 28 rfl base 5 i0 _ 1 1 Tryz.underlying28 hi hz0 hz1 hz2 rfl (by omega) _ (m + k) _ rfl (hown.alloc _) ⟨wr.heap.size, 0, none⟩ 1 1 [.int .u8 (x / 2 ^ (8 * (1 - k)) % 256)] rfl rfl (World.news_of_block (heap_at rfl)) (by simp [Value.oneCell']) (by omega) (by simp [maxLen]; omega) (by omega) (by simp; omega) _ rfl ?_)
        intro g2 gc w2 hown2 hgrow _ _)
      have hbr2 := below_append (hbr.alloc hzr _) (hown.alloc _) (Nat.le_refl _) (by simp; omega) hgrow
      go_roundw
      case rel => exact ⟨k + 1, by omega, by go_num, put_row HY.out hown2, hbr2⟩
      case measure => simp [intOf]; omega
    · obtain rfl : k = 2 := by omega
      go_wp2_with fail
      go_ret
      exact ⟨_, rfl, hown, hbr⟩
set_option maxHeartbeats 4000000 in
set_option maxRecDepth 100000 in
theorem put_2_false (x : Int) (base m : Nat) (v : Value) (bs : List Int) (w : World) (x0 : 0 ≤ x) (x1 : x < 4294967296) (hm : m ≤ 9000) (hb : base ≤ w.heap.size) (hown0 : w.ownsRow base 5 1 v m (byteRow bs)) :
    Calls Tryz.prog 56 #[v, .int .u64 x, .int .i64 2, .bool false] w (PutPost w base m 2 bs (putK false 2 x 2)) := by
  obtain ⟨i0, hi, hz0, hz1, hz2⟩ := info_parts infoByte
  have hl1 : (m : Int) ≤ 9000 := by omega
  go_enter Tryz.func56, Tryz.ntmps56
  go_wp2_with fail
  go_loopw [0, 12] (fun o i wr => ∃ k : Nat, k ≤ 2 ∧ i = .int .i64 k ∧ wr.ownsRow base 5 1 o (m + k) (byteRow (bs ++ putK false 2 x k)) ∧ Below base w wr) (fun _ i _ => 2 - (intOf i).toNat)
  case atStart => exact ⟨0, by omega, rfl, by simpa [putK] using hown0, Below.refl _ _⟩
  case round =>
    obtain ⟨k, hk, rfl, hown, hbr⟩ := hrel
    have hzr : base ≤ wr.heap.size := Nat.le_trans hb hbr.size
    obtain ⟨A, cp, rfl, hcp, hcm⟩ := own_form hown
    by_cases hlt : k < 2
    · have hlt' : (k : Int) < 2 := by omega
      have hy := put_at false 2 x k
      have HY := Lib.hid hy
      clear hy
      go_wp2_with (
        at_builtin
        go_loud (refine wpList_append_lies _ rfl _ _ 28 rfl base 5 i0 _ 1 1 Tryz.underlying28 hi hz0 hz1 hz2 rfl (by omega) _ (m + k) _ rfl (hown.alloc _) ⟨wr.heap.size, 0, none⟩ 1 1 [.int .u8 (x / 2 ^ (8 * k) % 256)] rfl rfl (World.news_of_block (heap_at rfl)) (by simp [Value.oneCell']) (by omega) (by simp [maxLen]; omega) (by omega) (by simp; omega) _ rfl ?_)
        intro g2 gc w2 hown2 hgrow _ _)
      have hbr2 := below_append (hbr.alloc hzr _) (hown.alloc _) (Nat.le_refl _) (by simp; omega) hgrow
      go_roundw
      case rel => exact ⟨k + 1, by omega, by go_num, put_row HY.out hown2, hbr2⟩
      case measure => simp [intOf]; omega
    · obtain rfl : k = 2 := by omega
      go_wp2_with fail
      go_ret
      exact ⟨_, rfl, hown, hbr⟩
set_option maxHeartbeats 4000000 in
set_option maxRecDepth 100000 in
theorem put_4_true (x : Int) (base m : Nat) (v : Value) (bs : List Int) (w : World) (x0 : 0 ≤ x) (x1 : x < 4294967296) (hm : m ≤ 9000) (hb : base ≤ w.heap.size) (hown0 : w.ownsRow base 5 1 v m (byteRow bs)) :
    Calls Tryz.prog 56 #[v, .int .u64 x, .int .i64 4, .bool true] w (PutPost w base m 4 bs (putK true 4 x 4)) := by
  obtain ⟨i0, hi, hz0, hz1, hz2⟩ := info_parts infoByte
  have hl1 : (m : Int) ≤ 9000 := by omega
  go_enter Tryz.func56, Tryz.ntmps56
  go_wp2_with fail
  go_loopw [0, 12] (fun o i wr => ∃ k : Nat, k ≤ 4 ∧ i = .int .i64 k ∧ wr.ownsRow base 5 1 o (m + k) (byteRow (bs ++ putK true 4 x k)) ∧ Below base w wr) (fun _ i _ => 4 - (intOf i).toNat)
  case atStart => exact ⟨0, by omega, rfl, by simpa [putK] using hown0, Below.refl _ _⟩
  case round =>
    obtain ⟨k, hk, rfl, hown, hbr⟩ := hrel
    have hzr : base ≤ wr.heap.size := Nat.le_trans hb hbr.size
    obtain ⟨A, cp, rfl, hcp, hcm⟩ := own_form hown
    by_cases hlt : k < 4
    · have hlt' : (k : Int) < 4 := by omega
      have hy := put_at true 4 x k
      have HY := Lib.hid hy
      clear hy
      go_wp2_with (
        at_builtin
        go_loud (refine wpList_append_lies _ rfl _ _ 28 rfl base 5 i0 _ 1 1 Tryz.underlying28 hi hz0 hz1 hz2 rfl (by omega) _ (m + k) _ rfl (hown.alloc _) ⟨wr.heap.size, 0, none⟩ 1 1 [.int .u8 (x / 2 ^ (8 * (3 - k)) % 256)] rfl rfl (World.news_of_block (heap_at rfl)) (by simp [Value.oneCell']) (by omega) (by simp [maxLen]; omega) (by omega) (by simp; omega) _ rfl ?_)
        intro g2 gc w2 hown2 hgrow _ _)
      have hbr2 := below_append (hbr.alloc hzr _) (hown.alloc _) (Nat.le_refl _) (by simp; omega) hgrow
      go_roundw
      case rel => exact ⟨k + 1, by omega, by go_num, put_row HY.out hown2, hbr2⟩
      case measure => simp [intOf]; omega
    · obtain rfl : k = 4 := by omega
      go_wp2_with fail
      go_ret
      exact ⟨_, rfl, hown, hbr⟩
set_option maxHeartbeats 4000000 in
set_option maxRecDepth 100000 in
theorem put_4_false (x : Int) (base m : Nat) (v : Value) (bs : List Int) (w : World) (x0 : 0 ≤ x) (x1 : x < 4294967296) (hm : m ≤ 9000) (hb : base ≤ w.heap.size) (hown0 : w.ownsRow base 5 1 v m (byteRow bs)) :
    Calls Tryz.prog 56 #[v, .int .u64 x, .int .i64 4, .bool false] w (PutPost w base m 4 bs (putK false 4 x 4)) := by
  obtain ⟨i0, hi, hz0, hz1, hz2⟩ := info_parts infoByte
  have hl1 : (m : Int) ≤ 9000 := by omega
  go_enter Tryz.func56, Tryz.ntmps56
  go_wp2_with fail
  go_loopw [0, 12] (fun o i wr => ∃ k : Nat, k ≤ 4 ∧ i = .int .i64 k ∧ wr.ownsRow base 5 1 o (m + k) (byteRow (bs ++ putK false 4 x k)) ∧ Below base w wr) (fun _ i _ => 4 - (intOf i).toNat)
  case atStart => exact ⟨0, by omega, rfl, by simpa [putK] using hown0, Below.refl _ _⟩
  case round =>
    obtain ⟨k, hk, rfl, hown, hbr⟩ := hrel
    have hzr : base ≤ wr.heap.size := Nat.le_trans hb hbr.size
    obtain ⟨A, cp, rfl, hcp, hcm⟩ := own_form hown
    by_cases hlt : k < 4
    · have hlt' : (k : Int) < 4 := by omega
      have hy := put_at false 4 x k
      have HY := Lib.hid hy
      clear hy
      go_wp2_with (
        at_builtin
        go_loud (refine wpList_append_lies _ rfl _ _ 28 rfl base 5 i0 _ 1 1 Tryz.underlying28 hi hz0 hz1 hz2 rfl (by omega) _ (m + k) _ rfl (hown.alloc _) ⟨wr.heap.size, 0, none⟩ 1 1 [.int .u8 (x / 2 ^ (8 * k) % 256)] rfl rfl (World.news_of_block (heap_at rfl)) (by simp [Value.oneCell']) (by omega) (by simp [maxLen]; omega) (by omega) (by simp; omega) _ rfl ?_)
        intro g2 gc w2 hown2 hgrow _ _)
      have hbr2 := below_append (hbr.alloc hzr _) (hown.alloc _) (Nat.le_refl _) (by simp; omega) hgrow
      go_roundw
      case rel => exact ⟨k + 1, by omega, by go_num, put_row HY.out hown2, hbr2⟩
      case measure => simp [intOf]; omega
    · obtain rfl : k = 4 := by omega
      go_wp2_with fail
      go_ret
      exact ⟨_, rfl, hown, hbr⟩
theorem put_any (big : Bool) (n : Nat) (hn : n = 2 ∨ n = 4) (x : Int) (base m : Nat) (v : Value) (bs : List Int) (w : World) (x0 : 0 ≤ x) (x1 : x < 4294967296) (hm : m ≤ 9000) (hb : base ≤ w.heap.size) (hown0 : w.ownsRow base 5 1 v m (byteRow bs)) :
    Calls Tryz.prog 56 #[v, .int .u64 x, .int .i64 n, .bool big] w (PutPost w base m n bs (putK big n x n)) := by
  rcases hn with rfl | rfl <;> cases big
  · exact put_2_false x base m v bs w x0 x1 hm hb hown0
  · exact put_2_true x base m v bs w x0 x1 hm hb hown0
  · exact put_4_false x base m v bs w x0 x1 hm hb hown0
  · exact put_4_true x base m v bs w x0 x1 hm hb hown0
def sIsALU (a : Int) : Bool := bits .and .i64 a 7 == 4 || bits .and .i64 a 7 == 7
def sOff (a : Int) : Int := if a / 256 = 1 then (if bits .and .i64 a 240 = 176 then 8 else 1) else if a / 256 = 2 then 16 else if a / 256 = 3 then 32 else 0
set_option maxHeartbeats 4000000 in
set_option maxRecDepth 100000 in
theorem sIsALU_any (a : Int) (w : World) : Calls Tryz.prog 52 #[.int .i64 a] w fun e w' => e = .returned (.bool (sIsALU a)) ∧ w = w' := by
  unfold sIsALU
  cases h1 : (bits .and .i64 a 7 == 4) <;> cases h2 : (bits .and .i64 a 7 == 7)
  all_goals
    go_enter Tryz.func52, Tryz.ntmps52
    go_wp2
    go_ret
    exact ⟨rfl, rfl⟩
set_option maxHeartbeats 4000000 in
set_option maxRecDepth 100000 in
theorem sOff_any (a : Int) (w : World) (a0 : 0 ≤ a) (a1 : a < 131072) : Calls Tryz.prog 55 #[.int .i64 a] w fun e w' => e = .returned (.int .i64 (sOff a)) ∧ w = w' := by
  unfold sOff
  by_cases h1 : a / 256 = 1
  · rw [if_pos h1]
    cases h2 : (bits .and .i64 a 240 == 176)
    · rw [if_neg (by simpa using h2)]
      go_enter Tryz.func55, Tryz.ntmps55
      go_wp2
      go_ret
      exact ⟨rfl, rfl⟩
    · rw [if_pos (by simpa using h2)]
      go_enter Tryz.func55, Tryz.ntmps55
      go_wp2
      go_ret
      exact ⟨rfl, rfl⟩
  rw [if_neg h1]
  by_cases h2 : a / 256 = 2
  · rw [if_pos h2]
    go_enter Tryz.func55, Tryz.ntmps55
    go_wp2
    go_ret
    exact ⟨rfl, rfl⟩
  rw [if_neg h2]
  by_cases h3 : a / 256 = 3
  · rw [if_pos h3]
    go_enter Tryz.func55, Tryz.ntmps55
    go_wp2
    go_ret
    exact ⟨rfl, rfl⟩
  rw [if_neg h3]
  go_enter Tryz.func55, Tryz.ntmps55
  go_wp2
  go_ret
  exact ⟨rfl, rfl⟩
end Go.Proofs.YtobgjmgepckijaaGreatDoor
