/- impl's source, read by io.ReadFull: eight bytes, or the end. -/
import Derived.Test.YtobgjmgepckijaaGreatDoorBytes
import Derived.Test.YtobgjmgepckijaaGreatDoorEof
import Derived.Test.YtobgjmgepckijaaGreatDoorBelow
import Derived.Laws.CopyRow
import Derived.OwnWalk
import Derived.BigQuiet
import Derived.Deep.QuietTactic
import Derived.Deep.RegionWith
import Derived.StillTailTactics
import Derived.Outline
namespace Go.Proofs.YtobgjmgepckijaaGreatDoor
open Go.RowKit
set_option linter.unusedVariables false
set_option linter.unusedSimpArgs false
/-- the source at a block: which bytes are left; they lie below it -/
def SrcAt (w : World) (so : Nat) (bs : List Int) : Prop :=
  ∃ A c, w.heap[so]? = some (.cells #[.slice A bs.length c] 68 (0, 0)) ∧ bs.length ≤ c ∧ c ≤ maxLen ∧ ∀ j b, bs[j]? = some b → ∃ g o, A = some ⟨g, o, none⟩ ∧ g < so ∧ w.cell? ⟨g, o + j, none⟩ = some (.int .u8 b)
theorem SrcAt.kept {w w' : World} {so : Nat} {bs : List Int} (h : SrcAt w so bs) (hb : Below so w w') (hs : w'.heap[so]? = w.heap[so]?) : SrcAt w' so bs := by
  obtain ⟨A, c, h1, h2, h3, h4⟩ := h
  refine ⟨A, c, hs.trans h1, h2, h3, fun j b hj => ?_⟩
  obtain ⟨g, o, e, hg, hc⟩ := h4 j b hj
  exact ⟨g, o, e, hg, (hb.cell (p := ⟨g, o + j, none⟩) hg).trans hc⟩
def ReadPost (w : World) (so D : Nat) (b0 b1 b2 b3 b4 b5 b6 b7 : Int) (rest : List Int) (e : Ending) (w' : World) : Prop :=
  e = .returned (.tuple #[.int .i64 8, .nilIface]) ∧ SrcAt w' so rest ∧ Eight w' D b0 b1 b2 b3 b4 b5 b6 b7 ∧ (∀ k, k < w.heap.size → k ≠ so → k ≠ D → w'.heap[k]? = w.heap[k]?) ∧ Below so w w'
set_option maxHeartbeats 4000000 in
set_option maxRecDepth 100000 in
theorem Read_some (so D : Nat) (b0 b1 b2 b3 b4 b5 b6 b7 z0 z1 z2 z3 z4 z5 z6 z7 : Int) (rest : List Int) (w : World) (hs : SrcAt w so (b0 :: b1 :: b2 :: b3 :: b4 :: b5 :: b6 :: b7 :: rest)) (hD : Eight w D z0 z1 z2 z3 z4 z5 z6 z7) (hso : so < D) :
    Calls Tryz.prog 162 #[.pointer (some ⟨so, 0, none⟩), .slice (some ⟨D, 0, none⟩) 8 8] w (ReadPost w so D b0 b1 b2 b3 b4 b5 b6 b7 rest) := by
  obtain ⟨A, c, hk, hc1, hc2, hb⟩ := hs
  obtain ⟨g, o, rfl, hg, _⟩ := hb 0 b0 rfl
  obtain ⟨n, hn⟩ : ∃ n, (b0 :: b1 :: b2 :: b3 :: b4 :: b5 :: b6 :: b7 :: rest).length = n := ⟨_, rfl⟩
  have hn8 : rest.length + 8 = n := by rw [← hn]; simp
  rw [hn] at hk hc1
  have h8 : (8 : Int) ≤ n := by omega
  have hnc : (n : Int) ≤ c := by omega
  have hn0 : ((n : Int) == 0) = false := by simp; omega
  have c0 : w.cell? ⟨so, 0, none⟩ = some (.slice (some ⟨g, o, none⟩) n c) := cell_of_row _ _ 0 _ _ _ hk
  have f0 := frozen_of_row _ _ 0 _ _ hk
  have hlt := heap_lt hk
  have HK := Lib.hid hk
  have HD := Lib.hid hD
  have HB := Lib.hid hb
  have HN := Lib.hid hn
  clear hk hD hb hn
  unfold maxLen at hc2
  have hcp : ∀ j v, ([.int .u8 b0, .int .u8 b1, .int .u8 b2, .int .u8 b3, .int .u8 b4, .int .u8 b5, .int .u8 b6, .int .u8 b7] : List Value)[j]? = some v → w.cell? ((⟨g, o, none⟩ : Addr).add j) = some v := by
    intro j v hj
    have key : ∀ k b, k < 8 → (b0 :: b1 :: b2 :: b3 :: b4 :: b5 :: b6 :: b7 :: rest)[k]? = some b → w.cell? ((⟨g, o, none⟩ : Addr).add k) = some (.int .u8 b) := fun k b _ hk => by
      obtain ⟨g', o', e, _, hc⟩ := HB.out k b hk
      obtain ⟨rfl, rfl⟩ : g = g' ∧ o = o' := by simpa using e
      rw [show (⟨g, o, none⟩ : Addr).add k = ⟨g, o + k, none⟩ by unfold Addr.add; split <;> simp_all]
      exact hc
    rcases j with _ | _ | _ | _ | _ | _ | _ | _ | j <;> simp at hj <;> subst hj
    · exact key 0 _ (by omega) rfl
    · exact key 1 _ (by omega) rfl
    · exact key 2 _ (by omega) rfl
    · exact key 3 _ (by omega) rfl
    · exact key 4 _ (by omega) rfl
    · exact key 5 _ (by omega) rfl
    · exact key 6 _ (by omega) rfl
    · exact key 7 _ (by omega) rfl
  have hmin : 8 = Nat.min n 8 := (Nat.min_eq_right (by omega)).symm
  have hrun := run_copy_row (P := Tryz.prog) w 28 28 3 5 D 0 8 8 ⟨g, o, none⟩ n c _ 5 [.int .u8 b0, .int .u8 b1, .int .u8 b2, .int .u8 b3, .int .u8 b4, .int .u8 b5, .int .u8 b6, .int .u8 b7] Tryz.underlying28 (by kernel_rfl) HD.out hmin hcp (by simp) (by simp [Value.oneCell'])
  obtain ⟨w1, h1, hE1, hso1, hoth, hB1⟩ : ∃ w1, Sem.run Tryz.prog (Builtin.copy_ #[28, 28] 3 #[.slice (some ⟨D, 0, none⟩) 8 8, .slice (some ⟨g, o, none⟩) n c]) w = .ok (.int .i64 8) w1 ∧ Eight w1 D b0 b1 b2 b3 b4 b5 b6 b7 ∧
      w1.heap[so]? = w.heap[so]? ∧ (∀ k, k ≠ D → w1.heap[k]? = w.heap[k]?) ∧ Below so w w1 :=
    ⟨_, hrun, setRow_heap w D _ _ _ _ HD.out, setRow_other w D so _ (by omega), fun k hk => setRow_other w D k _ hk, below_setRow (Below.refl so w) (by omega) _⟩
  rw [HK.out] at hso1
  have d0 : w1.cell? ⟨so, 0, none⟩ = some (.slice (some ⟨g, o, none⟩) n c) := cell_of_row _ _ 0 _ _ _ hso1
  have e0 := frozen_of_row _ _ 0 _ _ hso1
  clear hrun hcp hmin
  have H1 := Lib.hid hso1
  clear hso1
  by_cases hc8 : c = 8
  · subst hc8
    obtain rfl : n = 8 := by omega
    obtain rfl : rest = [] := List.length_eq_zero_iff.1 (by omega)
    go_enter Tryz.func162, Tryz.ntmps162
    go_wp2
    go_ret2
    refine ⟨rfl, ⟨some ⟨g, o, none⟩, 0, heap_setCell_same w1 so 0 _ _ _ H1.out, by simp, by simp, fun j b hj => by simp at hj⟩, ?_, ?_, ?_⟩
    · exact (heap_setCell_other w1 ⟨so, 0, none⟩ D _ (by simp; omega)).trans hE1
    · exact fun k _ hks hkD => (heap_setCell_other w1 ⟨so, 0, none⟩ k _ (by simpa using hks)).trans (hoth k hkD)
    · exact hB1.setCell (p := ⟨so, 0, none⟩) (Nat.le_refl _) _
  · have hc9 : (8 : Int) < c := by omega
    go_enter Tryz.func162, Tryz.ntmps162
    go_wp2
    go_ret2
    refine ⟨rfl, ⟨some ⟨g, o + 8, none⟩, c - 8, ?_, by omega, by unfold maxLen; omega, fun j b hj => ?_⟩, ?_, ?_, ?_⟩
    · rw [show rest.length = n - 8 by omega]
      exact heap_setCell_same w1 so 0 _ _ _ H1.out
    · obtain ⟨g', o', e, hg', hc⟩ := HB.out (j + 8) b (by simpa using hj)
      obtain ⟨rfl, rfl⟩ : g = g' ∧ o = o' := by simpa using e
      refine ⟨g, o + 8, rfl, hg', ?_⟩
      rw [((hB1.setCell (p := ⟨so, 0, none⟩) (Nat.le_refl _) _).cell (p := ⟨g, o + 8 + j, none⟩) hg'), show o + 8 + j = o + (j + 8) by omega]
      exact hc
    · exact (heap_setCell_other w1 ⟨so, 0, none⟩ D _ (by simp; omega)).trans hE1
    · exact fun k _ hks hkD => (heap_setCell_other w1 ⟨so, 0, none⟩ k _ (by simpa using hks)).trans (hoth k hkD)
    · exact hB1.setCell (p := ⟨so, 0, none⟩) (Nat.le_refl _) _
/-- io.EOF, where the program holds it -/
def EofAt (w : World) (a : Addr) : Prop := w.cell? ⟨2, 0, none⟩ = some (.iface 180 (.pointer (some a)))
set_option maxHeartbeats 4000000 in
set_option maxRecDepth 100000 in
theorem Read_eof (so : Nat) (v : Value) (a : Addr) (w : World) (hs : SrcAt w so []) (ha : EofAt w a) (hv : ∃ D, v = .slice (some ⟨D, 0, none⟩) 8 8) :
    Calls Tryz.prog 162 #[.pointer (some ⟨so, 0, none⟩), v] w fun e w' => e = .returned (.tuple #[.int .i64 0, .iface 180 (.pointer (some a))]) ∧ ∃ n, w' = w.drewN n := by
  obtain ⟨D, rfl⟩ := hv
  obtain ⟨A, c, hk, hc1, hc2, hb⟩ := hs
  have c0 : w.cell? ⟨so, 0, none⟩ = some (.slice A 0 c) := cell_of_row _ _ 0 _ _ _ hk
  have hz : w.cell? ⟨2, 0, none⟩ = some (.iface 180 (.pointer (some a))) := ha
  clear hk hb ha
  go_enter Tryz.func162, Tryz.ntmps162
  go_wp2_with fail
  go_quiet (fail)
  go_wp2_with fail
  go_ret2
  exact ⟨rfl, _, rfl⟩
theorem na_Read (a : Addr) (w : World) : Sem.run Tryz.prog (nilAhead 348 67 (.pointer (some a)) "Read") w = .ok (some false) w := by kernel_rfl
theorem me_Read (a : Addr) (w : World) : Sem.run Tryz.prog (method 348 67 (.pointer (some a)) "Read") w = .ok (162, .pointer (some a)) w := by kernel_rfl
set_option maxHeartbeats 4000000 in
set_option maxRecDepth 100000 in
theorem RAL_some (so D : Nat) (b0 b1 b2 b3 b4 b5 b6 b7 z0 z1 z2 z3 z4 z5 z6 z7 : Int) (rest : List Int) (w : World) (hs : SrcAt w so (b0 :: b1 :: b2 :: b3 :: b4 :: b5 :: b6 :: b7 :: rest)) (hD : Eight w D z0 z1 z2 z3 z4 z5 z6 z7) (hso : so < D) :
    Calls Tryz.prog 126 #[.iface 67 (.pointer (some ⟨so, 0, none⟩)), .slice (some ⟨D, 0, none⟩) 8 8, .int .i64 8] w (ReadPost w so D b0 b1 b2 b3 b4 b5 b6 b7 rest) := by
  have n1 := na_Read
  have n2 := me_Read
  go_enter Tryz.func126, Tryz.ntmps126
  go_wp2_with fail
  refine wp_loop_rounds 2 ?_
  rw [rounds_succ]
  go_wp2_with fail
  go_region_with (go_at_call 162; refine (Read_some so D _ _ _ _ _ _ _ _ _ _ _ _ _ _ _ _ _ w.drew hs hD hso).mono ?_; rintro e w1 ⟨rfl, hS1, hE1, ho1, hB1⟩)
  go_wp2_with fail
  rw [rounds_succ]
  go_wp2_with fail
  go_ret2
  exact ⟨rfl, hS1, hE1, ho1, ⟨hB1.os, hB1.tape, hB1.output, hB1.size, hB1.block⟩⟩
set_option maxHeartbeats 4000000 in
set_option maxRecDepth 100000 in
theorem RAL_eof (so D : Nat) (a : Addr) (w : World) (hs : SrcAt w so []) (ha : EofAt w a) :
    Calls Tryz.prog 126 #[.iface 67 (.pointer (some ⟨so, 0, none⟩)), .slice (some ⟨D, 0, none⟩) 8 8, .int .i64 8] w fun e w' => e = .returned (.tuple #[.int .i64 0, .iface 180 (.pointer (some a))]) ∧ ∃ n, w' = w.drewN n := by
  have n1 := na_Read
  have n2 := me_Read
  have q1 : ∀ w, Sem.run Tryz.prog (binOp .eql 59 (.iface 180 (.pointer (some a))) .nilIface) w = .ok (.bool false) w := fun w => by kernel_rfl
  go_enter Tryz.func126, Tryz.ntmps126
  go_wp2_with fail
  refine wp_loop_rounds 2 ?_
  rw [rounds_succ]
  go_wp2_with fail
  go_region_with (go_at_call 162; refine (Read_eof so _ a w.drew hs ha ⟨_, rfl⟩).mono ?_; rintro e w1 ⟨rfl, n, rfl⟩)
  go_wp2_with fail
  rw [rounds_succ]
  go_wp2_with fail

  go_ret2
  exact ⟨rfl, 1 + n, rfl⟩
set_option maxHeartbeats 4000000 in
set_option maxRecDepth 100000 in
theorem RF_some (so D : Nat) (b0 b1 b2 b3 b4 b5 b6 b7 z0 z1 z2 z3 z4 z5 z6 z7 : Int) (rest : List Int) (w : World) (hs : SrcAt w so (b0 :: b1 :: b2 :: b3 :: b4 :: b5 :: b6 :: b7 :: rest)) (hD : Eight w D z0 z1 z2 z3 z4 z5 z6 z7) (hso : so < D) :
    Calls Tryz.prog 101 #[.iface 67 (.pointer (some ⟨so, 0, none⟩)), .slice (some ⟨D, 0, none⟩) 8 8] w (ReadPost w so D b0 b1 b2 b3 b4 b5 b6 b7 rest) := by
  go_enter Tryz.func101, Tryz.ntmps101
  go_wp2_with (go_at_call 126; refine (RAL_some so D _ _ _ _ _ _ _ _ _ _ _ _ _ _ _ _ _ w hs hD hso).mono ?_; rintro e w1 ⟨rfl, hS1, hE1, ho1, hB1⟩)
  go_ret2
  exact ⟨rfl, hS1, hE1, ho1, hB1⟩
set_option maxHeartbeats 4000000 in
set_option maxRecDepth 100000 in
theorem RF_eof (so D : Nat) (a : Addr) (w : World) (hs : SrcAt w so []) (ha : EofAt w a) :
    Calls Tryz.prog 101 #[.iface 67 (.pointer (some ⟨so, 0, none⟩)), .slice (some ⟨D, 0, none⟩) 8 8] w fun e w' => e = .returned (.tuple #[.int .i64 0, .iface 180 (.pointer (some a))]) ∧ ∃ n, w' = w.drewN n := by
  go_enter Tryz.func101, Tryz.ntmps101
  go_wp2_with (go_at_call 126; refine (RAL_eof so D a w hs ha).mono ?_; rintro e w1 ⟨rfl, n, rfl⟩)
  go_ret2
  exact ⟨rfl, n, rfl⟩
end Go.Proofs.YtobgjmgepckijaaGreatDoor
