/- laws.FnText returns true at every input: an instruction is written as its code's words and what it has, with names. -/
import Derived.Test.YtobgjmgepckijaaDoorTextW
import Derived.Deep.RegionHeld
import Derived.Deep.DeepCutAuto
import Derived.Outline
namespace Go.Proofs.YtobgjmgepckijaaDoor.fnText
open Go.RowKit
set_option linter.unusedVariables false
set_option linter.unusedSimpArgs false
section
variable {w W W' : World} {b : Nat} {op dst src off c : Int} {r : ByteArray}
theorem of_row (h : W.heap[b]? = some (insRow7 op dst src off c r)) (hb : Below w.heap.size w W) :
    (W.cell? ⟨b, 0, none⟩ = some (.int .i64 op) ∧ W.cell? ⟨b, 1, none⟩ = some (.int .i64 dst) ∧ W.cell? ⟨b, 2, none⟩ = some (.int .i64 src) ∧ W.cell? ⟨b, 3, none⟩ = some (.int .i64 off) ∧
      W.cell? ⟨b, 4, none⟩ = some (.int .i64 c) ∧ W.cell? ⟨b, 5, none⟩ = some (.string ⟨#[]⟩) ∧ W.cell? ⟨b, 6, none⟩ = some (.string r) ∧ Below w.heap.size w W)
    :=
  ⟨cell_of_row _ _ 0 _ _ _ h, cell_of_row _ _ 1 _ _ _ h, cell_of_row _ _ 2 _ _ _ h, cell_of_row _ _ 3 _ _ _ h, cell_of_row _ _ 4 _ _ _ h, cell_of_row _ _ 5 _ _ _ h, cell_of_row _ _ 6 _ _ _ h, hb⟩
theorem keep7 (hb : Below W.heap.size W W') (h :
    (W.cell? ⟨b, 0, none⟩ = some (.int .i64 op) ∧ W.cell? ⟨b, 1, none⟩ = some (.int .i64 dst) ∧ W.cell? ⟨b, 2, none⟩ = some (.int .i64 src) ∧ W.cell? ⟨b, 3, none⟩ = some (.int .i64 off) ∧
      W.cell? ⟨b, 4, none⟩ = some (.int .i64 c) ∧ W.cell? ⟨b, 5, none⟩ = some (.string ⟨#[]⟩) ∧ W.cell? ⟨b, 6, none⟩ = some (.string r) ∧ Below w.heap.size w W)
    ) :
    (W'.cell? ⟨b, 0, none⟩ = some (.int .i64 op) ∧ W'.cell? ⟨b, 1, none⟩ = some (.int .i64 dst) ∧ W'.cell? ⟨b, 2, none⟩ = some (.int .i64 src) ∧ W'.cell? ⟨b, 3, none⟩ = some (.int .i64 off) ∧
      W'.cell? ⟨b, 4, none⟩ = some (.int .i64 c) ∧ W'.cell? ⟨b, 5, none⟩ = some (.string ⟨#[]⟩) ∧ W'.cell? ⟨b, 6, none⟩ = some (.string r) ∧ Below w.heap.size w W')
    := by
  have hl := World.block_lt_of_cell? W ⟨b, 0, none⟩ h.1
  exact ⟨(hb.cell (p := ⟨b, 0, none⟩) hl).trans h.1, (hb.cell (p := ⟨b, 1, none⟩) hl).trans h.2.1, (hb.cell (p := ⟨b, 2, none⟩) hl).trans h.2.2.1, (hb.cell (p := ⟨b, 3, none⟩) hl).trans h.2.2.2.1, (hb.cell (p := ⟨b, 4, none⟩) hl).trans h.2.2.2.2.1,
    (hb.cell (p := ⟨b, 5, none⟩) hl).trans h.2.2.2.2.2.1, (hb.cell (p := ⟨b, 6, none⟩) hl).trans h.2.2.2.2.2.2.1, bel_tr h.2.2.2.2.2.2.2 hb⟩
theorem keep7D (h :
    (W.cell? ⟨b, 0, none⟩ = some (.int .i64 op) ∧ W.cell? ⟨b, 1, none⟩ = some (.int .i64 dst) ∧ W.cell? ⟨b, 2, none⟩ = some (.int .i64 src) ∧ W.cell? ⟨b, 3, none⟩ = some (.int .i64 off) ∧
      W.cell? ⟨b, 4, none⟩ = some (.int .i64 c) ∧ W.cell? ⟨b, 5, none⟩ = some (.string ⟨#[]⟩) ∧ W.cell? ⟨b, 6, none⟩ = some (.string r) ∧ Below w.heap.size w W)
    ) :
    (W.drew.cell? ⟨b, 0, none⟩ = some (.int .i64 op) ∧ W.drew.cell? ⟨b, 1, none⟩ = some (.int .i64 dst) ∧ W.drew.cell? ⟨b, 2, none⟩ = some (.int .i64 src) ∧ W.drew.cell? ⟨b, 3, none⟩ = some (.int .i64 off) ∧
      W.drew.cell? ⟨b, 4, none⟩ = some (.int .i64 c) ∧ W.drew.cell? ⟨b, 5, none⟩ = some (.string ⟨#[]⟩) ∧ W.drew.cell? ⟨b, 6, none⟩ = some (.string r) ∧ Below w.heap.size w W.drew)
    := ⟨h.1, h.2.1, h.2.2.1, h.2.2.2.1, h.2.2.2.2.1, h.2.2.2.2.2.1, h.2.2.2.2.2.2.1, h.2.2.2.2.2.2.2.drew⟩
theorem pow7 (h :
    (W.cell? ⟨b, 0, none⟩ = some (.int .i64 op) ∧ W.cell? ⟨b, 1, none⟩ = some (.int .i64 dst) ∧ W.cell? ⟨b, 2, none⟩ = some (.int .i64 src) ∧ W.cell? ⟨b, 3, none⟩ = some (.int .i64 off) ∧
      W.cell? ⟨b, 4, none⟩ = some (.int .i64 c) ∧ W.cell? ⟨b, 5, none⟩ = some (.string ⟨#[]⟩) ∧ W.cell? ⟨b, 6, none⟩ = some (.string r) ∧ Below w.heap.size w W)
    ) (hp : PowTab w) : PowTab W := pow_below hp h.2.2.2.2.2.2.2
end
set_option maxHeartbeats 8000000 in
set_option maxRecDepth 100000 in
theorem walk (n m : Int) (n0 : 0 ≤ n) (n1 : n < 4294967296) (m0 : 0 ≤ m) (m1 : m < 256) (w : World) (ht : PowTab w) :
    Calls Tryd.prog 4 #[.int .u32 n, .int .u8 m] w fun e w' => e = .returned (.bool true) ∧ Below w.heap.size w w' := by
  have HP := Lib.hid ht
  clear ht
  go_enter Tryd.func4, Tryd.ntmps4
  go_wp2_with fail
  refine (insOf_any _ _ n0 n1).mono ?_
  rintro e w1 ⟨op, dst, src, off, c, hg, rfl, hb1⟩
  go_wp2_with fail
  refine (asked_any op dst src off c ⟨#[]⟩ _).mono ?_
  rintro e w2 ⟨rfl, hb2⟩
  obtain ⟨b, hbk⟩ : ∃ b, w1.heap.size = b := ⟨_, rfl⟩
  have hk2 : w2.heap[b]? = some (insRow7 op dst src off c ⟨#[]⟩) := by
    rw [← hbk]; exact (hb2.block _ (by simp)).trans (heap_at rfl)
  have hbw : Below w.heap.size w w2 := bel_tr (bel_al hb1) hb2
  have hwb : w.heap.size ≤ b := by rw [← hbk]; exact hb1.size
  rw [hbk]
  clear hb1 hb2 hbk
  have hna : askedB op src c = true ∨ askedB op src c = false := by cases askedB op src c <;> simp
  rcases hna with hna | hna
  · rw [hna]
    go_wp2_with fail
    go_ret
    exact ⟨rfl, hbw⟩
  rw [hna]
  have HN := Lib.hid hna
  clear hna
  have HG := Lib.hid hg
  clear hg
  go_wp2_with fail
  refine (wordOf_any m _ m0 (by omega)).mono ?_
  rintro e w3 ⟨r, hr, rfl, hb3⟩
  have hk3 : w3.heap[b]? = some (insRow7 op dst src off c ⟨#[]⟩) := (hb3.block _ (heap_lt hk2)).trans hk2
  have hbw3 : Below w.heap.size w w3 := bel_tr hbw hb3
  have f6 := frozen_of_row w3 b 6 _ _ hk3
  have c6 : w3.cell? ⟨b, 6, none⟩ = some (.string ⟨#[]⟩) := cell_of_row _ _ 6 _ _ _ hk3
  have hk4 : (w3.setCell ⟨b, 6, none⟩ (.string r)).heap[b]? = some (insRow7 op dst src off c r) := heap_setCell_same w3 b 6 _ _ _ hk3
  have hbw4 : Below w.heap.size w (w3.setCell ⟨b, 6, none⟩ (.string r)) := hbw3.setCell (p := ⟨b, 6, none⟩) hwb _
  have h4 := Lib.hid (of_row hk4 hbw4)
  have hg := HG.out
  obtain ⟨T, hT1, hT2⟩ := both_good hg hg.i64.1 hg.i64.2 hr HN.out
  have HT1 := Lib.hid (fun W (hp : PowTab W) => implText_any op dst src off c r T W hg.op0 hg.op1 hg.dst0 hg.dst1 hg.src0 hg.src1 hg.off0 hg.off1 hp hT1)
  have HT2 := Lib.hid hT2
  clear hk2 hb3 hbw hk3 hbw3 hk4 hbw4 hg hT1 hT2 HG HN hr
  unfold STPost at HT1 HT2
  go_wp2_with fail
  refine wp_gen (fun W =>
    (W.cell? ⟨b, 0, none⟩ = some (.int .i64 op) ∧ W.cell? ⟨b, 1, none⟩ = some (.int .i64 dst) ∧ W.cell? ⟨b, 2, none⟩ = some (.int .i64 src) ∧ W.cell? ⟨b, 3, none⟩ = some (.int .i64 off) ∧
      W.cell? ⟨b, 4, none⟩ = some (.int .i64 c) ∧ W.cell? ⟨b, 5, none⟩ = some (.string ⟨#[]⟩) ∧ W.cell? ⟨b, 6, none⟩ = some (.string r) ∧ Below w.heap.size w W)
    ) h4.out ?_
  clear f6 c6 h4
  intro W h4
  go_region_held (fun W =>
    (W.cell? ⟨b, 0, none⟩ = some (.int .i64 op) ∧ W.cell? ⟨b, 1, none⟩ = some (.int .i64 dst) ∧ W.cell? ⟨b, 2, none⟩ = some (.int .i64 src) ∧ W.cell? ⟨b, 3, none⟩ = some (.int .i64 off) ∧
      W.cell? ⟨b, 4, none⟩ = some (.int .i64 c) ∧ W.cell? ⟨b, 5, none⟩ = some (.string ⟨#[]⟩) ∧ W.cell? ⟨b, 6, none⟩ = some (.string r) ∧ Below w.heap.size w W)
    )
    (first | exact keep7 hb (by assumption) | exact keep7D h4 | assumption)
    (first
      | (go_at_call 19; refine (HT1.out _ (pow7 (by assumption) HP.out)).mono ?_; rintro e w' ⟨rfl, hb⟩)
      | (go_at_call 20; refine (HT2.out _).mono ?_; rintro e w' ⟨rfl, hb⟩))
  all_goals
    go_wp2_with fail
    go_ret
    exact ⟨rfl, by go_split_ands; assumption⟩
end Go.Proofs.YtobgjmgepckijaaDoor.fnText
