/- laws.FnTests returns true at every n: what the package tells of an instruction is what the reference tells. -/
import Derived.Test.YtobgjmgepckijaaRows
import Derived.WalkKit
import Derived.ProofKit
import Derived.OpenShut
import Derived.Test.YtobgjmgepckijaaInsB
import Derived.Test.YtobgjmgepckijaaTests
import Derived.RegionTactic
namespace Go.Proofs.Ytobgjmgepckijaa.fnTests
open Go.ChangeShapes Go.WideShapes Go.ChangeAt Go.RowKit
set_option linter.unusedVariables false
set_option linter.unusedSimpArgs false

theorem own : ownKnob Try.prog.godebug = none := by kernel_rfl

/-! ## The plain law -/
theorem calls_at : ∀ op ∈ allOps, sCall op = (oJump op == 128) ∧ (oJump op = 128 → op = 133) := by decide +kernel
theorem good133 {op dst src off c : Int} (h : Good op dst src off c) (e : op = 133) : dst = 0 := by
  subst e
  rcases h.arm with h | h | h | h | h | h | h | h | h | h
  · exact absurd h.1 (by decide)
  · exact absurd h.1 (by decide)
  · exact absurd h.1 (by decide)
  · exact absurd h.1 (by decide)
  · exact absurd h.1 (by decide)
  all_goals first | exact h.2.1 | (exact absurd h.1 (by decide))
theorem good24 {op dst src off c : Int} (h : Good op dst src off c) (e : op = 24) : off = 0 := by
  subst e
  rcases h.arm with h | h | h | h | h | h | h | h | h | h
  · exact h.2.1
  · exact h.2.2.1
  · exact absurd h.1 (by decide)
  · exact absurd h.1 (by decide)
  · exact absurd h.1 (by decide)
  all_goals first | exact h.2.2.1 | (exact absurd h.1 (by decide))
theorem law0 {op dst src off c : Int} (h : Good op dst src off c) : (oJump op == 128 && src == 0 && dst == 0) = (sCall op && src == 0) := by
  rw [(calls_at op h.mem).1]
  cases hj : (oJump op == 128)
  · simp
  · have := good133 h ((calls_at op h.mem).2 (by simpa using hj))
    simp [this]
theorem law1 {op dst src off c : Int} (h : Good op dst src off c) : (op == 24 && src == 0 && off == 0) = (op == 24 && src == 0) := by
  cases hj : (op == 24)
  · simp
  · have := good24 h (by simpa using hj)
    simp [this]

/-- two rows of seven, one list -/
theorem same_cells {w : World} {b1 b2 : Nat} {t0 t1 t2 t3 t4 t5 t6 : Bool} {t : TypeId} (h1 : w.heap[b1]? = some (.cells #[.bool t0, .bool t1, .bool t2, .bool t3, .bool t4, .bool t5, .bool t6] t (0, 0)))
    (h2 : w.heap[b2]? = some (.cells #[.bool t0, .bool t1, .bool t2, .bool t3, .bool t4, .bool t5, .bool t6] t (0, 0))) :
    ∃ B : Nat → Bool, (∀ k, k < 7 → w.cell? ⟨b1, k, none⟩ = some (.bool (B k))) ∧ (∀ k, k < 7 → w.cell? ⟨b2, k, none⟩ = some (.bool (B k))) := by
  refine ⟨fun k => [t0, t1, t2, t3, t4, t5, t6].getD k false, fun k hk => ?_, fun k hk => ?_⟩
  · rw [cell_of_row _ _ k _ _ _ h1]
    match k, hk with
    | 0, _ | 1, _ | 2, _ | 3, _ | 4, _ | 5, _ | 6, _ => rfl
  · rw [cell_of_row _ _ k _ _ _ h2]
    match k, hk with
    | 0, _ | 1, _ | 2, _ | 3, _ | 4, _ | 5, _ | 6, _ => rfl
/-- an instruction in memory, cell by cell -/
theorem row7_below {B : Nat} {W w' : World} {b : Nat} {op dst src off c : Int} (hb : Below B W w') (hl : b < B)
    (h : W.cell? ⟨b, 0, none⟩ = some (.int .i64 op) ∧ W.cell? ⟨b, 1, none⟩ = some (.int .i64 dst) ∧ W.cell? ⟨b, 2, none⟩ = some (.int .i64 src) ∧ W.cell? ⟨b, 3, none⟩ = some (.int .i64 off) ∧
      W.cell? ⟨b, 4, none⟩ = some (.int .i64 c) ∧ W.cell? ⟨b, 5, none⟩ = some (.string ⟨#[]⟩) ∧ W.cell? ⟨b, 6, none⟩ = some (.string ⟨#[]⟩)) :
    w'.cell? ⟨b, 0, none⟩ = some (.int .i64 op) ∧ w'.cell? ⟨b, 1, none⟩ = some (.int .i64 dst) ∧ w'.cell? ⟨b, 2, none⟩ = some (.int .i64 src) ∧ w'.cell? ⟨b, 3, none⟩ = some (.int .i64 off) ∧
      w'.cell? ⟨b, 4, none⟩ = some (.int .i64 c) ∧ w'.cell? ⟨b, 5, none⟩ = some (.string ⟨#[]⟩) ∧ w'.cell? ⟨b, 6, none⟩ = some (.string ⟨#[]⟩) :=
  ⟨(hb.cell (p := ⟨b, 0, none⟩) hl).trans h.1, (hb.cell (p := ⟨b, 1, none⟩) hl).trans h.2.1, (hb.cell (p := ⟨b, 2, none⟩) hl).trans h.2.2.1, (hb.cell (p := ⟨b, 3, none⟩) hl).trans h.2.2.2.1,
    (hb.cell (p := ⟨b, 4, none⟩) hl).trans h.2.2.2.2.1, (hb.cell (p := ⟨b, 5, none⟩) hl).trans h.2.2.2.2.2.1, (hb.cell (p := ⟨b, 6, none⟩) hl).trans h.2.2.2.2.2.2⟩

set_option maxHeartbeats 4000000 in
set_option maxRecDepth 100000 in
theorem walk (a0 : Int) (w0 : (Lit.int .u32 a0).wf = true) (w : World) :
    Calls Try.prog 6 #[.int .u32 a0] w fun e w' => e = .returned (.bool true) ∧ Below w.heap.size w w' := by
  obtain ⟨l0, u0⟩ := wf_u32 w0
  clear w0
  go_enter Try.func6, Try.ntmps6
  go_wp2_with fail
  refine (insOf_any _ _ (by omega) (by omega)).mono ?_
  rintro e w1 ⟨op, dst, src, off, c, hg, rfl, hb⟩
  obtain ⟨h0, h1, d0, d1, s0, s1, o0, o1⟩ : 0 ≤ op ∧ op < 131072 ∧ 0 ≤ dst ∧ dst ≤ 10 ∧ 0 ≤ src ∧ src ≤ 10 ∧ -32768 ≤ off ∧ off ≤ 32767 := ⟨hg.op0, hg.op1, hg.dst0, hg.dst1, hg.src0, hg.src1, hg.off0, hg.off1⟩
  have L0 := Lib.hid (law0 hg)
  have L1 := Lib.hid (law1 hg)
  have L2 := Lib.hid (calls_at op hg.mem).1
  clear hg
  go_wp2_with fail
  go_region_held3 (fun w' => w'.cell? ⟨w1.heap.size, 0, none⟩ = some (.int .i64 op) ∧ w'.cell? ⟨w1.heap.size, 1, none⟩ = some (.int .i64 dst) ∧ w'.cell? ⟨w1.heap.size, 2, none⟩ = some (.int .i64 src) ∧ w'.cell? ⟨w1.heap.size, 3, none⟩ = some (.int .i64 off) ∧
      w'.cell? ⟨w1.heap.size, 4, none⟩ = some (.int .i64 c) ∧ w'.cell? ⟨w1.heap.size, 5, none⟩ = some (.string ⟨#[]⟩) ∧ w'.cell? ⟨w1.heap.size, 6, none⟩ = some (.string ⟨#[]⟩))
    (first | exact row7_below hb1 (by simp) (by assumption) | exact row7_below hb2 (by have := hb1.size; simp at *; omega) (by assumption) | go_keep)
    (first | (go_at_call 15; refine (implTests_any op dst src off c _ h0 h1 d0 d1 s0 s1 o0 o1).mono ?_; rintro e w2 ⟨b1, rfl, hk1, hb1, hl1⟩) | (go_at_call 16; refine (specTests_any op dst src off c _).mono ?_; rintro e w3 ⟨b2, rfl, hk2, hb2, hl2⟩))
  rw [L0.out, L1.out, ← L2.out] at hk1
  have hk1' := (hb2.block b1 (heap_lt hk1)).trans hk1
  obtain ⟨B, hB1, hB2⟩ := same_cells hk1' hk2
  have hbz : Below w.heap.size w w3 := (((hb.alloc hb.size _).drew).trans (hb1.mono (by have := hb.size; simp; omega))).trans (hb2.mono (by have := hb.size; have := hb1.size; simp at *; omega))
  have HB1 := Lib.hid hB1
  have HB2 := Lib.hid hB2
  rename_i hheld
  clear hheld hk1 hk2 hk1' hB1 hB2 hb2 hb1 hl1 hl2 hb
  go_wp2_with fail
  go_loopw [20] (fun i wr => ∃ k : Nat, k ≤ 7 ∧ i = .int .i64 k ∧ ∃ n, wr = w3.drewN n) (fun i _ => 7 - (intOf i).toNat)
  case atStart => exact ⟨0, by omega, rfl, 0, rfl⟩
  case round =>
    obtain ⟨k, hk, rfl, n, rfl⟩ := hrel
    by_cases hlt : k < 7
    · have c1 := HB1.out k hlt
      have c2 := HB2.out k hlt
      have hlt' : (k : Int) < 7 := by omega
      have hk0 : (0 : Int) ≤ (k : Int) := by omega
      go_wp2_with fail
      go_quiet (fail)
      go_wp2_with fail
      go_roundw
      case rel => exact ⟨k + 1, by omega, by go_num, _, rfl⟩
      case measure => simp [intOf]; omega
    · go_wp2_with fail
      go_ret
      exact ⟨rfl, below_drewN hbz _⟩

/-! ### THE ROW's STEP: WRITTEN OUT: LEAVE IT -/
set_option maxRecDepth 100000 in
theorem lifted (os : Os) (started : os.Started) (H : Type) (enc : TypeId × Value → H) :
    ReturnsInHanded {} Try.checked os 6 .any (Rows.fnTestsSpec.pre6 enc Try.prog Try.f6 Rows.fnTestsRow.domain false) (Rows.fnTestsSpec.post enc Try.prog Try.f6 false true false false) := by
  refine returnsInHanded_of_change (C := Try.checked) own started (by kernel_rfl) Try.func6
    (ChangeSpec.witness6 (enc := enc) (C := Try.checked) false ⟨#[], #[.int .u32 0], []⟩ 8 (by kernel_rfl) (by kernel_rfl) (by kernel_rfl) (by kernel_rfl)) ?_
  intro W base args ds gs before hval0 hW hcnd _
  have hval : ∀ (j : Nat) t v, Try.f6.params[j]? = some t → args[j]? = some v → Value.okWide Try.prog W .any base t v := hval0
  have hW' := hW
  obtain ⟨p, q, hA0, hV, rfl, hfz, hnd⟩ := hW
  have hA : DataW.TrodAll enc Try.prog W 0 (fun _ => true) true Try.f6.params.toList args.toList ds p := hA0
  rw [Try.params6] at hA hval
  obtain ⟨v0, vs0, d0, ds0, p0, q0, hargs, rfl, rfl, h0, r0⟩ := trodAll_cons hA
  obtain ⟨rfl, rfl, rfl⟩ := trodAll_nil r0
  obtain rfl : args = #[v0] := by cases args; simp_all
  obtain ⟨rfl, rfl⟩ := trodVars_none hV
  obtain ⟨a0, rfl, rfl, rfl, w0⟩ := open_int Try.underlying22 (hval 0 22 v0 rfl rfl) h0
  clear hA0 hval0
  simp only [List.append_nil] at hW'
  refine (walk a0 w0 W).mono fun e W' ⟨he, hg⟩ => ?_
  subst he
  exact ⟨_, rfl, post_of_below (pa := []) (pv := []) hW' (fun _ _ _ => (trodAll_cons_mk (shut_bool Try.underlying4 _) trodAll_mk0)) (fun sp _ => (trodAll_cons_mk (shut_int Try.underlying22 w0) trodAll_mk0)) (fun _ _ => rfl) rfl
    hg (ok_one (by kernel_rfl) rfl (okWide_bool_mk Try.underlying4 _))⟩

theorem over : Rows.fnTestsRow.holds Try.pinned (OpenSpec.ofChange Rows.fnTestsSpec) :=
  OpenClaim.holds_of_wide 6 Try.f6 rfl rfl rfl rfl rfl rfl rfl ⟨rfl, rfl, rfl, rfl, rfl⟩ rfl rfl rfl rfl rfl (by kernel_rfl) Try.func6 (by kernel_rfl)
    (of_decide_eq_true (by kernel_rfl)) (by unfold Func.isWrapper; first | (rw [if_pos (by decide +kernel)]; kernel_rfl) | (rw [if_neg (by decide +kernel)]; exact ⟨rfl, rfl⟩))
    (fun os started H enc _ => lifted os started H enc)

/-- ████ THE STATEMENT ████ -/
theorem proved : Rows.FnTestsSaid :=
  over
#print axioms proved
end Go.Proofs.Ytobgjmgepckijaa.fnTests
