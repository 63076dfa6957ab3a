/- laws.FnMapOffset returns true at every n, offset and load: of a direct load from a map the upper half of the constant becomes another offset; an error of any other instruction. -/
import Derived.Test.YtobgjmgepckijaaRows
import Derived.WalkKit
import Derived.ProofKit
import Derived.OpenShut
import Derived.Test.YtobgjmgepckijaaInsB
import Derived.Test.YtobgjmgepckijaaMapOff
namespace Go.Proofs.Ytobgjmgepckijaa.fnMapOffset
open Go.ChangeShapes Go.WideShapes Go.ChangeAt Go.RowKit
set_option linter.unusedVariables false
set_option linter.unusedSimpArgs false

theorem own : ownKnob Try.prog.godebug = none := by kernel_rfl

set_option maxHeartbeats 4000000 in
set_option maxRecDepth 100000 in
theorem walk (a0 : Int) (a1 : Int) (a2 : Bool) (w0 : (Lit.int .u32 a0).wf = true) (w1 : (Lit.int .u32 a1).wf = true) (w : World) :
    Calls Try.prog 5 #[.int .u32 a0, .int .u32 a1, .bool a2] w fun e w' => e = .returned (.bool true) ∧ Below w.heap.size w w' := by
  obtain ⟨l0, u0⟩ := wf_u32 w0
  obtain ⟨l1, u1⟩ := wf_u32 w1
  clear w0 w1
  cases a2
  · go_enter Try.func5, Try.ntmps5
    go_wp2_with fail
    refine (insOf_any _ _ (by omega) (by omega)).mono ?_
    rintro e w1 ⟨op, dst, src, off, c, hg, rfl, hb⟩
    obtain ⟨h0, h1, d0, d1, s0, s1, o0, o1⟩ : 0 ≤ op ∧ op < 131072 ∧ 0 ≤ dst ∧ dst ≤ 10 ∧ 0 ≤ src ∧ src ≤ 10 ∧ -32768 ≤ off ∧ off ≤ 32767 := ⟨hg.op0, hg.op1, hg.dst0, hg.dst1, hg.src0, hg.src1, hg.off0, hg.off1⟩
    clear hg
    by_cases hx : op = 24
    · subst hx
      by_cases hs : src = 2
      · as_aux_lemma =>
        subst hs
        go_wp2_with fail
        refine (MapOffset_ok dst off c a1 _ d0 d1 o0 o1 l1 u1).mono ?_
        rintro e w2 ⟨rfl, hb2⟩
        have hk : w2.heap[w1.heap.size]? = some (.cells #[.int .i64 24, .int .i64 dst, .int .i64 2, .int .i64 off, .int .i64 c, .string ⟨#[]⟩, .string ⟨#[]⟩] 24 (0, 0)) := (hb2.block _ (by simp)).trans (heap_at rfl)
        have hz : w1.heap.size < w2.heap.size := heap_lt hk
        have k0 : w2.cell? ⟨w1.heap.size, 0, none⟩ = some (.int .i64 24) := cell_of_row _ _ 0 _ _ _ hk
        have k1 : w2.cell? ⟨w1.heap.size, 1, none⟩ = some (.int .i64 dst) := cell_of_row _ _ 1 _ _ _ hk
        have k2 : w2.cell? ⟨w1.heap.size, 2, none⟩ = some (.int .i64 2) := cell_of_row _ _ 2 _ _ _ hk
        have k3 : w2.cell? ⟨w1.heap.size, 3, none⟩ = some (.int .i64 off) := cell_of_row _ _ 3 _ _ _ hk
        have k4 : w2.cell? ⟨w1.heap.size, 4, none⟩ = some (.int .i64 c) := cell_of_row _ _ 4 _ _ _ hk
        have k5 : w2.cell? ⟨w1.heap.size, 5, none⟩ = some (.string ⟨#[]⟩) := cell_of_row _ _ 5 _ _ _ hk
        have k6 : w2.cell? ⟨w1.heap.size, 6, none⟩ = some (.string ⟨#[]⟩) := cell_of_row _ _ 6 _ _ _ hk
        clear hk
        have hof : offsetC a1 c = wrap64 (bits .or .u64 (a1 * 4294967296) (c % 4294967296)) := rfl
        have heq := eqlIns 24 dst 2 off (wrap64 (bits .or .u64 (a1 * 4294967296) (c % 4294967296)))
        go_wp2_with fail
        go_ret
        refine ⟨rfl, ?_⟩
        repeat (first | exact below_call hb hb2 | refine below_up (by have := hb.size; have := hb2.size; simp at *; omega) ?_ _ | refine Below.setCell ?_ (by have := hb.size; have := hb2.size; simp at *; omega) _)
      · as_aux_lemma =>
        have hs' : (src != 2) = true := by simpa using hs
        clear hs
        go_wp2_with fail
        refine (MapOffset_err 24 dst src off c a1 _ h0 h1 d0 d1 s0 s1 o0 o1 l1 u1 (.inr ⟨rfl, hs'⟩)).mono ?_
        rintro e w2 ⟨rfl, hb2⟩
        have hk : w2.heap[w1.heap.size]? = some (.cells #[.int .i64 24, .int .i64 dst, .int .i64 src, .int .i64 off, .int .i64 c, .string ⟨#[]⟩, .string ⟨#[]⟩] 24 (0, 0)) := (hb2.block _ (by simp)).trans (heap_at rfl)
        have hz : w1.heap.size < w2.heap.size := heap_lt hk
        have k0 : w2.cell? ⟨w1.heap.size, 0, none⟩ = some (.int .i64 24) := cell_of_row _ _ 0 _ _ _ hk
        have k1 : w2.cell? ⟨w1.heap.size, 1, none⟩ = some (.int .i64 dst) := cell_of_row _ _ 1 _ _ _ hk
        have k2 : w2.cell? ⟨w1.heap.size, 2, none⟩ = some (.int .i64 src) := cell_of_row _ _ 2 _ _ _ hk
        have k3 : w2.cell? ⟨w1.heap.size, 3, none⟩ = some (.int .i64 off) := cell_of_row _ _ 3 _ _ _ hk
        have k4 : w2.cell? ⟨w1.heap.size, 4, none⟩ = some (.int .i64 c) := cell_of_row _ _ 4 _ _ _ hk
        have k5 : w2.cell? ⟨w1.heap.size, 5, none⟩ = some (.string ⟨#[]⟩) := cell_of_row _ _ 5 _ _ _ hk
        have k6 : w2.cell? ⟨w1.heap.size, 6, none⟩ = some (.string ⟨#[]⟩) := cell_of_row _ _ 6 _ _ _ hk
        clear hk
        go_wp2_with fail
        go_ret
        refine ⟨rfl, ?_⟩
        repeat (first | exact below_call hb hb2 | refine below_up (by have := hb.size; have := hb2.size; simp at *; omega) ?_ _ | refine Below.setCell ?_ (by have := hb.size; have := hb2.size; simp at *; omega) _)
    · as_aux_lemma =>
      have hx' : (op == 24) = false := by simpa using hx
      have hx2 : (op != 24) = true := by simpa using hx
      clear hx
      go_wp2_with fail
      refine (MapOffset_err op dst src off c a1 _ h0 h1 d0 d1 s0 s1 o0 o1 l1 u1 (.inl hx')).mono ?_
      rintro e w2 ⟨rfl, hb2⟩
      have hk : w2.heap[w1.heap.size]? = some (.cells #[.int .i64 op, .int .i64 dst, .int .i64 src, .int .i64 off, .int .i64 c, .string ⟨#[]⟩, .string ⟨#[]⟩] 24 (0, 0)) := (hb2.block _ (by simp)).trans (heap_at rfl)
      have hz : w1.heap.size < w2.heap.size := heap_lt hk
      have k0 : w2.cell? ⟨w1.heap.size, 0, none⟩ = some (.int .i64 op) := cell_of_row _ _ 0 _ _ _ hk
      have k1 : w2.cell? ⟨w1.heap.size, 1, none⟩ = some (.int .i64 dst) := cell_of_row _ _ 1 _ _ _ hk
      have k2 : w2.cell? ⟨w1.heap.size, 2, none⟩ = some (.int .i64 src) := cell_of_row _ _ 2 _ _ _ hk
      have k3 : w2.cell? ⟨w1.heap.size, 3, none⟩ = some (.int .i64 off) := cell_of_row _ _ 3 _ _ _ hk
      have k4 : w2.cell? ⟨w1.heap.size, 4, none⟩ = some (.int .i64 c) := cell_of_row _ _ 4 _ _ _ hk
      have k5 : w2.cell? ⟨w1.heap.size, 5, none⟩ = some (.string ⟨#[]⟩) := cell_of_row _ _ 5 _ _ _ hk
      have k6 : w2.cell? ⟨w1.heap.size, 6, none⟩ = some (.string ⟨#[]⟩) := cell_of_row _ _ 6 _ _ _ hk
      clear hk
      go_wp2_with fail
      go_ret
      refine ⟨rfl, ?_⟩
      repeat (first | exact below_call hb hb2 | refine below_up (by have := hb.size; have := hb2.size; simp at *; omega) ?_ _ | refine Below.setCell ?_ (by have := hb.size; have := hb2.size; simp at *; omega) _)
  · as_aux_lemma =>
    obtain ⟨g, hg⟩ : ∃ g, bits .or .i64 (a0 * 2147483648) (a0 / 8) = g := ⟨_, rfl⟩
    go_enter Try.func5, Try.ntmps5
    go_wp2_with fail
    refine (insOf_any _ _ (by omega) (by omega)).mono ?_
    rintro e w1 ⟨op, dst, src, off, c, _, rfl, hb⟩
    go_wp2_with fail
    refine (MapOffset_ok (a0 % 11) 0 g a1 _ (by omega) (by omega) (by omega) (by omega) l1 u1).mono ?_
    rintro e w2 ⟨rfl, hb2⟩
    have hk : w2.heap[w1.heap.size]? = some (.cells #[.int .i64 24, .int .i64 (a0 % 11), .int .i64 2, .int .i64 0, .int .i64 g, .string ⟨#[]⟩, .string ⟨#[]⟩] 24 (0, 0)) := (hb2.block _ (by simp)).trans (heap_at rfl)
    have hz : w1.heap.size < w2.heap.size := heap_lt hk
    have k0 : w2.cell? ⟨w1.heap.size, 0, none⟩ = some (.int .i64 24) := cell_of_row _ _ 0 _ _ _ hk
    have k1 : w2.cell? ⟨w1.heap.size, 1, none⟩ = some (.int .i64 (a0 % 11)) := cell_of_row _ _ 1 _ _ _ hk
    have k2 : w2.cell? ⟨w1.heap.size, 2, none⟩ = some (.int .i64 2) := cell_of_row _ _ 2 _ _ _ hk
    have k3 : w2.cell? ⟨w1.heap.size, 3, none⟩ = some (.int .i64 0) := cell_of_row _ _ 3 _ _ _ hk
    have k4 : w2.cell? ⟨w1.heap.size, 4, none⟩ = some (.int .i64 g) := cell_of_row _ _ 4 _ _ _ hk
    have k5 : w2.cell? ⟨w1.heap.size, 5, none⟩ = some (.string ⟨#[]⟩) := cell_of_row _ _ 5 _ _ _ hk
    have k6 : w2.cell? ⟨w1.heap.size, 6, none⟩ = some (.string ⟨#[]⟩) := cell_of_row _ _ 6 _ _ _ hk
    clear hk
    have hof : offsetC a1 g = wrap64 (bits .or .u64 (a1 * 4294967296) (g % 4294967296)) := rfl
    have heq := eqlIns 24 (a0 % 11) 2 0 (wrap64 (bits .or .u64 (a1 * 4294967296) (g % 4294967296)))
    go_wp2_with fail
    go_ret
    refine ⟨rfl, ?_⟩
    repeat (first | exact below_call hb hb2 | refine below_up (by have := hb.size; have := hb2.size; simp at *; omega) ?_ _ | refine Below.setCell ?_ (by have := hb.size; have := hb2.size; simp at *; omega) _)

/-! ### THE ROW's STEP: WRITTEN OUT: LEAVE IT -/
set_option maxRecDepth 100000 in
theorem lifted (os : Os) (started : os.Started) (H : Type) (enc : TypeId × Value → H) :
    ReturnsInHanded {} Try.checked os 5 .any (Rows.fnMapOffsetSpec.pre6 enc Try.prog Try.f5 Rows.fnMapOffsetRow.domain false) (Rows.fnMapOffsetSpec.post enc Try.prog Try.f5 false true false false) := by
  refine returnsInHanded_of_change (C := Try.checked) own started (by kernel_rfl) Try.func5
    (ChangeSpec.witness6 (enc := enc) (C := Try.checked) false ⟨#[], #[.int .u32 0, .int .u32 0, .bool false], []⟩ 8 (by kernel_rfl) (by kernel_rfl) (by kernel_rfl) (by kernel_rfl)) ?_
  intro W base args ds gs before hval0 hW hcnd _
  have hval : ∀ (j : Nat) t v, Try.f5.params[j]? = some t → args[j]? = some v → Value.okWide Try.prog W .any base t v := hval0
  have hW' := hW
  obtain ⟨p, q, hA0, hV, rfl, hfz, hnd⟩ := hW
  have hA : DataW.TrodAll enc Try.prog W 0 (fun _ => true) true Try.f5.params.toList args.toList ds p := hA0
  rw [Try.params5] at hA hval
  obtain ⟨v0, vs0, d0, ds0, p0, q0, hargs, rfl, rfl, h0, r0⟩ := trodAll_cons hA
  obtain ⟨v1, vs1, d1, ds1, p1, q1, rfl, rfl, rfl, h1, r1⟩ := trodAll_cons r0
  obtain ⟨v2, vs2, d2, ds2, p2, q2, rfl, rfl, rfl, h2, r2⟩ := trodAll_cons r1
  obtain ⟨rfl, rfl, rfl⟩ := trodAll_nil r2
  obtain rfl : args = #[v0, v1, v2] := by cases args; simp_all
  obtain ⟨rfl, rfl⟩ := trodVars_none hV
  obtain ⟨a0, rfl, rfl, rfl, w0⟩ := open_int Try.underlying22 (hval 0 22 v0 rfl rfl) h0
  obtain ⟨a1, rfl, rfl, rfl, w1⟩ := open_int Try.underlying22 (hval 1 22 v1 rfl rfl) h1
  obtain ⟨a2, rfl, rfl, rfl⟩ := open_bool Try.underlying4 (hval 2 4 v2 rfl rfl) h2
  clear hA0 hval0
  simp only [List.append_nil] at hW'
  refine (walk a0 a1 a2 w0 w1 W).mono fun e W' ⟨he, hg⟩ => ?_
  subst he
  exact ⟨_, rfl, post_of_below (pa := []) (pv := []) hW' (fun _ _ _ => (trodAll_cons_mk (shut_bool Try.underlying4 _) trodAll_mk0)) (fun sp _ => (trodAll_cons_mk (shut_int Try.underlying22 w0) (trodAll_cons_mk (shut_int Try.underlying22 w1) (trodAll_cons_mk (shut_bool Try.underlying4 _) trodAll_mk0)))) (fun _ _ => rfl) rfl
    hg (ok_one (by kernel_rfl) rfl (okWide_bool_mk Try.underlying4 _))⟩

theorem over : Rows.fnMapOffsetRow.holds Try.pinned (OpenSpec.ofChange Rows.fnMapOffsetSpec) :=
  OpenClaim.holds_of_wide 5 Try.f5 rfl rfl rfl rfl rfl rfl rfl ⟨rfl, rfl, rfl, rfl, rfl⟩ rfl rfl rfl rfl rfl (by kernel_rfl) Try.func5 (by kernel_rfl)
    (of_decide_eq_true (by kernel_rfl)) (by unfold Func.isWrapper; first | (rw [if_pos (by decide +kernel)]; kernel_rfl) | (rw [if_neg (by decide +kernel)]; exact ⟨rfl, rfl⟩))
    (fun os started H enc _ => lifted os started H enc)

/-- ████ THE STATEMENT ████ -/
theorem proved : Rows.FnMapOffsetSaid :=
  over
#print axioms proved
end Go.Proofs.Ytobgjmgepckijaa.fnMapOffset
