/- laws.FnAtomicOf returns true at every n and m: of an atomic code which operation it is is told, and set; other codes have none. -/
import Derived.Test.YtobgjmgepckijaaRows
import Derived.WalkKit
import Derived.ProofKit
import Derived.OpenShut
import Derived.Test.YtobgjmgepckijaaInsB
import Derived.Test.YtobgjmgepckijaaOps
import Derived.Test.YtobgjmgepckijaaBelow
namespace Go.Proofs.Ytobgjmgepckijaa.fnAtomicOf
open Go.ChangeShapes Go.WideShapes Go.ChangeAt Go.RowKit
set_option linter.unusedVariables false
set_option linter.unusedSimpArgs false

theorem own : ownKnob Try.prog.godebug = none := by kernel_rfl

/-! ## The plain law -/
theorem law : ∀ op ∈ allOps, ∀ c ∈ atomCs, bits .and .u32 (c * 256) 4294836479 = 0 ∧ (sIsAtomic op = false → oAtomic op = 4294967295 ∧ oSetAtomic op (c * 256) = 65535) ∧
    (sIsAtomic op = true → oAtomic op = op / 256 * 256 ∧ oSetAtomic op (c * 256) = bits .or .i64 (bits .and .i64 op 255) (c * 256) ∧ 0 ≤ oSetAtomic op (c * 256) ∧ oSetAtomic op (c * 256) < 131072 ∧ oAtomic (oSetAtomic op (c * 256)) = c * 256) := by decide +kernel

set_option maxHeartbeats 4000000 in
set_option maxRecDepth 100000 in
theorem walk (a0 : Int) (a1 : Int) (w0 : (Lit.int .u32 a0).wf = true) (w1 : (Lit.int .u32 a1).wf = true) (w : World) :
    Calls Try.prog 3 #[.int .u32 a0, .int .u32 a1] w fun e w' => e = .returned (.bool true) ∧ Below w.heap.size w w' := by
  obtain ⟨l0, u0⟩ := wf_u32 w0
  obtain ⟨l1, u1⟩ := wf_u32 w1
  clear w0 w1
  go_enter Try.func3, Try.ntmps3
  go_wp2_with fail
  refine (insOf_any _ _ (by omega) (by omega)).mono ?_
  rintro e w1 ⟨op, dst, src, off, c, hg, rfl, hb⟩
  have h0 := hg.op0
  have h1 := hg.op1
  go_wp2_with fail
  refine (atomicOf_any _ _ (by omega) (by omega)).mono ?_
  rintro e w2 ⟨m, hm, rfl, rfl⟩
  obtain ⟨m0, m1⟩ := atomCs_range m hm
  obtain ⟨HV, H0, H1⟩ := law op hg.mem m hm
  clear hm hg
  have HV := Lib.hid HV
  go_wp2_with fail
  refine (sIsAtomic_any _ _).mono ?_
  rintro e w' ⟨rfl, rfl⟩
  cases hs : sIsAtomic op
  · obtain ⟨e1, e2⟩ := H0 hs
    clear H0 H1
    go_wp2_with (first | (go_at_call 10; refine (AtomicOf_any _ _ h0 h1).mono ?_; rintro e w' ⟨rfl, rfl⟩) | (go_at_call 11; refine (SetAtomic_any _ _ _ h0 h1 (by omega) (by omega) HV.out).mono ?_; rintro e w' ⟨rfl, rfl⟩))
    go_ret
    exact ⟨by simp [e1, e2], by repeat (first | exact hb | refine below_al (by have := hb.size; simp <;> omega) ?_ _)⟩
  · obtain ⟨e1, e2, e3, e4, e5⟩ := H1 hs
    clear H0 H1
    have b1 : (oAtomic op == op / 256 * 256) = true := by rw [e1]; simp
    have b2 : (oSetAtomic op (m * 256) == bits .or .i64 (bits .and .i64 op 255) (m * 256)) = true := by rw [e2]; simp
    have b3 : (oAtomic (oSetAtomic op (m * 256)) == m * 256) = true := by rw [e5]; simp
    clear e1 e2 e5
    go_wp2_with (first | (go_at_call 11; refine (SetAtomic_any _ _ _ h0 h1 (by omega) (by omega) HV.out).mono ?_; rintro e w' ⟨rfl, rfl⟩))
    go_quiet ((first | (go_at_call 10; exact quiet_left (AtomicOf_any _ _ h0 h1)) | (go_at_call 10; exact quiet_left (AtomicOf_any _ _ e3 e4))))
    go_wp2
    go_ret
    refine ⟨rfl, ?_⟩
    · refine below_drewN ?_ _
      repeat (first | exact hb | refine below_al (by have := hb.size; simp <;> omega) ?_ _)

/-! ### THE ROW's STEP: WRITTEN OUT: LEAVE IT -/
set_option maxRecDepth 100000 in
theorem lifted (os : Os) (started : os.Started) (H : Type) (enc : TypeId × Value → H) :
    ReturnsInHanded {} Try.checked os 3 .any (Rows.fnAtomicOfSpec.pre6 enc Try.prog Try.f3 Rows.fnAtomicOfRow.domain false) (Rows.fnAtomicOfSpec.post enc Try.prog Try.f3 false true false false) := by
  refine returnsInHanded_of_change (C := Try.checked) own started (by kernel_rfl) Try.func3
    (ChangeSpec.witness6 (enc := enc) (C := Try.checked) false ⟨#[], #[.int .u32 0, .int .u32 0], []⟩ 8 (by kernel_rfl) (by kernel_rfl) (by kernel_rfl) (by kernel_rfl)) ?_
  intro W base args ds gs before hval0 hW hcnd _
  have hval : ∀ (j : Nat) t v, Try.f3.params[j]? = some t → args[j]? = some v → Value.okWide Try.prog W .any base t v := hval0
  have hW' := hW
  obtain ⟨p, q, hA0, hV, rfl, hfz, hnd⟩ := hW
  have hA : DataW.TrodAll enc Try.prog W 0 (fun _ => true) true Try.f3.params.toList args.toList ds p := hA0
  rw [Try.params3] at hA hval
  obtain ⟨v0, vs0, d0, ds0, p0, q0, hargs, rfl, rfl, h0, r0⟩ := trodAll_cons hA
  obtain ⟨v1, vs1, d1, ds1, p1, q1, rfl, rfl, rfl, h1, r1⟩ := trodAll_cons r0
  obtain ⟨rfl, rfl, rfl⟩ := trodAll_nil r1
  obtain rfl : args = #[v0, v1] := by cases args; simp_all
  obtain ⟨rfl, rfl⟩ := trodVars_none hV
  obtain ⟨a0, rfl, rfl, rfl, w0⟩ := open_int Try.underlying22 (hval 0 22 v0 rfl rfl) h0
  obtain ⟨a1, rfl, rfl, rfl, w1⟩ := open_int Try.underlying22 (hval 1 22 v1 rfl rfl) h1
  clear hA0 hval0
  simp only [List.append_nil] at hW'
  refine (walk a0 a1 w0 w1 W).mono fun e W' ⟨he, hg⟩ => ?_
  subst he
  exact ⟨_, rfl, post_of_below (pa := []) (pv := []) hW' (fun _ _ _ => (trodAll_cons_mk (shut_bool Try.underlying4 _) trodAll_mk0)) (fun sp _ => (trodAll_cons_mk (shut_int Try.underlying22 w0) (trodAll_cons_mk (shut_int Try.underlying22 w1) trodAll_mk0))) (fun _ _ => rfl) rfl
    hg (ok_one (by kernel_rfl) rfl (okWide_bool_mk Try.underlying4 _))⟩

theorem over : Rows.fnAtomicOfRow.holds Try.pinned (OpenSpec.ofChange Rows.fnAtomicOfSpec) :=
  OpenClaim.holds_of_wide 3 Try.f3 rfl rfl rfl rfl rfl rfl rfl ⟨rfl, rfl, rfl, rfl, rfl⟩ rfl rfl rfl rfl rfl (by kernel_rfl) Try.func3 (by kernel_rfl)
    (of_decide_eq_true (by kernel_rfl)) (by unfold Func.isWrapper; first | (rw [if_pos (by decide +kernel)]; kernel_rfl) | (rw [if_neg (by decide +kernel)]; exact ⟨rfl, rfl⟩))
    (fun os started H enc _ => lifted os started H enc)

/-- ████ THE STATEMENT ████ -/
theorem proved : Rows.FnAtomicOfSaid :=
  over
#print axioms proved
end Go.Proofs.Ytobgjmgepckijaa.fnAtomicOf
