/- impl.Word, walked: a number's word, of each of its ten kinds. -/
import Derived.Test.YtobgjmgepckijaaGreatDoorSpecC
import Derived.Outline
namespace Go.Proofs.YtobgjmgepckijaaGreatDoor
open Go.RowKit
set_option linter.unusedVariables false
set_option linter.unusedSimpArgs false
/-- what a number's word is, and that nothing old is written -/
def Says (k n : Int) (S : ByteArray) (w : World) : Prop := Calls Tryz.prog 14 #[.int .i64 k, .int .i64 n] w fun e w' => e = .returned (.string S) ∧ Below w.heap.size w w'
set_option maxHeartbeats 4000000 in
set_option maxRecDepth 100000 in
theorem Say0 (n : Int) (w : World) (n0 : 0 ≤ n) (n1 : n ≤ 255) (S : ByteArray) (h : ∀ W, Calls Tryz.prog 31 #[.int .u8 n] W fun e w' => e = .returned (.string S) ∧ Below W.heap.size W w') : Says 0 n S w := by
  have H := Lib.hid h
  have hw : IntKind.u8.wrap n = n := by simp [IntKind.wrap, IntKind.bits, IntKind.signed]; omega
  have l0 : ¬ n < 0 := by omega
  have l1 : ¬ n > 255 := by omega
  have l2 : ¬ 255 < n := by omega
  unfold Says
  clear h
  go_enter Tryz.func14, Tryz.ntmps14
  go_wp2_with (go_at_call 31; refine (H.out _).mono ?_; rintro e w' ⟨rfl, hb⟩)
  go_ret
  exact ⟨rfl, hb⟩
set_option maxHeartbeats 4000000 in
set_option maxRecDepth 100000 in
theorem Say1 (n : Int) (w : World) (n0 : 0 ≤ n) (n1 : n ≤ 65535) (S : ByteArray) (h : ∀ W, Calls Tryz.prog 32 #[.int .u16 n] W fun e w' => e = .returned (.string S) ∧ Below W.heap.size W w') : Says 1 n S w := by
  have H := Lib.hid h
  have hw : IntKind.u16.wrap n = n := by simp [IntKind.wrap, IntKind.bits, IntKind.signed]; omega
  have l0 : ¬ n < 0 := by omega
  have l1 : ¬ n > 65535 := by omega
  have l2 : ¬ 65535 < n := by omega
  unfold Says
  clear h
  go_enter Tryz.func14, Tryz.ntmps14
  go_wp2_with (go_at_call 32; refine (H.out _).mono ?_; rintro e w' ⟨rfl, hb⟩)
  go_ret
  exact ⟨rfl, hb⟩
set_option maxHeartbeats 4000000 in
set_option maxRecDepth 100000 in
theorem Say2 (n : Int) (w : World) (n0 : 0 ≤ n) (n1 : n ≤ 255) (S : ByteArray) (h : ∀ W, Calls Tryz.prog 33 #[.int .u8 n] W fun e w' => e = .returned (.string S) ∧ Below W.heap.size W w') : Says 2 n S w := by
  have H := Lib.hid h
  have hw : IntKind.u8.wrap n = n := by simp [IntKind.wrap, IntKind.bits, IntKind.signed]; omega
  have l0 : ¬ n < 0 := by omega
  have l1 : ¬ n > 255 := by omega
  have l2 : ¬ 255 < n := by omega
  unfold Says
  clear h
  go_enter Tryz.func14, Tryz.ntmps14
  go_wp2_with (go_at_call 33; refine (H.out _).mono ?_; rintro e w' ⟨rfl, hb⟩)
  go_ret
  exact ⟨rfl, hb⟩
set_option maxHeartbeats 4000000 in
set_option maxRecDepth 100000 in
theorem Say3 (n : Int) (w : World) (n0 : 0 ≤ n) (n1 : n ≤ 255) (S : ByteArray) (h : ∀ W, Calls Tryz.prog 34 #[.int .u8 n] W fun e w' => e = .returned (.string S) ∧ Below W.heap.size W w') : Says 3 n S w := by
  have H := Lib.hid h
  have hw : IntKind.u8.wrap n = n := by simp [IntKind.wrap, IntKind.bits, IntKind.signed]; omega
  have l0 : ¬ n < 0 := by omega
  have l1 : ¬ n > 255 := by omega
  have l2 : ¬ 255 < n := by omega
  unfold Says
  clear h
  go_enter Tryz.func14, Tryz.ntmps14
  go_wp2_with (go_at_call 34; refine (H.out _).mono ?_; rintro e w' ⟨rfl, hb⟩)
  go_ret
  exact ⟨rfl, hb⟩
set_option maxHeartbeats 4000000 in
set_option maxRecDepth 100000 in
theorem Say4 (n : Int) (w : World) (n0 : 0 ≤ n) (n1 : n ≤ 255) (S : ByteArray) (h : ∀ W, Calls Tryz.prog 35 #[.int .u8 n] W fun e w' => e = .returned (.string S) ∧ Below W.heap.size W w') : Says 4 n S w := by
  have H := Lib.hid h
  have hw : IntKind.u8.wrap n = n := by simp [IntKind.wrap, IntKind.bits, IntKind.signed]; omega
  have l0 : ¬ n < 0 := by omega
  have l1 : ¬ n > 255 := by omega
  have l2 : ¬ 255 < n := by omega
  unfold Says
  clear h
  go_enter Tryz.func14, Tryz.ntmps14
  go_wp2_with (go_at_call 35; refine (H.out _).mono ?_; rintro e w' ⟨rfl, hb⟩)
  go_ret
  exact ⟨rfl, hb⟩
set_option maxHeartbeats 4000000 in
set_option maxRecDepth 100000 in
theorem Say5 (n : Int) (w : World) (n0 : 0 ≤ n) (n1 : n ≤ 65535) (S : ByteArray) (h : ∀ W, Calls Tryz.prog 36 #[.int .u16 n] W fun e w' => e = .returned (.string S) ∧ Below W.heap.size W w') : Says 5 n S w := by
  have H := Lib.hid h
  have hw : IntKind.u16.wrap n = n := by simp [IntKind.wrap, IntKind.bits, IntKind.signed]; omega
  have l0 : ¬ n < 0 := by omega
  have l1 : ¬ n > 65535 := by omega
  have l2 : ¬ 65535 < n := by omega
  unfold Says
  clear h
  go_enter Tryz.func14, Tryz.ntmps14
  go_wp2_with (go_at_call 36; refine (H.out _).mono ?_; rintro e w' ⟨rfl, hb⟩)
  go_ret
  exact ⟨rfl, hb⟩
set_option maxHeartbeats 4000000 in
set_option maxRecDepth 100000 in
theorem Say6 (n : Int) (w : World) (n0 : 0 ≤ n) (n1 : n ≤ 255) (S : ByteArray) (h : ∀ W, Calls Tryz.prog 37 #[.int .u8 n] W fun e w' => e = .returned (.string S) ∧ Below W.heap.size W w') : Says 6 n S w := by
  have H := Lib.hid h
  have hw : IntKind.u8.wrap n = n := by simp [IntKind.wrap, IntKind.bits, IntKind.signed]; omega
  have l0 : ¬ n < 0 := by omega
  have l1 : ¬ n > 255 := by omega
  have l2 : ¬ 255 < n := by omega
  unfold Says
  clear h
  go_enter Tryz.func14, Tryz.ntmps14
  go_wp2_with (go_at_call 37; refine (H.out _).mono ?_; rintro e w' ⟨rfl, hb⟩)
  go_ret
  exact ⟨rfl, hb⟩
set_option maxHeartbeats 4000000 in
set_option maxRecDepth 100000 in
theorem Say7 (n : Int) (w : World) (n0 : 0 ≤ n) (n1 : n ≤ 255) (S : ByteArray) (h : ∀ W, Calls Tryz.prog 38 #[.int .u8 n] W fun e w' => e = .returned (.string S) ∧ Below W.heap.size W w') : Says 7 n S w := by
  have H := Lib.hid h
  have hw : IntKind.u8.wrap n = n := by simp [IntKind.wrap, IntKind.bits, IntKind.signed]; omega
  have l0 : ¬ n < 0 := by omega
  have l1 : ¬ n > 255 := by omega
  have l2 : ¬ 255 < n := by omega
  unfold Says
  clear h
  go_enter Tryz.func14, Tryz.ntmps14
  go_wp2_with (go_at_call 38; refine (H.out _).mono ?_; rintro e w' ⟨rfl, hb⟩)
  go_ret
  exact ⟨rfl, hb⟩
set_option maxHeartbeats 4000000 in
set_option maxRecDepth 100000 in
theorem Say8 (n : Int) (w : World) (n0 : 0 ≤ n) (n1 : n ≤ 4294967295) (S : ByteArray) (h : ∀ W, Calls Tryz.prog 39 #[.int .u32 n] W fun e w' => e = .returned (.string S) ∧ Below W.heap.size W w') : Says 8 n S w := by
  have H := Lib.hid h
  have hw : IntKind.u32.wrap n = n := by simp [IntKind.wrap, IntKind.bits, IntKind.signed]; omega
  have l0 : ¬ n < 0 := by omega
  have l1 : ¬ n > 4294967295 := by omega
  have l2 : ¬ 4294967295 < n := by omega
  unfold Says
  clear h
  go_enter Tryz.func14, Tryz.ntmps14
  go_wp2_with (go_at_call 39; refine (H.out _).mono ?_; rintro e w' ⟨rfl, hb⟩)
  go_ret
  exact ⟨rfl, hb⟩
set_option maxHeartbeats 4000000 in
set_option maxRecDepth 100000 in
theorem Say9 (n : Int) (w : World) (n0 : 0 ≤ n) (n1 : n ≤ 4294967295) (S : ByteArray) (h : ∀ W, Calls Tryz.prog 40 #[.int .u32 n] W fun e w' => e = .returned (.string S) ∧ Below W.heap.size W w') : Says 9 n S w := by
  have H := Lib.hid h
  have hw : IntKind.u32.wrap n = n := by simp [IntKind.wrap, IntKind.bits, IntKind.signed]; omega
  have l0 : ¬ n < 0 := by omega
  have l1 : ¬ n > 4294967295 := by omega
  have l2 : ¬ 4294967295 < n := by omega
  unfold Says
  clear h
  go_enter Tryz.func14, Tryz.ntmps14
  go_wp2_with (go_at_call 40; refine (H.out _).mono ?_; rintro e w' ⟨rfl, hb⟩)
  go_ret
  exact ⟨rfl, hb⟩
theorem same_below {P : Program} {f : FuncId} {args : Array Value} {S : ByteArray} (h : ∀ W, Calls P f args W fun e w' => e = .returned (.string S) ∧ W = w') : ∀ W, Calls P f args W fun e w' => e = .returned (.string S) ∧ Below W.heap.size W w' :=
  fun W => (h W).mono fun _ _ ⟨he, hw⟩ => ⟨he, by subst hw; exact Below.refl _ _⟩
theorem reg_same : ∀ d : Fin 11, regS d.val = sRegS d.val := by decide +kernel
theorem reg_eq {d : Int} (d0 : 0 ≤ d) (d1 : d ≤ 10) : regS d = sRegS d := by
  have := reg_same ⟨d.toNat, by omega⟩
  simpa [Int.toNat_of_nonneg d0] using this
theorem wordOps_lt : ∀ op ∈ wordOps, 0 ≤ op ∧ op ≤ 4294967295 := by decide +kernel
theorem SayReg (d : Int) (w : World) (d0 : 0 ≤ d) (d1 : d ≤ 10) : Says 7 d (sRegS d) w := Say7 d w d0 (by omega) _ (same_below fun W => reg_eq d0 d1 ▸ RegString d W d0 d1)
theorem SayCode (op : Int) (w : World) (h : op ∈ wordOps) : Says 9 op (sCode op) w := Say9 op w (wordOps_lt op h).1 (wordOps_lt op h).2 _ (fun W => code_same op h ▸ CodeString op W h)
end Go.Proofs.YtobgjmgepckijaaGreatDoor
