/- impl.Text, laws.asked, laws.wordOf, walked. -/
import Derived.Test.YtobgjmgepckijaaDoorTextP
import Derived.Test.YtobgjmgepckijaaDoorMetaB
import Derived.Outline
namespace Go.Proofs.YtobgjmgepckijaaDoor
open Go.RowKit
set_option linter.unusedVariables false
set_option linter.unusedSimpArgs false
theorem Good.i64 {op dst src off c : Int} (h : Good op dst src off c) : -9223372036854775808 ≤ c ∧ c ≤ 9223372036854775807 := by
  have h0 := h.op0
  have h1 := h.op1
  rcases h.arm with h | h | h | h | h | h | h | h | h | h <;> (try simp only [I32, I64] at h) <;> omega
set_option maxHeartbeats 4000000 in
set_option maxRecDepth 100000 in
theorem implText_any (op dst src off c : Int) (r T : ByteArray) (w : World) (h0 : 0 ≤ op) (h1 : op < 131072) (d0 : 0 ≤ dst) (d1 : dst ≤ 10) (s0 : 0 ≤ src) (s1 : src ≤ 10) (o0 : -32768 ≤ off) (o1 : off ≤ 32767) (ht : PowTab w)
    (hT : ∀ (p : Option Addr) (w : World), PowTab w → RefOf p r w → Calls Tryd.prog 38 #[asmP op dst src off c p] w (STPost T w)) :
    Calls Tryd.prog 19 #[insR op dst src off c r] w (STPost T w) := by
  unfold STPost at hT ⊢
  have HT := Lib.hid hT
  have HF := Lib.hid (fun W => fits_any op dst src off c ⟨#[]⟩ r W h0 h1 d0 d1 s0 s1 o0 o1)
  have HI := Lib.hid (fun W => InsOfRef_any op dst src off c r W h0 h1 d0 d1 s0 s1 o0 o1)
  have HP := Lib.hid ht
  clear ht hT
  go_enter Tryd.func19, Tryd.ntmps19
  go_wp2_with (go_at_call 36; refine (HF.out _).mono ?_; rintro e w' ⟨rfl, rfl⟩)
  refine (HI.out _).mono ?_
  rintro e w2 ⟨p, rfl, hr, hb⟩
  have hb' : Below w.heap.size w w2 := bel_tr (by (repeat (first | exact Below.refl _ _ | apply bel_al))) hb
  go_wp2_with fail
  refine (HT.out p _ (pow_below HP.out hb') hr).mono ?_
  rintro e w3 ⟨rfl, hb3⟩
  go_wp2_with fail
  go_ret
  exact ⟨rfl, bel_tr hb' hb3⟩
set_option maxHeartbeats 4000000 in
set_option maxRecDepth 100000 in
theorem asked_any (op dst src off c : Int) (r : ByteArray) (w : World) : Calls Tryd.prog 17 #[insR op dst src off c r] w fun e w' => e = .returned (.bool (askedB op src c)) ∧ Below w.heap.size w w' := by
  unfold askedB
  cases h1 : (op == 133)
  all_goals
    go_enter Tryd.func17, Tryd.ntmps17
    go_wp2_with fail
  all_goals
    go_ret
    exact ⟨by simp [*, IntKind.wrap_u32], by (repeat (first | exact Below.refl _ _ | apply bel_al))⟩
def woL : List ByteArray := [⟨#[]⟩, ⟨#[102]⟩, ⟨#[108, 111, 111, 112, 95, 49]⟩, ⟨#[46, 116, 101, 120, 116]⟩, ⟨#[97, 32, 98]⟩, ⟨#[60, 120, 62]⟩]
set_option maxHeartbeats 4000000 in
set_option maxRecDepth 100000 in
theorem wordOf_any (n : Int) (w : World) (h0 : 0 ≤ n) (h1 : n < 4294967296) : Calls Tryd.prog 18 #[.int .u32 n] w fun e w' => ∃ r : ByteArray, r.size ≤ 100 ∧ e = .returned (.string r) ∧ Below w.heap.size w w' := by
  have hl := look_get (l := woL) (q := n % 6) (n := 6) (by omega) (by omega) rfl
  have hl2 := look_at (l := woL) (q := n % 6) (n := 6) (by omega) (by omega) rfl
  have hz : (woL.getD (n % 6).toNat ⟨#[]⟩).size ≤ 100 := getD_size (by decide) _
  obtain ⟨S, hS⟩ : ∃ S, woL.getD (n % 6).toNat ⟨#[]⟩ = S := ⟨_, rfl⟩
  rw [hS] at hl hl2 hz
  have HZ := Lib.hid hz
  clear hz hS
  simp only [woL, List.map_cons, List.map_nil] at hl hl2
  go_enter Tryd.func18, Tryd.ntmps18
  go_wp2_with fail
  go_ret
  exact ⟨_, HZ.out, rfl, (Below.refl _ _).alloc (Nat.le_refl _) _⟩
end Go.Proofs.YtobgjmgepckijaaDoor
