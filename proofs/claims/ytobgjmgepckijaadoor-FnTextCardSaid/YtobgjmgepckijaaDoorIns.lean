/- laws.insOf, walked: it hands back an instruction of the list 'Good', and makes new memory alone. -/
import Derived.Test.YtobgjmgepckijaaDoorProg
import Derived.Test.YtobgjmgepckijaaDoorPlain
import Derived.WalkKit
import Derived.KernelRfl
import Derived.Below
import Derived.WalkLawsBesides
import Derived.WalkSpells
import Derived.Lib.Hide
namespace Go.Proofs.YtobgjmgepckijaaDoor
open Go.RowKit
set_option linter.unusedVariables false
set_option linter.unusedSimpArgs false

/-- what a call leaves that hands back an instruction of the generator -/
def InsPost (w : World) (e : Ending) (w' : World) : Prop :=
  ∃ op dst src off c : Int, Good op dst src off c ∧ e = .returned (.agg #[.int .i64 op, .int .i64 dst, .int .i64 src, .int .i64 off, .int .i64 c, .string ⟨#[]⟩, .string ⟨#[]⟩]) ∧ Below w.heap.size w w'

theorem bodyPost_run {P : Program} {fn : Func} {R : Ending → World → Prop} {a : Act} {w : World} (hd : a.defers = [])
    (h : match (results fn a.tmps).run P w with | .ok v w' => w' = w ∧ R (.returned v) w' | _ => False) : bodyPost P fn R .ret a w := by
  cases e : (results fn a.tmps).run P w with
  | ok v w' =>
    rw [e] at h
    obtain ⟨rfl, hr⟩ := h
    exact bodyPost_ret e hd hr
  | _ => rw [e] at h; exact absurd h id

theorem below_al {B : Nat} {a w : World} (hB : B ≤ w.heap.size) (h : Below B a w) (o : Obj) : Below B a (w.alloc o) := h.alloc hB o

theorem pick2 {a b q : Int} (h0 : 0 ≤ q) (h1 : q < 2) : ∃ x, [Value.int .i64 a, Value.int .i64 b][q.toNat]? = some (Value.int .i64 x) ∧ (x = a ∨ x = b) := by
  have : q = 0 ∨ q = 1 := by omega
  rcases this with rfl | rfl
  · exact ⟨a, rfl, .inl rfl⟩
  · exact ⟨b, rfl, .inr rfl⟩
theorem pick3 {a b c q : Int} (h0 : 0 ≤ q) (h1 : q < 3) : ∃ x, [Value.int .i64 a, Value.int .i64 b, Value.int .i64 c][q.toNat]? = some (Value.int .i64 x) ∧ (x = a ∨ x = b ∨ x = c) := by
  have : q = 0 ∨ q = 1 ∨ q = 2 := by omega
  rcases this with rfl | rfl | rfl
  · exact ⟨a, rfl, .inl rfl⟩
  · exact ⟨b, rfl, .inr (.inl rfl)⟩
  · exact ⟨c, rfl, .inr (.inr rfl)⟩
theorem i16_in (x : Int) : -32768 ≤ IntKind.i16.wrap x ∧ IntKind.i16.wrap x ≤ 32767 := by
  have h : IntKind.i16.wrap x = (x + 32768) % 65536 - 32768 := by
    simp [IntKind.wrap, IntKind.bits, IntKind.signed]
    split <;> omega
  rw [h]; omega
theorem i32_in (x : Int) : -2147483648 ≤ wrap32 x ∧ wrap32 x ≤ 2147483647 := by
  unfold wrap32; omega

/-! Group 3: orders of bytes -/
set_option maxHeartbeats 4000000 in
set_option maxRecDepth 100000 in
theorem ins3 (n : Int) (w : World) (h0 : 0 ≤ n) (h1 : n < 4294967296) (hk : (n % 12 == 3) = true) :
    Calls Tryd.prog 5 #[.int .u32 n] w (InsPost w) := by
  obtain ⟨h, hh⟩ : ∃ h, n * 2654435761 % 4294967296 = h := ⟨_, rfl⟩
  have hl : 0 ≤ h := by omega
  have hu : h < 4294967296 := by omega
  have m2 := u32_mask2 (x := h / 4096) (by omega) (by omega)
  obtain ⟨s, hs⟩ : ∃ s, bits .and .u32 (h / 4096) 3 = s := ⟨_, rfl⟩
  have hs0 : 0 ≤ s := by omega
  have hs1 : s ≤ 3 := by omega
  clear m2
  have m3 := i16_in (h / 512)
  obtain ⟨f, hf⟩ : ∃ f, IntKind.i16.wrap (h / 512) = f := ⟨_, rfl⟩
  rw [hf] at m3
  obtain ⟨hf0, hf1⟩ := m3
  have m4 := i32_in ((n * 40503 + h / 4) % 4294967296)
  obtain ⟨k, hkk⟩ : ∃ k, wrap32 ((n * 40503 + h / 4) % 4294967296) = k := ⟨_, rfl⟩
  rw [hkk] at m4
  obtain ⟨hk0, hk1⟩ := m4
  obtain ⟨x, e1, f1⟩ := pick3 (a := 212) (b := 220) (c := 215) (q := h / 16384 % 3) (by omega) (by omega)
  obtain ⟨y, e2, f2⟩ := pick3 (a := 16) (b := 32) (c := 64) (q := h / 65536 % 3) (by omega) (by omega)
  have F1 := Lib.hid f1
  have F2 := Lib.hid f2
  clear f1 f2
  go_enter Tryd.func5, Tryd.ntmps5
  go_wp2_with fail
  refine bodyPost_run rfl ?_
  simp [results, Tryd.results5, go_sem]
  refine ⟨_, _, _, _, _, ⟨?_, ?_, ?_, ?_, ?_, ?_, ?_⟩, rfl, ?_⟩
  case refine_8 => repeat (first | exact Below.refl _ _ | refine below_al (by simp <;> omega) ?_ _)
  all_goals (try omega)
  refine .inr (.inl ⟨?_, rfl, rfl, F2.out⟩)
  rcases F1.out with rfl | rfl | rfl <;> decide

/-! Groups 8 to 10: loads and stores -/
set_option maxHeartbeats 4000000 in
set_option maxRecDepth 100000 in
theorem ins8 (n : Int) (w : World) (h0 : 0 ≤ n) (h1 : n < 4294967296) (hk : (n % 12 == 8) = true) :
    Calls Tryd.prog 5 #[.int .u32 n] w (InsPost w) := by
  obtain ⟨h, hh⟩ : ∃ h, n * 2654435761 % 4294967296 = h := ⟨_, rfl⟩
  have hl : 0 ≤ h := by omega
  have hu : h < 4294967296 := by omega
  have m2 := u32_mask2 (x := h / 4096) (by omega) (by omega)
  obtain ⟨s, hs⟩ : ∃ s, bits .and .u32 (h / 4096) 3 = s := ⟨_, rfl⟩
  have hs0 : 0 ≤ s := by omega
  have hs1 : s ≤ 3 := by omega
  clear m2
  have m3 := i16_in (h / 512)
  obtain ⟨f, hf⟩ : ∃ f, IntKind.i16.wrap (h / 512) = f := ⟨_, rfl⟩
  rw [hf] at m3
  obtain ⟨hf0, hf1⟩ := m3
  have m4 := i32_in ((n * 40503 + h / 4) % 4294967296)
  obtain ⟨k, hkk⟩ : ∃ k, wrap32 ((n * 40503 + h / 4) % 4294967296) = k := ⟨_, rfl⟩
  rw [hkk] at m4
  obtain ⟨hk0, hk1⟩ := m4
  have m1 := u32_mask1 (x := h / 16384) (by omega) (by omega)
  obtain ⟨q, hq⟩ : ∃ q, bits .and .u32 (h / 16384) 1 = q := ⟨_, rfl⟩
  have hql : 0 ≤ q := by omega
  have hqu : q ≤ 1 := by omega
  clear m1
  have HM := Lib.hid (mem_ldx s (mem4 hs0 hs1))
  go_enter Tryd.func5, Tryd.ntmps5
  go_wp2_with fail
  all_goals
    refine bodyPost_run rfl ?_
    simp [results, Tryd.results5, go_sem]
    refine ⟨_, _, _, _, _, ⟨?_, ?_, ?_, ?_, ?_, ?_, ?_⟩, rfl, ?_⟩
    case refine_8 => repeat (first | exact Below.refl _ _ | refine below_al (by simp <;> omega) ?_ _)
    all_goals (try omega)
  all_goals first
    | exact .inr (.inr (.inr (.inl ⟨HM.out.1, by unfold I32; omega⟩)))
    | exact .inr (.inr (.inr (.inl ⟨HM.out.2.2.2 (by have e := ‹(s * 8 != 24) = true›; simp at e; omega), by unfold I32; omega⟩)))
set_option maxHeartbeats 4000000 in
set_option maxRecDepth 100000 in
theorem ins9 (n : Int) (w : World) (h0 : 0 ≤ n) (h1 : n < 4294967296) (hk : (n % 12 == 9) = true) :
    Calls Tryd.prog 5 #[.int .u32 n] w (InsPost w) := by
  obtain ⟨h, hh⟩ : ∃ h, n * 2654435761 % 4294967296 = h := ⟨_, rfl⟩
  have hl : 0 ≤ h := by omega
  have hu : h < 4294967296 := by omega
  have m2 := u32_mask2 (x := h / 4096) (by omega) (by omega)
  obtain ⟨s, hs⟩ : ∃ s, bits .and .u32 (h / 4096) 3 = s := ⟨_, rfl⟩
  have hs0 : 0 ≤ s := by omega
  have hs1 : s ≤ 3 := by omega
  clear m2
  have m3 := i16_in (h / 512)
  obtain ⟨f, hf⟩ : ∃ f, IntKind.i16.wrap (h / 512) = f := ⟨_, rfl⟩
  rw [hf] at m3
  obtain ⟨hf0, hf1⟩ := m3
  have m4 := i32_in ((n * 40503 + h / 4) % 4294967296)
  obtain ⟨k, hkk⟩ : ∃ k, wrap32 ((n * 40503 + h / 4) % 4294967296) = k := ⟨_, rfl⟩
  rw [hkk] at m4
  obtain ⟨hk0, hk1⟩ := m4
  have HM := Lib.hid (mem_ldx s (mem4 hs0 hs1))
  go_enter Tryd.func5, Tryd.ntmps5
  go_wp2_with fail
  refine bodyPost_run rfl ?_
  simp [results, Tryd.results5, go_sem]
  refine ⟨_, _, _, _, _, ⟨?_, ?_, ?_, ?_, ?_, ?_, ?_⟩, rfl, ?_⟩
  case refine_8 => repeat (first | exact Below.refl _ _ | refine below_al (by simp <;> omega) ?_ _)
  all_goals (try omega)
  exact .inr (.inr (.inr (.inl ⟨HM.out.2.1, hk0, hk1⟩)))
set_option maxHeartbeats 4000000 in
set_option maxRecDepth 100000 in
theorem ins10 (n : Int) (w : World) (h0 : 0 ≤ n) (h1 : n < 4294967296) (hk : (n % 12 == 10) = true) :
    Calls Tryd.prog 5 #[.int .u32 n] w (InsPost w) := by
  obtain ⟨h, hh⟩ : ∃ h, n * 2654435761 % 4294967296 = h := ⟨_, rfl⟩
  have hl : 0 ≤ h := by omega
  have hu : h < 4294967296 := by omega
  have m2 := u32_mask2 (x := h / 4096) (by omega) (by omega)
  obtain ⟨s, hs⟩ : ∃ s, bits .and .u32 (h / 4096) 3 = s := ⟨_, rfl⟩
  have hs0 : 0 ≤ s := by omega
  have hs1 : s ≤ 3 := by omega
  clear m2
  have m3 := i16_in (h / 512)
  obtain ⟨f, hf⟩ : ∃ f, IntKind.i16.wrap (h / 512) = f := ⟨_, rfl⟩
  rw [hf] at m3
  obtain ⟨hf0, hf1⟩ := m3
  have m4 := i32_in ((n * 40503 + h / 4) % 4294967296)
  obtain ⟨k, hkk⟩ : ∃ k, wrap32 ((n * 40503 + h / 4) % 4294967296) = k := ⟨_, rfl⟩
  rw [hkk] at m4
  obtain ⟨hk0, hk1⟩ := m4
  have HM := Lib.hid (mem_ldx s (mem4 hs0 hs1))
  go_enter Tryd.func5, Tryd.ntmps5
  go_wp2_with fail
  refine bodyPost_run rfl ?_
  simp [results, Tryd.results5, go_sem]
  refine ⟨_, _, _, _, _, ⟨?_, ?_, ?_, ?_, ?_, ?_, ?_⟩, rfl, ?_⟩
  case refine_8 => repeat (first | exact Below.refl _ _ | refine below_al (by simp <;> omega) ?_ _)
  all_goals (try omega)
  exact .inr (.inr (.inr (.inl ⟨HM.out.2.2.1, by unfold I32; omega⟩)))

/-! Groups 6, 7: jumps without a condition, calls, the return; loads of 64 bits -/
theorem i64_or_in (a b : Int) : I64 (bits .or .i64 a b) := by
  show I64 (IntKind.i64.wrap ((BitVec.ofInt 64 a ||| BitVec.ofInt 64 b).toNat : Int))
  unfold I64
  rw [IntKind.wrap_i64]
  omega
set_option maxHeartbeats 4000000 in
set_option maxRecDepth 100000 in
theorem ins6 (n : Int) (w : World) (h0 : 0 ≤ n) (h1 : n < 4294967296) (hk : (n % 12 == 6) = true) :
    Calls Tryd.prog 5 #[.int .u32 n] w (InsPost w) := by
  obtain ⟨h, hh⟩ : ∃ h, n * 2654435761 % 4294967296 = h := ⟨_, rfl⟩
  have hl : 0 ≤ h := by omega
  have hu : h < 4294967296 := by omega
  have m2 := u32_mask2 (x := h / 4096) (by omega) (by omega)
  obtain ⟨s, hs⟩ : ∃ s, bits .and .u32 (h / 4096) 3 = s := ⟨_, rfl⟩
  have hs0 : 0 ≤ s := by omega
  have hs1 : s ≤ 3 := by omega
  clear m2
  have m3 := i16_in (h / 512)
  obtain ⟨f, hf⟩ : ∃ f, IntKind.i16.wrap (h / 512) = f := ⟨_, rfl⟩
  rw [hf] at m3
  obtain ⟨hf0, hf1⟩ := m3
  have m4 := i32_in ((n * 40503 + h / 4) % 4294967296)
  obtain ⟨k, hkk⟩ : ∃ k, wrap32 ((n * 40503 + h / 4) % 4294967296) = k := ⟨_, rfl⟩
  rw [hkk] at m4
  obtain ⟨hk0, hk1⟩ := m4
  have m5 := i64_mask28 k
  obtain ⟨g, hg⟩ : ∃ g, bits .and .i64 k 268435455 = g := ⟨_, rfl⟩
  rw [hg] at m5
  obtain ⟨hg0, hg1⟩ := m5
  go_enter Tryd.func5, Tryd.ntmps5
  go_wp2_with fail
  all_goals
    refine bodyPost_run rfl ?_
    simp [results, Tryd.results5, go_sem]
    refine ⟨_, _, _, _, _, ⟨?_, ?_, ?_, ?_, ?_, ?_, ?_⟩, rfl, ?_⟩
    case refine_8 => repeat (first | exact Below.refl _ _ | refine below_al (by simp <;> omega) ?_ _)
    all_goals (try omega)
  all_goals first
    | exact .inr (.inr (.inr (.inr (.inr (.inl ⟨rfl, rfl, rfl, rfl⟩)))))
    | exact .inr (.inr (.inr (.inr (.inr (.inr (.inl ⟨rfl, rfl, rfl, rfl, hk0, hk1⟩))))))
    | exact .inr (.inr (.inr (.inr (.inr (.inr (.inr (.inl ⟨rfl, rfl, by omega, rfl, by omega, by omega⟩)))))))
    | exact .inr (.inr (.inr (.inr (.inr (.inr (.inr (.inr (.inl ⟨rfl, rfl, rfl, rfl, rfl⟩))))))))
set_option maxHeartbeats 4000000 in
set_option maxRecDepth 100000 in
theorem ins7 (n : Int) (w : World) (h0 : 0 ≤ n) (h1 : n < 4294967296) (hk : (n % 12 == 7) = true) :
    Calls Tryd.prog 5 #[.int .u32 n] w (InsPost w) := by
  obtain ⟨h, hh⟩ : ∃ h, n * 2654435761 % 4294967296 = h := ⟨_, rfl⟩
  have hl : 0 ≤ h := by omega
  have hu : h < 4294967296 := by omega
  have m2 := u32_mask2 (x := h / 4096) (by omega) (by omega)
  obtain ⟨s, hs⟩ : ∃ s, bits .and .u32 (h / 4096) 3 = s := ⟨_, rfl⟩
  have hs0 : 0 ≤ s := by omega
  have hs1 : s ≤ 3 := by omega
  clear m2
  have m3 := i16_in (h / 512)
  obtain ⟨f, hf⟩ : ∃ f, IntKind.i16.wrap (h / 512) = f := ⟨_, rfl⟩
  rw [hf] at m3
  obtain ⟨hf0, hf1⟩ := m3
  have m4 := i32_in ((n * 40503 + h / 4) % 4294967296)
  obtain ⟨k, hkk⟩ : ∃ k, wrap32 ((n * 40503 + h / 4) % 4294967296) = k := ⟨_, rfl⟩
  rw [hkk] at m4
  obtain ⟨hk0, hk1⟩ := m4
  go_enter Tryd.func5, Tryd.ntmps5
  go_wp2_with fail
  refine bodyPost_run rfl ?_
  simp [results, Tryd.results5, go_sem]
  refine ⟨_, _, _, _, _, ⟨?_, ?_, ?_, ?_, ?_, ?_, ?_⟩, rfl, ?_⟩
  case refine_8 => repeat (first | exact Below.refl _ _ | refine below_al (by simp <;> omega) ?_ _)
  all_goals (try omega)
  exact .inr (.inr (.inr (.inr (.inr (.inr (.inr (.inr (.inr ⟨rfl, by omega, rfl, i64_or_in _ _⟩))))))))

/-! Groups 4, 5: jumps with a condition -/
theorem pickj {q : Int} (h0 : 0 ≤ q) (h1 : q < 11) : ∃ x, [Value.int .i64 1, Value.int .i64 2, Value.int .i64 3, Value.int .i64 4, Value.int .i64 5, Value.int .i64 6, Value.int .i64 7, Value.int .i64 10, Value.int .i64 11, Value.int .i64 12, Value.int .i64 13][q.toNat]? = some (Value.int .i64 x) ∧ x ∈ ([1, 2, 3, 4, 5, 6, 7, 10, 11, 12, 13] : List Int) ∧ 1 ≤ x ∧ x ≤ 13 := by
  obtain ⟨a, rfl⟩ := Int.eq_ofNat_of_zero_le h0
  have : a < 11 := by omega
  match a, this with
  | 0, _ | 1, _ | 2, _ | 3, _ | 4, _ | 5, _ | 6, _ | 7, _ | 8, _ | 9, _ | 10, _ => exact ⟨_, rfl, by decide, by decide, by decide⟩
set_option maxHeartbeats 4000000 in
set_option maxRecDepth 100000 in
theorem ins4 (n : Int) (w : World) (h0 : 0 ≤ n) (h1 : n < 4294967296) (hka : 4 ≤ n % 12) (hkb : n % 12 ≤ 5) :
    Calls Tryd.prog 5 #[.int .u32 n] w (InsPost w) := by
  obtain ⟨h, hh⟩ : ∃ h, n * 2654435761 % 4294967296 = h := ⟨_, rfl⟩
  have hl : 0 ≤ h := by omega
  have hu : h < 4294967296 := by omega
  have m2 := u32_mask2 (x := h / 4096) (by omega) (by omega)
  obtain ⟨s, hs⟩ : ∃ s, bits .and .u32 (h / 4096) 3 = s := ⟨_, rfl⟩
  have hs0 : 0 ≤ s := by omega
  have hs1 : s ≤ 3 := by omega
  clear m2
  have m3 := i16_in (h / 512)
  obtain ⟨f, hf⟩ : ∃ f, IntKind.i16.wrap (h / 512) = f := ⟨_, rfl⟩
  rw [hf] at m3
  obtain ⟨hf0, hf1⟩ := m3
  have m4 := i32_in ((n * 40503 + h / 4) % 4294967296)
  obtain ⟨k, hkk⟩ : ∃ k, wrap32 ((n * 40503 + h / 4) % 4294967296) = k := ⟨_, rfl⟩
  rw [hkk] at m4
  obtain ⟨hk0, hk1⟩ := m4
  obtain ⟨j, e1, f1, j0, j1⟩ := pickj (q := h / 16384 % 11) (by omega) (by omega)
  have m1 := u32_mask1 (x := h / 262144) (by omega) (by omega)
  obtain ⟨q18, hq18⟩ : ∃ q, bits .and .u32 (h / 262144) 1 = q := ⟨_, rfl⟩
  have hq18l : 0 ≤ q18 := by omega
  have hq18u : q18 ≤ 1 := by omega
  clear m1
  have m1 := u32_mask1 (x := h / 524288) (by omega) (by omega)
  obtain ⟨q19, hq19⟩ : ∃ q, bits .and .u32 (h / 524288) 1 = q := ⟨_, rfl⟩
  have hq19l : 0 ≤ q19 := by omega
  have hq19u : q19 ≤ 1 := by omega
  clear m1
  obtain ⟨cls, e2, f2⟩ := pick2 (a := 5) (b := 6) (q := q18) hq18l (by omega)
  have chk := condChk_all j f1 cls (by rcases f2 with rfl | rfl <;> decide) q19 (mem2 hq19l hq19u)
  simp only [condChk, Bool.and_eq_true, decide_eq_true_eq] at chk
  obtain ⟨p, hp⟩ : ∃ p, bits .or .i64 (bits .or .i64 (j * 16) cls) (q19 * 8) = p := ⟨_, rfl⟩
  rw [hp] at chk
  obtain ⟨hr, hm⟩ := chk
  have HM := Lib.hid hm
  clear hm f1 f2
  go_enter Tryd.func5, Tryd.ntmps5
  go_wp2_with fail
  all_goals
    refine bodyPost_run rfl ?_
    simp [results, Tryd.results5, go_sem]
    refine ⟨_, _, _, _, _, ⟨?_, ?_, ?_, ?_, ?_, ?_, ?_⟩, rfl, ?_⟩
    case refine_8 => repeat (first | exact Below.refl _ _ | refine below_al (by simp <;> omega) ?_ _)
    all_goals (try omega)
  all_goals exact .inr (.inr (.inl ⟨HM.out, by unfold I32; omega⟩))


/-! Group 11: atomics -/
theorem picka {q : Int} (h0 : 0 ≤ q) (h1 : q < 10) : ∃ x, [Value.int .i64 0, Value.int .i64 1, Value.int .i64 64, Value.int .i64 65, Value.int .i64 80, Value.int .i64 81, Value.int .i64 160, Value.int .i64 161, Value.int .i64 225, Value.int .i64 241][q.toNat]? = some (Value.int .i64 x) ∧ x ∈ atomCs := by
  obtain ⟨a, rfl⟩ := Int.eq_ofNat_of_zero_le h0
  have : a < 10 := by omega
  match a, this with
  | 0, _ | 1, _ | 2, _ | 3, _ | 4, _ | 5, _ | 6, _ | 7, _ | 8, _ | 9, _ => exact ⟨_, rfl, by decide⟩
/-- what a call of atomicOf leaves: one new block -/
def AtomPost (w : World) (e : Ending) (w' : World) : Prop :=
  ∃ c : Int, c ∈ atomCs ∧ e = .returned (.int .i64 c) ∧ w' = w.alloc (.cells #[.int .i64 0, .int .i64 1, .int .i64 64, .int .i64 65, .int .i64 80, .int .i64 81, .int .i64 160, .int .i64 161, .int .i64 225, .int .i64 241] 3)
set_option maxHeartbeats 4000000 in
set_option maxRecDepth 100000 in
theorem atomicOf_any (n : Int) (w : World) (h0 : 0 ≤ n) (h1 : n < 4294967296) : Calls Tryd.prog 22 #[.int .u32 n] w (AtomPost w) := by
  obtain ⟨x, e1, f1⟩ := picka (q := n % 10) (by omega) (by omega)
  have F1 := Lib.hid f1
  clear f1
  go_enter Tryd.func22, Tryd.ntmps22
  go_wp2_with fail
  go_ret
  exact ⟨_, F1.out, rfl, rfl⟩
set_option maxHeartbeats 4000000 in
set_option maxRecDepth 100000 in
theorem ins11 (n : Int) (w : World) (h0 : 0 ≤ n) (h1 : n < 4294967296) (hk : (n % 12 == 11) = true) :
    Calls Tryd.prog 5 #[.int .u32 n] w (InsPost w) := by
  obtain ⟨h, hh⟩ : ∃ h, n * 2654435761 % 4294967296 = h := ⟨_, rfl⟩
  have hl : 0 ≤ h := by omega
  have hu : h < 4294967296 := by omega
  have m2 := u32_mask2 (x := h / 4096) (by omega) (by omega)
  obtain ⟨s, hs⟩ : ∃ s, bits .and .u32 (h / 4096) 3 = s := ⟨_, rfl⟩
  have hs0 : 0 ≤ s := by omega
  have hs1 : s ≤ 3 := by omega
  clear m2
  have m3 := i16_in (h / 512)
  obtain ⟨f, hf⟩ : ∃ f, IntKind.i16.wrap (h / 512) = f := ⟨_, rfl⟩
  rw [hf] at m3
  obtain ⟨hf0, hf1⟩ := m3
  have m4 := i32_in ((n * 40503 + h / 4) % 4294967296)
  obtain ⟨k, hkk⟩ : ∃ k, wrap32 ((n * 40503 + h / 4) % 4294967296) = k := ⟨_, rfl⟩
  rw [hkk] at m4
  obtain ⟨hk0, hk1⟩ := m4
  have m1 := u32_mask1 (x := h / 16384) (by omega) (by omega)
  obtain ⟨q14, hq14⟩ : ∃ q, bits .and .u32 (h / 16384) 1 = q := ⟨_, rfl⟩
  have hq14l : 0 ≤ q14 := by omega
  have hq14u : q14 ≤ 1 := by omega
  clear m1
  go_enter Tryd.func5, Tryd.ntmps5
  go_wp2_with fail
  refine (atomicOf_any _ _ (by omega) (by omega)).mono ?_
  rintro e w1 ⟨c, hc, rfl, rfl⟩
  obtain ⟨hc0, hc1⟩ := atomCs_range c hc
  have HM := Lib.hid (atom_op q14 (mem2 hq14l hq14u) c hc)
  clear hc
  go_wp2_with fail
  refine bodyPost_run rfl ?_
  simp [results, Tryd.results5, go_sem]
  refine ⟨_, _, _, _, _, ⟨?_, ?_, ?_, ?_, ?_, ?_, ?_⟩, rfl, ?_⟩
  case refine_8 => repeat (first | exact Below.refl _ _ | refine below_al (by simp <;> omega) ?_ _)
  all_goals (try omega)
  exact .inr (.inr (.inr (.inr (.inl ⟨HM.out.1, HM.out.2.symm⟩))))

end Go.Proofs.YtobgjmgepckijaaDoor
