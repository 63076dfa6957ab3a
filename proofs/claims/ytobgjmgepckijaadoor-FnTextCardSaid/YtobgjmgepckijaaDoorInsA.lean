/- laws.insOf, walked: the groups 0 to 2 (what is reckoned). -/
import Derived.Test.YtobgjmgepckijaaDoorIns
namespace Go.Proofs.YtobgjmgepckijaaDoor
open Go.RowKit
set_option linter.unusedVariables false
set_option linter.unusedSimpArgs false
/-! Groups 0 to 2: what is reckoned -/
set_option maxHeartbeats 4000000 in
set_option maxRecDepth 100000 in
theorem insA8 (n : Int) (w : World) (h0 : 0 ≤ n) (h1 : n < 4294967296) (hk0' : n % 12 ≤ 2) (hx : n * 2654435761 % 4294967296 / 32768 % 13 = 8) :
    Calls Tryd.prog 5 #[.int .u32 n] w (InsPost w) := by
  obtain ⟨h, hh⟩ : ∃ h, n * 2654435761 % 4294967296 = h := ⟨_, rfl⟩
  have hl : 0 ≤ h := by omega
  have hu : h < 4294967296 := by omega
  have m2 := u32_mask2 (x := h / 4096) (by omega) (by omega)
  obtain ⟨s, hs⟩ : ∃ s, bits .and .u32 (h / 4096) 3 = s := ⟨_, rfl⟩
  have hs0 : 0 ≤ s := by omega
  have hs1 : s ≤ 3 := by omega
  clear m2
  have m3 := i16_in (h / 512)
  obtain ⟨f, hf⟩ : ∃ f, IntKind.i16.wrap (h / 512) = f := ⟨_, rfl⟩
  rw [hf] at m3
  obtain ⟨hf0, hf1⟩ := m3
  have m4 := i32_in ((n * 40503 + h / 4) % 4294967296)
  obtain ⟨k, hkk⟩ : ∃ k, wrap32 ((n * 40503 + h / 4) % 4294967296) = k := ⟨_, rfl⟩
  rw [hkk] at m4
  obtain ⟨hk0, hk1⟩ := m4
  have m1 := u32_mask1 (x := h / 16384) (by omega) (by omega)
  obtain ⟨q14, hq14⟩ : ∃ q, bits .and .u32 (h / 16384) 1 = q := ⟨_, rfl⟩
  have hq14l : 0 ≤ q14 := by omega
  have hq14u : q14 ≤ 1 := by omega
  clear m1
  have m1 := u32_mask1 (x := h / 524288) (by omega) (by omega)
  obtain ⟨q19, hq19⟩ : ∃ q, bits .and .u32 (h / 524288) 1 = q := ⟨_, rfl⟩
  have hq19l : 0 ≤ q19 := by omega
  have hq19u : q19 ≤ 1 := by omega
  clear m1
  have m1 := u32_mask1 (x := h / 1048576) (by omega) (by omega)
  obtain ⟨q20, hq20⟩ : ∃ q, bits .and .u32 (h / 1048576) 1 = q := ⟨_, rfl⟩
  have hq20l : 0 ≤ q20 := by omega
  have hq20u : q20 ≤ 1 := by omega
  clear m1
  obtain ⟨cls, e1, f1⟩ := pick2 (a := 4) (b := 7) (q := q14) hq14l (by omega)
  obtain ⟨o, ho⟩ : ∃ o, h / 32768 % 13 = o := ⟨_, rfl⟩
  have ho0 : 0 ≤ o := by omega
  have ho1 : o ≤ 12 := by omega
  obtain ⟨d, hd⟩ : ∃ d, h / 2097152 % 4 = d := ⟨_, rfl⟩
  have hd0 : 0 ≤ d := by omega
  have hd1 : d ≤ 3 := by omega
  have chk := aluChk_of ho0 ho1 f1 hq19l hq19u
  simp only [aluChk, Bool.and_eq_true, decide_eq_true_eq] at chk
  obtain ⟨p, hp⟩ : ∃ p, bits .or .i64 (bits .or .i64 (o * 16) cls) (q19 * 8) = p := ⟨_, rfl⟩
  rw [hp] at chk
  obtain ⟨hr, hm⟩ := chk
  have hcls : 4 ≤ cls := by omega
  have hcls1 : cls ≤ 7 := by omega
  have HC := Lib.hid f1
  clear f1
  rw [hh, ho] at hx
  subst hx
  rw [if_pos rfl] at hm
  simp only [decide_eq_true_eq] at hm
  obtain ⟨hm, hm8⟩ := hm
  have HM := Lib.hid hm
  clear hm
  simp only [Int.reduceMul] at hp
  go_enter Tryd.func5, Tryd.ntmps5
  go_wp2_with fail
  all_goals
    refine bodyPost_run rfl ?_
    simp [results, Tryd.results5, go_sem]
    refine ⟨_, _, _, _, _, ⟨?_, ?_, ?_, ?_, ?_, ?_, ?_⟩, rfl, ?_⟩
    case refine_8 => repeat (first | exact Below.refl _ _ | refine below_al (by simp <;> omega) ?_ _)
    all_goals (try omega)
  all_goals exact .inl ⟨HM.out, rfl, by unfold I32; omega⟩
set_option maxHeartbeats 4000000 in
set_option maxRecDepth 100000 in
theorem insA39 (n : Int) (w : World) (h0 : 0 ≤ n) (h1 : n < 4294967296) (hk0' : n % 12 ≤ 2) (hx : n * 2654435761 % 4294967296 / 32768 % 13 = 3 ∨ n * 2654435761 % 4294967296 / 32768 % 13 = 9) :
    Calls Tryd.prog 5 #[.int .u32 n] w (InsPost w) := by
  obtain ⟨h, hh⟩ : ∃ h, n * 2654435761 % 4294967296 = h := ⟨_, rfl⟩
  have hl : 0 ≤ h := by omega
  have hu : h < 4294967296 := by omega
  have m2 := u32_mask2 (x := h / 4096) (by omega) (by omega)
  obtain ⟨s, hs⟩ : ∃ s, bits .and .u32 (h / 4096) 3 = s := ⟨_, rfl⟩
  have hs0 : 0 ≤ s := by omega
  have hs1 : s ≤ 3 := by omega
  clear m2
  have m3 := i16_in (h / 512)
  obtain ⟨f, hf⟩ : ∃ f, IntKind.i16.wrap (h / 512) = f := ⟨_, rfl⟩
  rw [hf] at m3
  obtain ⟨hf0, hf1⟩ := m3
  have m4 := i32_in ((n * 40503 + h / 4) % 4294967296)
  obtain ⟨k, hkk⟩ : ∃ k, wrap32 ((n * 40503 + h / 4) % 4294967296) = k := ⟨_, rfl⟩
  rw [hkk] at m4
  obtain ⟨hk0, hk1⟩ := m4
  have m1 := u32_mask1 (x := h / 16384) (by omega) (by omega)
  obtain ⟨q14, hq14⟩ : ∃ q, bits .and .u32 (h / 16384) 1 = q := ⟨_, rfl⟩
  have hq14l : 0 ≤ q14 := by omega
  have hq14u : q14 ≤ 1 := by omega
  clear m1
  have m1 := u32_mask1 (x := h / 524288) (by omega) (by omega)
  obtain ⟨q19, hq19⟩ : ∃ q, bits .and .u32 (h / 524288) 1 = q := ⟨_, rfl⟩
  have hq19l : 0 ≤ q19 := by omega
  have hq19u : q19 ≤ 1 := by omega
  clear m1
  have m1 := u32_mask1 (x := h / 1048576) (by omega) (by omega)
  obtain ⟨q20, hq20⟩ : ∃ q, bits .and .u32 (h / 1048576) 1 = q := ⟨_, rfl⟩
  have hq20l : 0 ≤ q20 := by omega
  have hq20u : q20 ≤ 1 := by omega
  clear m1
  obtain ⟨cls, e1, f1⟩ := pick2 (a := 4) (b := 7) (q := q14) hq14l (by omega)
  obtain ⟨o, ho⟩ : ∃ o, h / 32768 % 13 = o := ⟨_, rfl⟩
  have ho0 : 0 ≤ o := by omega
  have ho1 : o ≤ 12 := by omega
  obtain ⟨d, hd⟩ : ∃ d, h / 2097152 % 4 = d := ⟨_, rfl⟩
  have hd0 : 0 ≤ d := by omega
  have hd1 : d ≤ 3 := by omega
  have chk := aluChk_of ho0 ho1 f1 hq19l hq19u
  simp only [aluChk, Bool.and_eq_true, decide_eq_true_eq] at chk
  obtain ⟨p, hp⟩ : ∃ p, bits .or .i64 (bits .or .i64 (o * 16) cls) (q19 * 8) = p := ⟨_, rfl⟩
  rw [hp] at chk
  obtain ⟨hr, hm⟩ := chk
  have hcls : 4 ≤ cls := by omega
  have hcls1 : cls ≤ 7 := by omega
  have HC := Lib.hid f1
  clear f1
  rw [hh, ho] at hx
  rw [if_neg (by omega), if_pos hx] at hm
  simp only [Bool.and_eq_true, decide_eq_true_eq] at hm
  have HM : bits .or .i64 p (q20 * 256) ∈ aluOps := by
    rcases two hq20l hq20u with e | e <;> rw [e]
    · exact hm.1
    · exact hm.2
  have HM := Lib.hid HM
  clear hm
  rcases hx with rfl | rfl
  all_goals
    simp only [Int.reduceMul] at hp
    go_enter Tryd.func5, Tryd.ntmps5
    go_wp2_with fail
  all_goals
    refine bodyPost_run rfl ?_
    simp [results, Tryd.results5, go_sem]
    refine ⟨_, _, _, _, _, ⟨?_, ?_, ?_, ?_, ?_, ?_, ?_⟩, rfl, ?_⟩
    case refine_8 => repeat (first | exact Below.refl _ _ | refine below_al (by simp <;> omega) ?_ _)
    all_goals (try omega)
  all_goals exact .inl ⟨HM.out, rfl, by unfold I32; omega⟩
end Go.Proofs.YtobgjmgepckijaaDoor
