/- impl.Unmarshal at the bytes of any list of instructions, none too. -/
import Derived.Test.YtobgjmgepckijaaGreatDoorTell
import Derived.Test.YtobgjmgepckijaaGreatDoorWritten
import Derived.Outline
namespace Go.Proofs.YtobgjmgepckijaaGreatDoor
open Go.RowKit
set_option linter.unusedVariables false
set_option linter.unusedSimpArgs false
set_option maxHeartbeats 4000000 in
set_option maxRecDepth 100000 in
theorem ImplUnmarshal_nil (big : Bool) (A : Option Addr) (c : Nat) (a : Addr) (w : World) (hcm : c ≤ maxLen) (ha : EofAt w a) (hw : 2 < w.heap.size) :
    Calls Tryz.prog 9 #[.slice A 0 c, .bool big] w (ImplUnmPost w []) := by
  have hsrc : SrcAt (w.alloc (.cells #[.slice none 0 0] 68)) w.heap.size (encs big []) :=
    ⟨none, 0, heap_at rfl, Nat.le_refl _, by simp [maxLen], fun j b hj => by simp [encs] at hj⟩
  have ha2 : EofAt (w.alloc (.cells #[.slice none 0 0] 68)) a := (((Below.refl w.heap.size w).alloc (Nat.le_refl _) _).cell (p := ⟨2, 0, none⟩) hw).trans ha
  cases A
  all_goals
    go_enter Tryz.func9, Tryz.ntmps9
    go_wp2_with (go_at_call 21; refine (ZZOrder_any _ _).mono ?_; rintro e w' ⟨rfl, rfl⟩)
    refine (App_any big w.heap.size a [] _ (fun x h => by cases h) (by simp) hsrc ha2 hw).mono ?_
    rintro e w3 ⟨v, rfl, hown3, hb3⟩
    obtain ⟨A3, c3, rfl, hnc3, hcm3⟩ := own_form hown3
    have has := asm_of_own hown3
    have hb3' : Below w.heap.size w w3 := ((Below.refl _ _).alloc (Nat.le_refl _) _).trans (hb3.mono (Nat.le_refl _))
    clear hown3
    go_wp2_with fail
    refine (tell_any A3 [] c3 w3 (fun x h => by cases h) (by simp) hnc3 hcm3 has).mono ?_
    rintro e w4 ⟨v4, rfl, hown4, hb4⟩
    go_wp2_with fail
    go_ret2
    exact ⟨_, rfl, World.ownsRow.mono hown4 hb3'.size, hb3'.trans (hb4.mono hb3'.size)⟩
theorem encs_pos (big : Bool) {xs : List Itm} (h : xs ≠ []) : 0 < (encs big xs).length := by
  cases xs with
  | nil => exact absurd rfl h
  | cons y r =>
    have := encB_pos big y
    simp only [encs, List.length_append]; omega
theorem ImplUnmarshal_own (big : Bool) (A : Option Addr) (xs : List Itm) (c base : Nat) (a : Addr) (w : World) (hok : ∀ x ∈ xs, x.ok) (hlen : xs.length ≤ 100)
    (hown : w.ownsRow base 5 1 (.slice A (encs big xs).length c) (encs big xs).length (byteRow (encs big xs))) (ha : EofAt w a) (hw : 2 < w.heap.size) :
    Calls Tryz.prog 9 #[.slice A (encs big xs).length c, .bool big] w (ImplUnmPost w xs) := by
  by_cases hx : xs = []
  · subst hx
    obtain ⟨A', c', e, _, hcm⟩ := own_form hown
    obtain ⟨rfl, rfl⟩ : A = A' ∧ c = c' := by simpa using e
    exact ImplUnmarshal_nil big A c a w hcm ha hw
  · have hp := encs_pos big hx
    obtain ⟨g, c', hv, _, _⟩ := hown.form hp
    obtain ⟨rfl, rfl⟩ : A = some ⟨g, 0, none⟩ ∧ c = c' := by simpa using hv
    exact ImplUnmarshal_any big ⟨g, 0, none⟩ xs c a w hok hlen hp (own_news hown) ha hw
end Go.Proofs.YtobgjmgepckijaaGreatDoor
