/- Instructions.encodeFunctionReferences over instructions without symbols and references, walked. -/
import Derived.Test.YtobgjmgepckijaaGreatDoorAll
import Derived.Test.YtobgjmgepckijaaGreatDoorIter
import Derived.Deep.LoopGhost
import Derived.Outline
namespace Go.Proofs.YtobgjmgepckijaaGreatDoor
open Go.RowKit
set_option linter.unusedVariables false
set_option linter.unusedSimpArgs false
theorem IterSt.ins {w : World} {b : Nat} {A : Option Addr} {c k : Nat} {xs : List Itm} (h : IterSt w b A c xs (k + 1)) :
    ∃ g, A = some ⟨g, 0, none⟩ ∧ w.cell? ⟨b, 1, none⟩ = some (.pointer (some ⟨g, k * 6, none⟩)) := by
  rcases h with ⟨h0, _⟩ | ⟨_, g, S, hA, _, _, h4⟩
  · omega
  · exact ⟨g, hA, cell_of_row _ _ 1 _ _ _ h4⟩
def RefsPost (w : World) (e : Ending) (w' : World) : Prop := e = .returned .nilIface ∧ Below w.heap.size w w'
set_option maxHeartbeats 4000000 in
set_option maxRecDepth 100000 in
theorem Refs_any (A : Option Addr) (xs : List Itm) (cap : Nat) (w : World) (hok : ∀ x ∈ xs, x.ok) (hlen : xs.length ≤ 100) (hlc : xs.length ≤ cap) (hcap : cap ≤ maxLen) (h : Asm w w.heap.size A xs) :
    Calls Tryz.prog 53 #[.slice A xs.length cap] w (RefsPost w) := by
  have hmm : ∀ w : World, Sem.run Tryz.prog (Instr.makeMap 143 none) w = .ok (.map (some w.heap.size)) (w.alloc (.map #[] 0)) := fun _ => rfl
  go_enter Tryz.func53, Tryz.ntmps53
  go_wp2_with (go_at_call 90; refine (Iterate_any _ _ ⟨_, _, _, rfl⟩).mono ?_; rintro e w' ⟨rfl, rfl⟩)
  go_loopg [] (xs.length + 1) (fun m wr => ∃ k : Nat, k ≤ xs.length ∧ m = xs.length + 1 - k ∧ IterSt wr (w.heap.size + 1) A cap xs k ∧ Below w.heap.size w wr)
  case atStart =>
    exact ⟨0, by omega, by omega, .inl ⟨rfl, heap_at (by simp)⟩, ((Below.refl _ _).alloc (Nat.le_refl _) _).alloc (by simp) _⟩
  case round =>
    obtain ⟨k, hk, rfl, hst, hbr⟩ := hrel
    by_cases hlt : k < xs.length
    · go_wp2_with fail
      have har := h.below hbr
      refine (Next_st hst hlt hlen hlc hcap har (by omega)).mono ?_
      rintro e w2 ⟨rfl, hst2, hgr⟩
      have har2 := asm_grown har hgr (fun k' e => by simp at e; omega)
      have hbr2 := hbr.grown hgr hbr.size (fun k' e => by simp at e; omega)
      obtain ⟨x, hx⟩ : ∃ x, xs[k]? = some x := ⟨xs[k]'hlt, List.getElem?_eq_getElem hlt⟩
      obtain ⟨g, hA, c1⟩ := hst2.ins
      obtain ⟨g', hA', hg', hat⟩ := har2 k x hx
      obtain rfl : g = g' := by rw [hA] at hA'; simpa using hA'
      obtain ⟨a0, a1, a2, a3, a4, a5⟩ := hat
      have hz2 := (hst2.fields).2.2
      have HX := Lib.hid hx
      clear hst hbr har hgr hA hA' hx
      go_wp2_with (go_at_call 60; refine (Symbol_nil _ _ _ _ _ _).mono ?_; rintro e w' ⟨rfl, rfl⟩)
      go_roundg (xs.length + 1 - (k + 1))
      case measure => omega
      case rel => exact ⟨k + 1, by omega, rfl, hst2.kept (Below.heap_alloc _ _ _ hz2), hbr2.alloc hbr2.size _⟩
    · obtain rfl : k = xs.length := by omega
      go_wp2_with (first | (go_at_call 91; refine (Next_last hst).mono ?_; rintro e w' ⟨rfl, rfl⟩) | (go_at_call 90; refine (Iterate_any _ _ ⟨_, _, _, rfl⟩).mono ?_; rintro e w' ⟨rfl, rfl⟩))
      have hbr' := hbr.alloc hbr.size (.cells #[.slice A xs.length cap, .pointer none, .int .i64 0, .int .u64 0] 149)
      have hz := hbr.size
      go_loopg [] (xs.length + 1) (fun m wq => ∃ k : Nat, k ≤ xs.length ∧ m = xs.length + 1 - k ∧ IterSt wq wr.heap.size A cap xs k ∧ Below w.heap.size w wq)
      case atStart =>
        exact ⟨0, by omega, by omega, .inl ⟨rfl, heap_at rfl⟩, hbr'⟩
      case round =>
        obtain ⟨k, hk, rfl, hst, hbr⟩ := hrel
        by_cases hlt : k < xs.length
        · go_wp2_with fail
          have har := h.below hbr
          refine (Next_st hst hlt hlen hlc hcap har (by omega)).mono ?_
          rintro e w2 ⟨rfl, hst2, hgr⟩
          have har2 := asm_grown har hgr (fun k' e => by simp at e; omega)
          have hbr2 := hbr.grown hgr hbr.size (fun k' e => by simp at e; omega)
          obtain ⟨x, hx⟩ : ∃ x, xs[k]? = some x := ⟨xs[k]'hlt, List.getElem?_eq_getElem hlt⟩
          obtain ⟨g, hA, c1⟩ := hst2.ins
          obtain ⟨c2, c3, hz2⟩ := hst2.fields
          obtain ⟨g', hA', hg', hat⟩ := har2 k x hx
          obtain rfl : g = g' := by rw [hA] at hA'; simpa using hA'
          obtain ⟨a0, a1, a2, a3, a4, a5⟩ := hat
          have HX := Lib.hid hx
          clear hst hbr har hgr hA hA' hx c2
          go_wp2_with (go_at_call 61; refine (Reference_nil _ _ _ _ _ _).mono ?_; rintro e w' ⟨rfl, rfl⟩)
          go_roundg (xs.length + 1 - (k + 1))
          case measure => omega
          case rel => exact ⟨k + 1, by omega, rfl, hst2.kept (Below.heap_alloc _ _ _ hz2), hbr2.alloc hbr2.size _⟩
        · obtain rfl : k = xs.length := by omega
          go_wp2_with (go_at_call 91; refine (Next_last hst).mono ?_; rintro e w' ⟨rfl, rfl⟩)
          go_ret
          exact ⟨rfl, hbr⟩
end Go.Proofs.YtobgjmgepckijaaGreatDoor
