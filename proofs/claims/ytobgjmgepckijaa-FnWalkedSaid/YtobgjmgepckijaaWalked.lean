/- impl.Walked, walked: the index of each instruction and its place. -/
import Derived.Test.YtobgjmgepckijaaAll
import Derived.Test.YtobgjmgepckijaaIter
import Derived.Deep.RegionHeld3
import Derived.Deep.LoopGhost
import Derived.Deep.Onto
import Derived.Deep.AppendLies
import Derived.Outline
namespace Go.Proofs.Ytobgjmgepckijaa
open Go.RowKit
set_option linter.unusedVariables false
set_option linter.unusedSimpArgs false
theorem infoPair : (Try.prog.info? 39).map (fun i => (i.zero, i.size, i.bytes)) = some (some (.agg #[.int .i64 0, .int .i64 0]), 2, 16) := by kernel_rfl
def WalkedPost (w : World) (xs : List Itm) (e : Ending) (w' : World) : Prop :=
  ∃ v, e = .returned v ∧ w'.ownsRow w.heap.size 39 2 v xs.length (pairRow xs xs.length) ∧ Below w.heap.size w w'
set_option maxHeartbeats 4000000 in
set_option maxRecDepth 100000 in
theorem Walked_any (A : Option Addr) (xs : List Itm) (cap : Nat) (w : World) (hok : ∀ x ∈ xs, x.ok) (hlen : xs.length ≤ 100) (hlc : xs.length ≤ cap) (hcap : cap ≤ maxLen) (h : Ins w w.heap.size A xs) :
    Calls Try.prog 13 #[.slice A xs.length cap] w (WalkedPost w xs) := by
  obtain ⟨i0, hi, hz0, hz1, hz2⟩ := info_parts infoPair
  go_enter Try.func13, Try.ntmps13
  go_wp2_with fail
  refine (all_any A xs cap w hok hlen hlc hcap h).mono ?_
  rintro e w1 ⟨v, rfl, hown, hb1⟩
  obtain ⟨A2, c2, rfl, hc2, hm2⟩ := own_form hown
  have ha := asm_of_own hown
  clear hown h hlc hcap
  go_wp2_with (go_at_call 22; refine (Iterate_any _ _ ⟨_, _, _, rfl⟩).mono ?_; rintro e w' ⟨rfl, rfl⟩)
  have hz1' : w.heap.size ≤ w1.heap.size := hb1.size
  go_loopg [5] (xs.length + 1) (fun m v wr => ∃ k : Nat, k ≤ xs.length ∧ m = xs.length + 1 - k ∧ wr.ownsRow (w1.heap.size + 1) 39 2 v k (pairRow xs k) ∧ IterSt wr w1.heap.size A2 c2 xs k ∧ Asm wr w1.heap.size A2 xs ∧ Below w.heap.size w wr)
  case atStart =>
    exact ⟨0, by omega, by omega, World.ownsRow_nil _ _ _ _, .inl ⟨rfl, heap_at rfl⟩, ha.below ((Below.refl _ _).alloc (Nat.le_refl _) _), hb1.alloc hb1.size _⟩
  case round =>
    obtain ⟨k, hk, rfl, hown, hst, har, hbr⟩ := hrel
    have hlo := fun g => hown.lt g
    have hne : u5.ownBlock ≠ some w1.heap.size := fun e => by have := (hlo _ e).1; omega
    by_cases hlt : k < xs.length
    · go_wp2_with fail
      refine (Next_st hst hlt hlen hc2 hm2 har (Nat.le_refl _)).mono ?_
      rintro e w2 ⟨rfl, hst2, hgr⟩
      have hown2 := hown.kept hgr (.inr hne)
      have har2 := asm_kept har hgr
      have hbr2 := hbr.grown hgr hbr.size (fun _ h => by simp at h; omega)
      obtain ⟨c2', c3', hbz⟩ := hst2.fields
      obtain ⟨q0, q1⟩ := start_range (xs.take k)
      have hlk := List.length_take_le k xs
      have q3 : IntKind.i64.wrap (start (xs.take k)) = start (xs.take k) := by rw [IntKind.wrap_i64]; omega
      have HL := Lib.hid hlk
      clear hst har hgr hown hbr hlk
      go_wp2_with fail
      go_region_held3 (fun w' => w'.cell? ⟨w1.heap.size, 2, none⟩ = some (.int .i64 k) ∧ w'.cell? ⟨w1.heap.size, 3, none⟩ = some (.int .u64 (start (xs.take k))))
        (first
          | go_keep
          | (go_split_ands
             refine ⟨?_, ?_⟩
             · (rw [hgrow.cell_far _ (by simp; omega) (Ne.symm hne)]; assumption)
             · (rw [hgrow.cell_far _ (by simp; omega) (Ne.symm hne)]; assumption)))
        ((refine step_append_lies _ (by rfl) _ _ _ (by rfl) (w1.heap.size + 1) 39 i0 _ 2 16 Try.underlying37 hi hz0 hz1 hz2 rfl (by omega) _ k _ (by rfl) ((hown2.alloc _).drew)
            ⟨w2.heap.size, 0, none⟩ 1 1 [.int .i64 k, .int .i64 (start (xs.take k))] (by rfl) (by rfl) (World.news_of_block (cs := #[.int .i64 k, .int .i64 (start (xs.take k))]) (t := 39) (fr := (0, 0)) (heap_alloc_new w2 _)) (by simp [Value.oneCell'])
            (by omega) (by simp [maxLen]; omega) (by omega) (by simp; omega) (w2.heap.size + 1) (by simp) ?_; intro gg gc w3 hown3 hgrow hat hlt3))
      go_wp2_with fail
      have hgr' : w2.grownBy w3 u5.ownBlock := grownBy_trans (grownBy_drew (World.grownBy_alloc w2 _ _)) hgrow
      go_roundg (xs.length + 1 - (k + 1))
      case measure => omega
      case rel =>
        exact ⟨k + 1, by omega, rfl, hown3, hst2.kept (hgr'.block _ hbz (Ne.symm hne)), asm_grown har2 hgr' (fun g e => by have := (hlo g e).1; omega), hbr2.grown hgr' hbr2.size (fun g e => by have := (hlo g e).1; omega)⟩
    · obtain rfl : k = xs.length := by omega
      go_wp2_with (go_at_call 23; refine (Next_last hst).mono ?_; rintro e w' ⟨rfl, rfl⟩)
      go_ret
      exact ⟨_, rfl, hown.mono (by omega), hbr⟩
end Go.Proofs.Ytobgjmgepckijaa
