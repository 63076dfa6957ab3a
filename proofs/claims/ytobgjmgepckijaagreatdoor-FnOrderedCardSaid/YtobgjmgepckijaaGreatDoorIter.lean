/- Instructions.Iterate and the iterator's Next, walked. -/
import Derived.Test.YtobgjmgepckijaaGreatDoorOps
import Derived.Test.YtobgjmgepckijaaGreatDoorLists
import Derived.StillTailTactics
import Derived.Outline
namespace Go.Proofs.YtobgjmgepckijaaGreatDoor
open Go.RowKit
set_option linter.unusedVariables false
set_option linter.unusedSimpArgs false
set_option maxHeartbeats 4000000 in
set_option maxRecDepth 100000 in
theorem Iterate_any (v : Value) (w : World) (hv : ∃ A n c, v = .slice A n c) : Calls Tryz.prog 90 #[v] w fun e w' => e = .returned (.pointer (some ⟨w.heap.size, 0, none⟩)) ∧
    w.alloc (.cells #[v, .pointer none, .int .i64 0, .int .u64 0] 149) = w' := by
  obtain ⟨A, n, c, rfl⟩ := hv
  go_enter Tryz.func90, Tryz.ntmps90
  go_wp2
  go_ret
  exact ⟨rfl, rfl⟩
/-- what Next leaves: the iterator's block turned, all else as it was -/
def NextPost (w : World) (b : Nat) (r : Bool) (cs : Array Value) (e : Ending) (w' : World) : Prop :=
  e = .returned (.bool r) ∧ w'.heap[b]? = some (.cells cs 149 (0, 0)) ∧ w.grownBy w' (some b)
set_option maxHeartbeats 4000000 in
set_option maxRecDepth 100000 in
theorem Next_end (b : Nat) (A : Option Addr) (c : Nat) (p : Value) (i o : Int) (w : World) (hk : w.heap[b]? = some (.cells #[.slice A 0 c, p, .int .i64 i, .int .u64 o] 149 (0, 0))) :
    Calls Tryz.prog 91 #[.pointer (some ⟨b, 0, none⟩)] w fun e w' => e = .returned (.bool false) ∧ w = w' := by
  have c0 : w.cell? ⟨b, 0, none⟩ = some (.slice A 0 c) := cell_of_row _ _ 0 _ _ _ hk
  clear hk
  go_enter Tryz.func91, Tryz.ntmps91
  go_wp2
  go_ret
  exact ⟨rfl, rfl⟩
/-- the slice behind its first instruction -/
def stepS (g off m c : Nat) : Value := if c = 1 then .slice (some ⟨g, off, none⟩) (m - 1) 0 else .slice (some ⟨g, off + 6, none⟩) (m - 1) (c - 1)
set_option maxHeartbeats 4000000 in
set_option maxRecDepth 100000 in
theorem Next_first (b g off m c : Nat) (w : World) (hm : 0 < m) (hmc : m ≤ c) (hc : c ≤ maxLen) (hk : w.heap[b]? = some (.cells #[.slice (some ⟨g, off, none⟩) m c, .pointer none, .int .i64 0, .int .u64 0] 149 (0, 0))) :
    Calls Tryz.prog 91 #[.pointer (some ⟨b, 0, none⟩)] w (NextPost w b true #[stepS g off m c, .pointer (some ⟨g, off, none⟩), .int .i64 0, .int .u64 0]) := by
  have c0 : w.cell? ⟨b, 0, none⟩ = some (.slice (some ⟨g, off, none⟩) m c) := cell_of_row _ _ 0 _ _ _ hk
  have c1 : w.cell? ⟨b, 1, none⟩ = some (.pointer none) := cell_of_row _ _ 1 _ _ _ hk
  have c2 : w.cell? ⟨b, 2, none⟩ = some (.int .i64 0) := cell_of_row _ _ 2 _ _ _ hk
  have c3 : w.cell? ⟨b, 3, none⟩ = some (.int .u64 0) := cell_of_row _ _ 3 _ _ _ hk
  have f0 := frozen_of_row _ _ 0 _ _ hk
  have f1 := frozen_of_row _ _ 1 _ _ hk
  have f2 := frozen_of_row _ _ 2 _ _ hk
  have f3 := frozen_of_row _ _ 3 _ _ hk
  have m1 : (0 : Int) < (m : Int) := by omega
  have m2 : (m : Int) ≤ (c : Int) := by omega
  have m3 : ((m : Int) == 0) = false := by simp; omega
  have HK := Lib.hid hk
  clear hk
  unfold maxLen at hc
  by_cases h1 : c = 1
  · subst h1
    obtain rfl : m = 1 := by omega
    have h1' : stepS g off 1 1 = .slice (some ⟨g, off, none⟩) 0 0 := by simp [stepS]
    rw [h1']
    clear h1'
    go_enter Tryz.func91, Tryz.ntmps91
    go_wp2
    go_ret
    exact ⟨rfl, heap_setCell_same _ b 0 _ _ _ (heap_setCell_same w b 1 _ _ _ HK.out), grownBy_set (grownBy_set (World.grownBy.refl w _) 1 _) 0 _⟩
  · have h1' : stepS g off m c = .slice (some ⟨g, off + 6, none⟩) (m - 1) (c - 1) := by simp [stepS, h1]
    rw [h1']
    clear h1'
    go_enter Tryz.func91, Tryz.ntmps91
    go_wp2
    go_ret
    exact ⟨rfl, heap_setCell_same _ b 0 _ _ _ (heap_setCell_same w b 1 _ _ _ HK.out), grownBy_set (grownBy_set (World.grownBy.refl w _) 1 _) 0 _⟩
set_option maxHeartbeats 4000000 in
set_option maxRecDepth 100000 in
theorem Next_more (b g off m c po : Nat) (i o op : Int) (w : World) (hm : 0 < m) (hmc : m ≤ c) (hc : c ≤ maxLen) (i0 : 0 ≤ i) (i1 : i ≤ 1000) (o0 : 0 ≤ o) (o1 : o ≤ 1000) (hp : w.cell? ⟨g, po, none⟩ = some (.int .u32 op)) (hbg : b ≠ g)
    (hk : w.heap[b]? = some (.cells #[.slice (some ⟨g, off, none⟩) m c, .pointer (some ⟨g, po, none⟩), .int .i64 i, .int .u64 o] 149 (0, 0))) :
    Calls Tryz.prog 91 #[.pointer (some ⟨b, 0, none⟩)] w (NextPost w b true #[stepS g off m c, .pointer (some ⟨g, off, none⟩), .int .i64 (i + 1), .int .u64 (o + rawN op)]) := by
  have c0 : w.cell? ⟨b, 0, none⟩ = some (.slice (some ⟨g, off, none⟩) m c) := cell_of_row _ _ 0 _ _ _ hk
  have c1 : w.cell? ⟨b, 1, none⟩ = some (.pointer (some ⟨g, po, none⟩)) := cell_of_row _ _ 1 _ _ _ hk
  have c2 : w.cell? ⟨b, 2, none⟩ = some (.int .i64 i) := cell_of_row _ _ 2 _ _ _ hk
  have c3 : w.cell? ⟨b, 3, none⟩ = some (.int .u64 o) := cell_of_row _ _ 3 _ _ _ hk
  have f0 := frozen_of_row _ _ 0 _ _ hk
  have f1 := frozen_of_row _ _ 1 _ _ hk
  have f2 := frozen_of_row _ _ 2 _ _ hk
  have f3 := frozen_of_row _ _ 3 _ _ hk
  have m1 : (0 : Int) < (m : Int) := by omega
  have m2 : (m : Int) ≤ (c : Int) := by omega
  have m3 : ((m : Int) == 0) = false := by simp; omega
  have HK := Lib.hid hk
  clear hk
  unfold maxLen at hc
  have hr0 : 0 ≤ rawN op := by unfold rawN; split <;> omega
  have hr1 : rawN op ≤ 2 := by unfold rawN; split <;> omega
  go_enter Tryz.func91, Tryz.ntmps91
  go_wp2_with fail
  refine wp_gen (fun W => W.heap[b]? = some (.cells #[.slice (some ⟨g, off, none⟩) m c, .pointer (some ⟨g, po, none⟩), .int .i64 (i + 1), .int .u64 o] 149 (0, 0)) ∧ W.cell? ⟨g, po, none⟩ = some (.int .u32 op) ∧ w.grownBy W (some b)) ⟨heap_setCell_same w b 2 _ _ _ HK.out, ?_, grownBy_set (World.grownBy.refl w _) 2 _⟩ ?_
  · exact (World.cell?_setCell_other w _ _ _ (by intro e; exact hbg (congrArg Addr.block e))).trans hp
  clear c0 c1 c2 c3 f0 f1 f2 f3 HK hp
  rintro W ⟨hk, hp, hgr⟩
  refine wp_region_still_tail 16 (by kernel_rfl) (by kernel_rfl) ?_
  obtain ⟨W2, hW2⟩ : ∃ W2, ({ W with drawn := W.drawn + 1 } : World) = W2 := ⟨_, rfl⟩
  have hk2 : W2.heap[b]? = some (.cells #[.slice (some ⟨g, off, none⟩) m c, .pointer (some ⟨g, po, none⟩), .int .i64 (i + 1), .int .u64 o] 149 (0, 0)) := by rw [← hW2]; exact hk
  have hp2 : W2.cell? ⟨g, po, none⟩ = some (.int .u32 op) := by rw [← hW2]; exact hp
  have hg2 : w.grownBy W2 (some b) := by rw [← hW2]; exact grownBy_drew hgr
  rw [hW2]
  clear hW2 hk hp hgr
  have c0 : W2.cell? ⟨b, 0, none⟩ = some (.slice (some ⟨g, off, none⟩) m c) := cell_of_row _ _ 0 _ _ _ hk2
  have c1 : W2.cell? ⟨b, 1, none⟩ = some (.pointer (some ⟨g, po, none⟩)) := cell_of_row _ _ 1 _ _ _ hk2
  have c3 : W2.cell? ⟨b, 3, none⟩ = some (.int .u64 o) := cell_of_row _ _ 3 _ _ _ hk2
  have f0 := frozen_of_row _ _ 0 _ _ hk2
  have f1 := frozen_of_row _ _ 1 _ _ hk2
  have f3 := frozen_of_row _ _ 3 _ _ hk2
  have HK := Lib.hid hk2
  have q1 : IntKind.u64.wrap (rawN op) = rawN op := by simp [IntKind.wrap, IntKind.bits, IntKind.signed]; omega
  have q2 : IntKind.u64.wrap (o + rawN op) = o + rawN op := by simp [IntKind.wrap, IntKind.bits, IntKind.signed]; omega
  clear hk2
  simp only [List.take_succ_cons, List.take_zero, List.drop_succ_cons, List.drop_zero]
  repeat still_step
  still_call ((raw_any op W2).mono fun _ _ h => ⟨h.1, h.2.symm⟩)
  repeat still_step
  refine wpStill_nil ?_
  by_cases h1 : c = 1
  · subst h1
    obtain rfl : m = 1 := by omega
    have h1' : stepS g off 1 1 = .slice (some ⟨g, off, none⟩) 0 0 := by simp [stepS]
    rw [h1']
    clear h1'
    go_wp2
    go_ret
    exact ⟨rfl, heap_setCell_same _ b 0 _ _ _ (heap_setCell_same _ b 1 _ _ _ (heap_setCell_same _ b 3 _ _ _ HK.out)), grownBy_set (grownBy_set (grownBy_set hg2 3 _) 1 _) 0 _⟩
  · have h1' : stepS g off m c = .slice (some ⟨g, off + 6, none⟩) (m - 1) (c - 1) := by simp [stepS, h1]
    have H1 := Lib.hid h1'
    clear h1'
    go_wp2
    go_ret
    refine ⟨rfl, ?_, grownBy_set (grownBy_set (grownBy_set hg2 3 _) 1 _) 0 _⟩
    rw [H1.out]
    exact heap_setCell_same _ b 0 _ _ _ (heap_setCell_same _ b 1 _ _ _ (heap_setCell_same _ b 3 _ _ _ HK.out))

/-! ## The iterator after so many instructions -/
def IterSt (w : World) (b : Nat) (A : Option Addr) (c : Nat) (xs : List Itm) (k : Nat) : Prop :=
  (k = 0 ∧ w.heap[b]? = some (.cells #[.slice A xs.length c, .pointer none, .int .i64 0, .int .u64 0] 149 (0, 0))) ∨
  (0 < k ∧ ∃ g S, A = some ⟨g, 0, none⟩ ∧ (k < xs.length → S = .slice (some ⟨g, k * 6, none⟩) (xs.length - k) (c - k)) ∧ (k = xs.length → ∃ A' c', S = .slice A' 0 c') ∧
    w.heap[b]? = some (.cells #[S, .pointer (some ⟨g, (k - 1) * 6, none⟩), .int .i64 ((k - 1 : Nat) : Int), .int .u64 (start (xs.take (k - 1)))] 149 (0, 0)))
theorem rawN_places (x : Itm) : rawN x.op = places x := rfl
theorem stepS_st {g m c k : Nat} (hm : 0 < m) (hmc : m ≤ c) : (1 < m → stepS g (k * 6) m c = .slice (some ⟨g, (k + 1) * 6, none⟩) (m - 1) (c - 1)) ∧ (m = 1 → ∃ A' c', stepS g (k * 6) m c = .slice A' 0 c') := by
  unfold stepS
  refine ⟨fun h => ?_, fun h => ?_⟩
  · rw [if_neg (by omega), Nat.add_mul, Nat.one_mul]
  · subst h
    split
    · exact ⟨_, _, rfl⟩
    · exact ⟨_, _, rfl⟩
theorem IterSt.kept {w w' : World} {b : Nat} {A : Option Addr} {c k : Nat} {xs : List Itm} (h : IterSt w b A c xs k) (e : w'.heap[b]? = w.heap[b]?) : IterSt w' b A c xs k := by
  rcases h with ⟨h0, h1⟩ | ⟨h0, g, S, h1, h2, h3, h4⟩
  · exact .inl ⟨h0, e.trans h1⟩
  · exact .inr ⟨h0, g, S, h1, h2, h3, e.trans h4⟩
/-- behind a round: the index and the place -/
theorem IterSt.fields {w : World} {b : Nat} {A : Option Addr} {c k : Nat} {xs : List Itm} (h : IterSt w b A c xs (k + 1)) :
    w.cell? ⟨b, 2, none⟩ = some (.int .i64 k) ∧ w.cell? ⟨b, 3, none⟩ = some (.int .u64 (start (xs.take k))) ∧ b < w.heap.size := by
  rcases h with ⟨h0, _⟩ | ⟨_, g, S, _, _, _, h4⟩
  · omega
  · exact ⟨cell_of_row _ _ 2 _ _ _ h4, cell_of_row _ _ 3 _ _ _ h4, heap_lt h4⟩
/-- what a round of the iterator leaves -/
def NextSt (w : World) (b : Nat) (A : Option Addr) (c : Nat) (xs : List Itm) (k : Nat) (e : Ending) (w' : World) : Prop :=
  e = .returned (.bool true) ∧ IterSt w' b A c xs (k + 1) ∧ w.grownBy w' (some b)
theorem Next_st {w : World} {b B : Nat} {A : Option Addr} {c k : Nat} {xs : List Itm} (h : IterSt w b A c xs k) (hk : k < xs.length) (hlen : xs.length ≤ 100) (hc : xs.length ≤ c) (hcm : c ≤ maxLen) (ha : Asm w B A xs) (hb : B ≤ b) :
    Calls Tryz.prog 91 #[.pointer (some ⟨b, 0, none⟩)] w (NextSt w b A c xs k) := by
  rcases h with ⟨rfl, h1⟩ | ⟨h0, g, S, rfl, h2, h3, h4⟩
  · obtain ⟨g, rfl, hg, _⟩ := ha 0 (xs[0]'hk) (List.getElem?_eq_getElem hk)
    refine (Next_first b g 0 xs.length c w hk hc hcm h1).mono ?_
    rintro e w' ⟨he, hh, hgr⟩
    have hs := stepS_st (g := g) (k := 0) hk hc
    rw [Nat.zero_mul] at hs
    exact ⟨he, .inr ⟨by omega, g, _, rfl, fun h => hs.1 h, fun h => hs.2 h.symm, hh⟩, hgr⟩
  · rw [h2 hk] at h4
    obtain ⟨x, hx⟩ : ∃ x, xs[k - 1]? = some x := ⟨xs[k - 1]'(by omega), List.getElem?_eq_getElem _⟩
    obtain ⟨g', e', hg', hat⟩ := ha (k - 1) x hx
    obtain rfl : g = g' := by simpa using e'
    have hst := start_range (xs.take (k - 1))
    have hl := List.length_take_le (k - 1) xs
    refine (Next_more b g (k * 6) (xs.length - k) (c - k) ((k - 1) * 6) ((k - 1 : Nat) : Int) (start (xs.take (k - 1))) x.op w (by omega) (by omega) (by omega) (by omega) (by omega) hst.1 (by omega) hat.1 (by omega) h4).mono ?_
    rintro e w' ⟨he, hh, hgr⟩
    have hs := stepS_st (g := g) (k := k) (m := xs.length - k) (c := c - k) (by omega) (by omega)
    refine ⟨he, .inr ⟨by omega, g, _, rfl, fun h => ?_, fun h => hs.2 (by omega), ?_⟩, hgr⟩
    · rw [hs.1 (by omega), show xs.length - (k + 1) = xs.length - k - 1 by omega, show c - (k + 1) = c - k - 1 by omega]
    · rw [hh]
      have e1 : ((k - 1 : Nat) : Int) + 1 = ((k + 1 - 1 : Nat) : Int) := by omega
      have e2 : start (xs.take (k - 1)) + rawN x.op = start (xs.take (k + 1 - 1)) := by
        rw [show k + 1 - 1 = (k - 1) + 1 by omega, take_snoc' hx, start_snoc, rawN_places]
      rw [e1, e2, show k + 1 - 1 = k by omega]
theorem Next_last {w : World} {b : Nat} {A : Option Addr} {c : Nat} {xs : List Itm} (h : IterSt w b A c xs xs.length) :
    Calls Tryz.prog 91 #[.pointer (some ⟨b, 0, none⟩)] w fun e w' => e = .returned (.bool false) ∧ w = w' := by
  rcases h with ⟨h0, h1⟩ | ⟨h0, g, S, rfl, h2, h3, h4⟩
  · rw [h0] at h1
    exact Next_end b A c _ _ _ w h1
  · obtain ⟨A', c', rfl⟩ := h3 rfl
    exact Next_end b A' c' _ _ _ w h4
end Go.Proofs.YtobgjmgepckijaaGreatDoor
