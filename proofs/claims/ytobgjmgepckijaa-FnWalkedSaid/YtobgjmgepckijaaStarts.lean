/- spec.Starts, walked: where instructions begin. -/
import Derived.Test.YtobgjmgepckijaaProg
import Derived.Test.YtobgjmgepckijaaLists
import Derived.WalkKit
import Derived.KernelRfl
import Derived.WalkLawsBesides
import Derived.WalkSpells
import Derived.Lib.Hide
import Derived.Outline
namespace Go.Proofs.Ytobgjmgepckijaa
open Go.RowKit
set_option linter.unusedVariables false
set_option linter.unusedSimpArgs false
set_option maxHeartbeats 4000000 in
set_option maxRecDepth 100000 in
theorem Places_any (x : Itm) (w : World) : Calls Try.prog 20 #[.agg #[.int .i64 x.op, .int .i64 x.dst, .int .i64 x.src, .int .i64 x.off, .int .i64 x.c, .string ⟨#[]⟩, .string ⟨#[]⟩]] w fun e w' => e = .returned (.int .i64 (places x)) ∧
    w.alloc (.cells #[.int .i64 x.op, .int .i64 x.dst, .int .i64 x.src, .int .i64 x.off, .int .i64 x.c, .string ⟨#[]⟩, .string ⟨#[]⟩] 24) = w' := by
  unfold places
  cases h : (x.op == 24)
  · have h' : ¬ x.op = 24 := by simpa using h
    rw [if_neg h']
    clear h'
    go_enter Try.func20, Try.ntmps20
    go_wp2
    go_ret
    exact ⟨rfl, rfl⟩
  · have h' : x.op = 24 := by simpa using h
    rw [if_pos h']
    clear h'
    go_enter Try.func20, Try.ntmps20
    go_wp2
    go_ret
    exact ⟨rfl, rfl⟩
theorem infoInt : (Try.prog.info? 3).map (fun i => (i.zero, i.size, i.bytes)) = some (some (.int .i64 0), 1, 8) := by kernel_rfl
def StartsPost (w : World) (xs : List Itm) (e : Ending) (w' : World) : Prop :=
  ∃ v, e = .returned (.tuple #[v, .int .i64 (start xs)]) ∧ w'.ownsRow w.heap.size 3 1 v xs.length (startRow xs xs.length) ∧ Below w.heap.size w w'
set_option maxHeartbeats 4000000 in
set_option maxRecDepth 100000 in
theorem Starts_any (A : Option Addr) (xs : List Itm) (cap : Nat) (w : World) (hlen : xs.length ≤ 100) (hlc : xs.length ≤ cap) (hcap : cap ≤ maxLen) (h : Ins w w.heap.size A xs) :
    Calls Try.prog 12 #[.slice A xs.length cap] w (StartsPost w xs) := by
  obtain ⟨i0, hi, hz0, hz1, hz2⟩ := info_parts infoInt
  have hl1 : (xs.length : Int) ≤ 100 := by omega
  have hlc' : (xs.length : Int) ≤ (cap : Int) := by omega
  obtain ⟨n, hn⟩ : ∃ n, xs.length = n := ⟨_, rfl⟩
  rw [hn] at hl1 hlc' ⊢
  have HN := Lib.hid hn
  have HI := Lib.hid h
  clear hn h hlc hcap
  go_enter Try.func12, Try.ntmps12
  go_wp2_with fail
  go_loopw [4, 5, 11] (fun v s i wr => ∃ k : Nat, k ≤ n ∧ i = .int .i64 k ∧ s = .int .i64 (start (xs.take k)) ∧ wr.ownsRow w.heap.size 3 1 v k (startRow xs k) ∧ Below w.heap.size w wr) (fun _ _ i _ => n - (intOf i).toNat)
  case atStart => exact ⟨0, by omega, rfl, rfl, World.ownsRow_lit w #[] 0 (Nat.le_refl _) (by simp [maxLen]) (by simp), (Below.refl _ _).alloc (Nat.le_refl _) _⟩
  case round =>
    obtain ⟨k, hk, rfl, rfl, hown, hbr⟩ := hrel
    by_cases hlt : k < n
    · obtain ⟨x, hx⟩ : ∃ x, xs[k]? = some x := ⟨xs[k]'(by rw [HN.out]; exact hlt), List.getElem?_eq_getElem _⟩
      obtain ⟨g, rfl, hg, hat⟩ := HI.out k x hx
      obtain ⟨c0, c1, c2, c3, c4, c5, c6⟩ := hat.below hbr hg
      have HX := Lib.hid hx
      have hlt' : (k : Int) < n := by omega
      have hk0 : (0 : Int) ≤ (k : Int) := by omega
      have hg' : g < wr.heap.size := Nat.lt_of_lt_of_le hg hbr.size
      clear hx hat
      go_wp2_with (first
        | (at_builtin; refine wpList_append_lies _ rfl _ _ 34 rfl w.heap.size 3 i0 _ 1 8 Try.underlying34 hi hz0 hz1 hz2 rfl (by omega) _ k _ rfl ((hown.alloc _).alloc _) ⟨wr.heap.size + 1, 0, none⟩ 1 1 [.int .i64 (start (xs.take k))] rfl rfl (World.news_of_block (heap_at (by simp))) (by simp [Value.oneCell']) (by omega) (by simp [maxLen]; omega) (by omega) (by have := hbr.size; simp; omega) _ rfl ?_; intro g2 gc w2 hown2 hgrow _ _; obtain ⟨t0, t1, t2, t3, t4, t5, t6⟩ := blk7_of (x := x) (grown_new (fun k hk => (hown.lt k hk).2) hgrow (heap_up (heap_at rfl))))
        | (go_at_call 20; refine (Places_any x _).mono ?_; rintro e w' ⟨rfl, rfl⟩))
      have hbr2 := below_append ((hbr.alloc hbr.size _).alloc (by have := hbr.size; simp; omega) _) ((hown.alloc _).alloc _) (Nat.le_refl _) (by have := hbr.size; simp; omega) hgrow
      go_roundw
      case rel =>
        refine ⟨k + 1, by omega, by go_num, by rw [wrap_start HX.out (by omega)], ?_, below_up (by have := hbr2.size; omega) hbr2 _⟩
        rw [startRow_succ]
        exact hown2.alloc _
      case measure => simp [intOf]; omega
    · obtain rfl : k = n := by omega
      go_wp2_with fail
      go_ret2
      have hfull : xs.take k = xs := List.take_of_length_le (by rw [HN.out]; exact Nat.le_refl _)
      rw [hfull] at *
      exact ⟨_, rfl, by rw [HN.out]; exact hown, hbr⟩
end Go.Proofs.Ytobgjmgepckijaa
