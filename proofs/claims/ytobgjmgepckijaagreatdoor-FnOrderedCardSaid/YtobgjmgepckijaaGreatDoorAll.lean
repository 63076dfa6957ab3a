/- impl.all, walked: instructions for the package. -/
import Derived.Test.YtobgjmgepckijaaGreatDoorImpl
import Derived.Test.YtobgjmgepckijaaGreatDoorLists
import Derived.Outline
namespace Go.Proofs.YtobgjmgepckijaaGreatDoor
open Go.RowKit
set_option linter.unusedVariables false
set_option linter.unusedSimpArgs false
theorem infoAsm : (Tryz.prog.info? 79).map (fun i => (i.zero, i.size, i.bytes)) = some (some (.agg #[.int .u32 0, .int .u8 0, .int .u8 0, .int .i16 0, .int .i64 0, .pointer none]), 6, 24) := by kernel_rfl
def AllPost (w : World) (xs : List Itm) (e : Ending) (w' : World) : Prop :=
  ∃ v, e = .returned (.tuple #[v, .bool true]) ∧ w'.ownsRow w.heap.size 79 6 v xs.length (rows asmRow xs) ∧ Below w.heap.size w w'
theorem grown6 {w : World} {base n : Nat} {e : TypeId} {v : Value} {xs : List Itm} {k : Nat} {x : Itm} (hx : xs[k]? = some x) (h : w.ownsRow base e 6 v n (rows asmRow (xs.take k) ++ asmRow x)) : w.ownsRow base e 6 v n (rows asmRow (xs.take (k + 1))) := by
  rw [take_snoc' hx, rows_snoc]; exact h
set_option maxHeartbeats 4000000 in
set_option maxRecDepth 100000 in
theorem all_any (A : Option Addr) (xs : List Itm) (cap : Nat) (w : World) (hok : ∀ x ∈ xs, x.ok) (hlen : xs.length ≤ 100) (hlc : xs.length ≤ cap) (hcap : cap ≤ maxLen) (h : Ins w w.heap.size A xs) :
    Calls Tryz.prog 19 #[.slice A xs.length cap] w (AllPost w xs) := by
  obtain ⟨i0, hi, hz0, hz1, hz2⟩ := info_parts infoAsm
  have hl1 : (xs.length : Int) ≤ 100 := by omega
  have hlc' : (xs.length : Int) ≤ (cap : Int) := by omega
  obtain ⟨n, hn⟩ : ∃ n, xs.length = n := ⟨_, rfl⟩
  rw [hn] at hl1 hlc' ⊢
  have HN := Lib.hid hn
  have HI := Lib.hid h
  clear hn h hlc hcap
  go_enter Tryz.func19, Tryz.ntmps19
  go_wp2_with fail
  go_loopw [4, 9] (fun v i wr => ∃ k : Nat, k ≤ n ∧ i = .int .i64 k ∧ wr.ownsRow w.heap.size 79 6 v k (rows asmRow (xs.take k)) ∧ Below w.heap.size w wr) (fun _ i _ => n - (intOf i).toNat)
  case atStart => exact ⟨0, by omega, rfl, World.ownsRow_nil w _ _ _, Below.refl _ _⟩
  case round =>
    obtain ⟨k, hk, rfl, hown, hbr⟩ := hrel
    by_cases hlt : k < n
    · obtain ⟨x, hx⟩ : ∃ x, xs[k]? = some x := ⟨xs[k]'(by rw [HN.out]; exact hlt), List.getElem?_eq_getElem _⟩
      obtain ⟨g, rfl, hg, hat⟩ := HI.out k x hx
      obtain ⟨c0, c1, c2, c3, c4, c5, c6⟩ := hat.below hbr hg
      have hok1 := hok x (List.mem_of_getElem? hx)
      obtain ⟨h0, h1, d0, d1, s0, s1, o0, o1⟩ : 0 ≤ x.op ∧ x.op < 131072 ∧ 0 ≤ x.dst ∧ x.dst ≤ 10 ∧ 0 ≤ x.src ∧ x.src ≤ 10 ∧ -32768 ≤ x.off ∧ x.off ≤ 32767 := ⟨Good.op0 hok1, Good.op1 hok1, hok1.dst0, hok1.dst1, hok1.src0, hok1.src1, hok1.off0, hok1.off1⟩
      have HX := Lib.hid hx
      have hlt' : (k : Int) < n := by omega
      have hk0 : (0 : Int) ≤ (k : Int) := by omega
      have hg' : g < wr.heap.size := Nat.lt_of_lt_of_le hg hbr.size
      clear hx hat hok1
      go_wp2_with (first
        | (go_at_call 46; refine (fits_any _ _ _ _ _ _ _ _ h0 h1 d0 d1 s0 s1 o0 o1).mono ?_; rintro e w' ⟨rfl, rfl⟩)
        | (go_at_call 47; refine (implInsOf_any _ _ _ _ _ _ h0 h1 d0 d1 s0 s1 o0 o1).mono ?_; rintro e w' ⟨rfl, rfl⟩)
        | (at_builtin; go_loud (refine wpList_append_lies _ rfl _ _ 52 rfl w.heap.size 79 i0 _ 6 24 Tryz.underlying52 hi hz0 hz1 hz2 rfl (by omega) _ k _ rfl ((((((hown.alloc _).alloc _).alloc _).alloc _).alloc _).alloc _) ⟨wr.heap.size + 5, 0, none⟩ 1 1 (asmRow x) rfl rfl (World.news_of_block (heap_at (by simp))) (asmRow_one x) (by omega) (by simp [maxLen]; omega) (by omega) (by have := hbr.size; simp; omega) _ rfl ?_); intro g2 gc w2 hown2 hgrow _ _))
      have hbr2 := below_append ((((((hbr.alloc hbr.size _).alloc (by have := hbr.size; simp; omega) _).alloc (by have := hbr.size; simp; omega) _).alloc (by have := hbr.size; simp; omega) _).alloc (by have := hbr.size; simp; omega) _).alloc (by have := hbr.size; simp; omega) _) ((((((hown.alloc _).alloc _).alloc _).alloc _).alloc _).alloc _) (Nat.le_refl _) (by have := hbr.size; simp; omega) hgrow
      go_roundw
      case rel => exact ⟨k + 1, by omega, by go_num, grown6 HX.out hown2, hbr2⟩
      case measure => simp [intOf]; omega
    · obtain rfl : k = n := by omega
      go_wp2_with fail
      go_ret2
      have hfull : xs.take k = xs := List.take_of_length_le (by rw [HN.out]; exact Nat.le_refl _)
      exact ⟨_, rfl, by rw [HN.out]; rw [hfull] at hown; exact hown, hbr⟩
end Go.Proofs.YtobgjmgepckijaaGreatDoor
