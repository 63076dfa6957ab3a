/- spec.Written, walked: a program as the reference writes it. -/
import Derived.Test.YtobgjmgepckijaaGreatDoorRef
import Derived.Test.YtobgjmgepckijaaGreatDoorMarAll
import Derived.Outline
namespace Go.Proofs.YtobgjmgepckijaaGreatDoor
open Go.RowKit
set_option linter.unusedVariables false
set_option linter.unusedSimpArgs false
theorem encB_pos (big : Bool) (x : Itm) : 0 < (encB big x).length := by
  unfold encB
  rw [List.length_append]
  cases big <;> simp [rawB, eight] <;> omega
theorem byteRow_append (a b : List Int) : byteRow (a ++ b) = byteRow a ++ byteRow b := by simp [byteRow]
/-- the elements of an owned row, as an append reads them -/
theorem own_news {w : World} {base n cap g : Nat} {e : TypeId} {xs : List Value} (h : w.ownsRow base e 1 (.slice (some ⟨g, 0, none⟩) n cap) n xs) : ∀ (j : Nat) (u : Value), xs[j]? = some u → w.cell? ((⟨g, 0, none⟩ : Addr).add j) = some u := fun j u hj => by
  have hl : xs.length = n := by have := h.1; omega
  have hlt : j < n := by rw [← hl]; exact (List.getElem?_eq_some_iff.1 hj).1
  rw [show (⟨g, 0, none⟩ : Addr).add j = ⟨g, j, none⟩ by simp [Addr.add]; omega, h.cellAt j (by omega), hj]
set_option maxHeartbeats 4000000 in
set_option maxRecDepth 100000 in
theorem Written_any (big : Bool) (A : Option Addr) (xs : List Itm) (cap : Nat) (w : World) (hok : ∀ x ∈ xs, x.ok) (hlen : xs.length ≤ 100) (hlc : xs.length ≤ cap) (hcap : cap ≤ maxLen) (h : Ins w w.heap.size A xs) :
    Calls Tryz.prog 8 #[.slice A xs.length cap, .bool big] w (EncPost w (encs big xs)) := by
  obtain ⟨i0, hi, hz0, hz1, hz2⟩ := info_parts infoByte
  have hl1 : (xs.length : Int) ≤ 100 := by omega
  have hlc' : (xs.length : Int) ≤ (cap : Int) := by omega
  obtain ⟨n, hn⟩ : ∃ n, xs.length = n := ⟨_, rfl⟩
  rw [hn] at hl1 hlc' ⊢
  have HN := Lib.hid hn
  have HI := Lib.hid h
  have HL := Lib.hid hlen
  clear hn h hlc hcap hlen
  go_enter Tryz.func8, Tryz.ntmps8
  go_wp2_with fail
  go_loopw [5, 11] (fun v i wr => ∃ k : Nat, k ≤ n ∧ i = .int .i64 k ∧ wr.ownsRow w.heap.size 5 1 v (encs big (xs.take k)).length (byteRow (encs big (xs.take k))) ∧ Below w.heap.size w wr) (fun _ i _ => n - (intOf i).toNat)
  case atStart => exact ⟨0, by omega, rfl, World.ownsRow_lit w #[] 0 (Nat.le_refl _) (by simp [maxLen]) (by simp), (Below.refl _ _).alloc (Nat.le_refl _) _⟩
  case round =>
    obtain ⟨k, hk, rfl, hown, hbr⟩ := hrel
    by_cases hlt : k < n
    · obtain ⟨x, hx⟩ : ∃ x, xs[k]? = some x := ⟨xs[k]'(by rw [HN.out]; exact hlt), List.getElem?_eq_getElem _⟩
      obtain ⟨g, rfl, hg, hat⟩ := HI.out k x hx
      obtain ⟨c0, c1, c2, c3, c4, c5, c6⟩ := hat.below hbr hg
      have hle := encs_len big (xs.take k)
      have hlk : (xs.take k).length ≤ k := List.length_take_le _ _
      have hm : (encs big (xs.take k)).length ≤ 1600 := by have := HL.out; omega
      obtain ⟨m, hm'⟩ : ∃ m, (encs big (xs.take k)).length = m := ⟨_, rfl⟩
      rw [hm'] at hown hm
      have HM := Lib.hid hm'
      obtain ⟨A1, k1, rfl, hmk, hk1⟩ := own_form hown
      have HX := Lib.hid hx
      have hlt' : (k : Int) < n := by omega
      have hk0 : (0 : Int) ≤ (k : Int) := by omega
      have hg' : g < wr.heap.size := Nat.lt_of_lt_of_le hg hbr.size
      have hpos := encB_pos big x
      have hcl := encB_len big x
      obtain ⟨q, hq⟩ : ∃ q, (encB big x).length = q := ⟨_, rfl⟩
      rw [hq] at hpos hcl
      have HQ := Lib.hid hq
      clear hx hat hle hlk hm' hq
      go_wp2_with fail
      refine (Encode_any big x _ (hok x (List.mem_of_getElem? HX.out))).mono ?_
      rintro e w2 ⟨v2, rfl, hown2, hb2⟩
      rw [HQ.out] at hown2
      obtain ⟨g2, k2, hv2, hbase2, hlt2⟩ := hown2.form (by omega)
      subst hv2
      have hbr1 : Below w.heap.size w w2 := (hbr.alloc hbr.size _).trans (hb2.mono (by have := hbr.size; simp; omega))
      have hown1 := own_below (hown.alloc _) hb2
      have hz1' := hbr1.size
      have hne : (Value.slice A1 m k1).ownBlock ≠ some g2 := fun e => by
        have := (hown.lt g2 e).2
        simp at hbase2
        omega
      clear hbr hown hb2 c0 c1 c2 c3 c4 c5 c6
      go_wp2_with (
        at_builtin
        go_loud (refine wpList_append_lies _ rfl _ _ 28 rfl w.heap.size 5 i0 _ 1 1 Tryz.underlying28 hi hz0 hz1 hz2 rfl (by omega) _ m _ rfl hown1 ⟨g2, 0, none⟩ q k2 (byteRow (encB big x)) rfl (by rw [byteRow_len, HQ.out]; omega) (own_news hown2) (by simp [byteRow, Value.oneCell']) (by omega) (by simp [maxLen]; omega) (by omega) (by omega) _ rfl ?_)
        intro g3 k3 w3 hown3 hgrow _ _)
      have hb3 := below_append hbr1 hown1 (Nat.le_refl _) (by omega) hgrow
      go_roundw
      case rel =>
        refine ⟨k + 1, by omega, by go_num, ?_, hb3⟩
        rw [take_snoc' HX.out, encs_snoc, List.length_append, HM.out, HQ.out, byteRow_append]
        exact hown3
      case measure => simp [intOf]; omega
    · obtain rfl : k = n := by omega
      go_wp2_with fail
      go_ret
      have hfull : xs.take k = xs := List.take_of_length_le (by rw [HN.out]; exact Nat.le_refl _)
      rw [hfull] at hown
      exact ⟨_, rfl, hown, hbr⟩
end Go.Proofs.YtobgjmgepckijaaGreatDoor
