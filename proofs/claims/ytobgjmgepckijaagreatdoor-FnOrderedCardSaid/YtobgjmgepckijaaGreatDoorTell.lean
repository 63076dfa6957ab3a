/- impl.tell and impl.Unmarshal, walked. -/
import Derived.Test.YtobgjmgepckijaaGreatDoorUnmAll
import Derived.Deep.AppendLies
import Derived.Outline
namespace Go.Proofs.YtobgjmgepckijaaGreatDoor
open Go.RowKit
set_option linter.unusedVariables false
set_option linter.unusedSimpArgs false
theorem infoIns : (Tryz.prog.info? 26).map (fun i => (i.zero, i.size, i.bytes)) = some (some (.agg #[.int .i64 0, .int .i64 0, .int .i64 0, .int .i64 0, .int .i64 0, .string ⟨#[]⟩, .string ⟨#[]⟩]), 7, 72) := by kernel_rfl
theorem grown7 {w : World} {base n : Nat} {e : TypeId} {v : Value} {xs : List Itm} {k : Nat} {x : Itm} (hx : xs[k]? = some x) (h : w.ownsRow base e 7 v n (rows insRow (xs.take k) ++ insRow x)) : w.ownsRow base e 7 v n (rows insRow (xs.take (k + 1))) := by
  rw [take_snoc' hx, rows_snoc]; exact h
def TellPost (w : World) (xs : List Itm) (e : Ending) (w' : World) : Prop :=
  ∃ v, e = .returned v ∧ w'.ownsRow w.heap.size 26 7 v xs.length (rows insRow xs) ∧ Below w.heap.size w w'
theorem own_grown {w w' : World} {base size n : Nat} {e : TypeId} {v : Value} {xs : List Value} (h : w.ownsRow base e size v n xs) (hg : w.grownBy w' none) : w'.ownsRow base e size v n xs := h.kept hg (by cases hv : v.ownBlock <;> simp)
def toldP (w w' : World) : Prop := Below w.heap.size w w' ∧ w.heap.size + 4 ≤ w'.heap.size
theorem told_P (op d s off c : Int) (w : World) : w.grownBy (toldW op d s off c w) none := by
  unfold toldW
  exact grownBy_drew (grownBy_up (grownBy_up (grownBy_up (grownBy_up (World.grownBy.refl w none) _) _) _) _)
set_option maxHeartbeats 4000000 in
set_option maxRecDepth 100000 in
theorem tell_any (A : Option Addr) (xs : List Itm) (cap : Nat) (w : World) (hok : ∀ x ∈ xs, x.ok) (hlen : xs.length ≤ 100) (hlc : xs.length ≤ cap) (hcap : cap ≤ maxLen) (h : Asm w w.heap.size A xs) :
    Calls Tryz.prog 24 #[.slice A xs.length cap] w (TellPost w xs) := by
  obtain ⟨i0, hi, hz0, hz1, hz2⟩ := info_parts infoIns
  have hl1 : (xs.length : Int) ≤ 100 := by omega
  have hlc' : (xs.length : Int) ≤ (cap : Int) := by omega
  obtain ⟨n, hn⟩ : ∃ n, xs.length = n := ⟨_, rfl⟩
  rw [hn] at hl1 hlc' ⊢
  have HN := Lib.hid hn
  have HI := Lib.hid h
  clear hn h hlc hcap
  go_enter Tryz.func24, Tryz.ntmps24
  go_wp2_with fail
  go_loopw [3, 8] (fun v i wr => ∃ k : Nat, k ≤ n ∧ i = .int .i64 k ∧ wr.ownsRow w.heap.size 26 7 v k (rows insRow (xs.take k)) ∧ Below w.heap.size w wr) (fun _ i _ => n - (intOf i).toNat)
  case atStart => exact ⟨0, by omega, rfl, World.ownsRow_nil w _ _ _, Below.refl _ _⟩
  case round =>
    obtain ⟨k, hk, rfl, hown, hbr⟩ := hrel
    by_cases hlt : k < n
    · obtain ⟨x, hx⟩ : ∃ x, xs[k]? = some x := ⟨xs[k]'(by rw [HN.out]; exact hlt), List.getElem?_eq_getElem _⟩
      obtain ⟨g, rfl, hg, hat⟩ := HI.out k x hx
      obtain ⟨c0, c1, c2, c3, c4, c5⟩ := hat.below hbr hg
      have hok1 := hok x (List.mem_of_getElem? hx)
      obtain ⟨h0, h1, d0, d1, s0, s1, o0, o1⟩ : 0 ≤ x.op ∧ x.op < 131072 ∧ 0 ≤ x.dst ∧ x.dst ≤ 10 ∧ 0 ≤ x.src ∧ x.src ≤ 10 ∧ -32768 ≤ x.off ∧ x.off ≤ 32767 := ⟨Good.op0 hok1, Good.op1 hok1, hok1.dst0, hok1.dst1, hok1.src0, hok1.src1, hok1.off0, hok1.off1⟩
      have HX := Lib.hid hx
      have hlt' : (k : Int) < n := by omega
      have hk0 : (0 : Int) ≤ (k : Int) := by omega
      have hg' : g < wr.heap.size := Nat.lt_of_lt_of_le hg hbr.size
      clear hx hat hok1
      go_wp2_with fail
      refine (told_any x.op x.dst x.src x.off x.c _ h0 (by omega) d0 (by omega) s0 (by omega) o0 o1).mono ?_
      rintro e w2 ⟨rfl, hw2⟩
      have hgr : wr.grownBy w2 none := by
        rw [← hw2]
        exact grownBy_trans (World.grownBy_alloc wr _ none) (told_P _ _ _ _ _ _)
      have hown2 := own_grown hown hgr
      have hbr2 := hbr.grown hgr hbr.size (by simp)
      have hsz2 := hbr2.size
      clear hw2 hown hbr c0 c1 c2 c3 c4 c5
      go_wp2_with (
        at_builtin
        go_loud (refine wpList_append_lies _ rfl _ _ 23 rfl w.heap.size 26 i0 _ 7 72 Tryz.underlying23 hi hz0 hz1 hz2 rfl (by omega) _ k _ rfl (hown2.alloc _) ⟨w2.heap.size, 0, none⟩ 1 1 (insRow x) rfl rfl (World.news_of_block (heap_at (by simp))) (insRow_one x) (by omega) (by simp [maxLen]; omega) (by omega) (by simp; omega) _ rfl ?_)
        intro g2 gc w3 hown3 hgrow hat hlt3)
      have hb3 := below_append (hbr2.alloc hsz2 _) (hown2.alloc _) (Nat.le_refl _) (by simp; omega) hgrow
      go_roundw
      case rel => exact ⟨k + 1, by omega, by go_num, grown7 HX.out hown3, hb3⟩
      case measure => simp [intOf]; omega
    · obtain rfl : k = n := by omega
      go_wp2_with fail
      go_ret
      have hfull : xs.take k = xs := List.take_of_length_le (by rw [HN.out]; exact Nat.le_refl _)
      exact ⟨_, rfl, by rw [HN.out]; rw [hfull] at hown; exact hown, hbr⟩
def ImplUnmPost (w : World) (xs : List Itm) (e : Ending) (w' : World) : Prop :=
  ∃ v, e = .returned (.tuple #[v, .bool true]) ∧ w'.ownsRow w.heap.size 26 7 v xs.length (rows insRow xs) ∧ Below w.heap.size w w'
set_option maxHeartbeats 4000000 in
set_option maxRecDepth 100000 in
theorem ImplUnmarshal_any (big : Bool) (ad : Addr) (xs : List Itm) (c : Nat) (a : Addr) (w : World) (hok : ∀ x ∈ xs, x.ok) (hlen : xs.length ≤ 100) (hne : 0 < (encs big xs).length) (hb : ∀ j u, (byteRow (encs big xs))[j]? = some u → w.cell? (ad.add j) = some u)
    (ha : EofAt w a) (hw : 2 < w.heap.size) :
    Calls Tryz.prog 9 #[.slice (some ad) (encs big xs).length c, .bool big] w (ImplUnmPost w xs) := by
  obtain ⟨i0, hi, hz0, hz1, hz2⟩ := info_parts infoByte
  have hle := encs_len big xs
  have HB := Lib.hid hb
  obtain ⟨n, hn⟩ : ∃ n, (encs big xs).length = n := ⟨_, rfl⟩
  rw [hn] at hle hne ⊢
  have HN := Lib.hid hn
  clear hb hn
  go_enter Tryz.func9, Tryz.ntmps9
  go_wp2_with (
    at_builtin
    go_loud (refine wpList_append_lies _ rfl _ _ 28 rfl w.heap.size 5 i0 _ 1 1 Tryz.underlying28 hi hz0 hz1 hz2 rfl (by omega) _ 0 [] rfl (World.ownsRow_nil _ _ _ _) ad n c (byteRow (encs big xs)) rfl (by rw [byteRow_len, HN.out]; omega) HB.out (by simp [byteRow, Value.oneCell']) (by omega) (by simp [maxLen]; omega) (by omega) (Nat.le_refl _) _ rfl ?_)
    intro g2 gc w2 hown2 hgrow hat hlt2)
  have hgr : w.grownBy w2 none := hgrow
  have hb2 : Below w.heap.size w w2 := (Below.refl _ _).grown hgr (Nat.le_refl _) (by simp)
  have hz2 := hb2.size
  rw [Nat.zero_add, List.nil_append] at hown2
  obtain ⟨A', c', he, hnc, hcm⟩ := own_form hown2
  obtain ⟨-, rfl⟩ : A' = some ⟨g2, 0, none⟩ ∧ gc = c' := by simpa [eq_comm] using he
  have hsrc : SrcAt (w2.alloc (.cells #[.slice (some ⟨g2, 0, none⟩) n gc] 68)) w2.heap.size (encs big xs) := by
    refine ⟨some ⟨g2, 0, none⟩, gc, ?_, by rw [HN.out]; exact hnc, hcm, fun j b hj => ⟨g2, 0, rfl, hlt2, ?_⟩⟩
    · rw [HN.out]; exact heap_at rfl
    · have hlt : j < n := by rw [← HN.out]; exact (List.getElem?_eq_some_iff.1 hj).1
      rw [show (w2.alloc (.cells #[.slice (some ⟨g2, 0, none⟩) n gc] 68)).cell? ⟨g2, 0 + j, none⟩ = w2.cell? ⟨g2, 0 + j, none⟩ from World.cell?_of_block (w := w2) (Below.heap_alloc w2 _ _ hlt2), Nat.zero_add, hown2.cellAt j (by simpa using hlt)]
      simp [byteRow, hj]
  have ha2 : EofAt (w2.alloc (.cells #[.slice (some ⟨g2, 0, none⟩) n gc] 68)) a := ((hb2.alloc hz2 _).cell (p := ⟨2, 0, none⟩) hw).trans ha
  clear hgrow hat
  go_wp2_with (go_at_call 21; refine (ZZOrder_any _ _).mono ?_; rintro e w' ⟨rfl, rfl⟩)
  refine (App_any big w2.heap.size a xs _ hok hlen hsrc ha2 (by omega)).mono ?_
  rintro e w3 ⟨v, rfl, hown3, hb3⟩
  obtain ⟨A3, c3, rfl, hnc3, hcm3⟩ := own_form hown3
  have has := asm_of_own hown3
  have hb3' : Below w.heap.size w w3 := (hb2.alloc hz2 _).trans (hb3.mono hz2)
  clear hown3
  go_wp2_with fail
  refine (tell_any A3 xs c3 w3 hok hlen hnc3 hcm3 has).mono ?_
  rintro e w4 ⟨v4, rfl, hown4, hb4⟩
  go_wp2_with fail
  go_ret2
  exact ⟨_, rfl, World.ownsRow.mono hown4 hb3'.size, hb3'.trans (hb4.mono hb3'.size)⟩
end Go.Proofs.YtobgjmgepckijaaGreatDoor
