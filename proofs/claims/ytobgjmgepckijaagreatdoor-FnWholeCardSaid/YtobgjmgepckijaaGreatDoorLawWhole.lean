/- laws.FnWhole returns true at every list: instructions are written as the reference tells, and read again, in both orders of bytes. -/
import Derived.Test.YtobgjmgepckijaaGreatDoorUnmOwn
import Derived.Test.YtobgjmgepckijaaGreatDoorInsB
import Derived.Laws.BytesArg
import Derived.Deep.RegionHeld
import Derived.Shelf.Bytes.SlSmallAll
import Derived.BigQuiet
import Derived.RegionTactic
import Derived.Outline
namespace Go.Proofs.YtobgjmgepckijaaGreatDoor.fnWhole
open Go.RowKit
set_option linter.unusedVariables false
set_option linter.unusedSimpArgs false
theorem info7 : (Tryz.prog.info? 26).map (fun i => (i.zero, i.size, i.bytes)) = some (some (.agg #[.int .i64 0, .int .i64 0, .int .i64 0, .int .i64 0, .int .i64 0, .string ⟨#[]⟩, .string ⟨#[]⟩]), 7, 72) := by kernel_rfl
/-- the row after so many rounds -/
theorem grown_row {w : World} {base n : Nat} {e : TypeId} {v : Value} {xs : List Itm} {x : Itm} (h : w.ownsRow base e 7 v (n + 1) (rows insRow xs ++ insRow x)) : w.ownsRow base e 7 v (n + 1) (rows insRow (xs ++ [x])) := by
  rw [rows_snoc]; exact h
/-- the text of a slice's bytes, kept shut -/
noncomputable def convR (A : Option Addr) (n k : Nat) (w : World) : Result Value := (convert 28 9 (.slice A n k)).run Tryz.prog w
theorem convR_eq (A : Option Addr) (n k : Nat) (w : World) : (convert 28 9 (.slice A n k)).run Tryz.prog w = convR A n k w := rfl
theorem conv_own {w : World} {base n cap : Nat} {A : Option Addr} {bs : List Int} (h : w.ownsRow base 5 1 (.slice A n cap) n (byteRow bs)) : convR A n cap w = .ok (.string (strOfNums bs)) w := by
  have hl : bs.length = n := by have := h.1; rw [byteRow_len] at this; omega
  by_cases hn : n = 0
  · subst hn
    obtain rfl : bs = [] := List.eq_nil_of_length_eq_zero hl
    exact run_convert_bytes_zero w 28 5 Tryz.underlying28 Tryz.underlying5 A cap 9 Tryz.underlying9
  · obtain ⟨g, c', hv, _, _⟩ := h.form (by omega)
    obtain ⟨rfl, rfl⟩ : A = some ⟨g, 0, none⟩ ∧ cap = c' := by simpa using hv
    refine run_convert_bytes_arg w 28 5 Tryz.underlying28 Tryz.underlying5 g 0 n cap bs hl (fun i hi => ?_) 9 Tryz.underlying9
    rw [Nat.zero_add, h.cellAt i (by omega)]
    simp only [byteRow, List.getElem?_map, List.getElem?_eq_getElem (show i < bs.length by omega), Option.map_some, List.getD, Option.getD_some]
def Arg (w : World) (A : Option Addr) (len : Nat) (zs : Nat → Int) : Prop :=
  ∀ k, k < len → ∃ b off, A = some ⟨b, off, none⟩ ∧ b < w.heap.size ∧ w.cell? ⟨b, off + k, none⟩ = some (.int .u32 (zs k)) ∧ 0 ≤ zs k ∧ zs k < 4294967296
set_option maxHeartbeats 4000000 in
set_option maxRecDepth 100000 in
theorem walk_lo (A0 : Option Addr) (len cap : Nat) (zs : Nat → Int) (big : Bool) (a : Addr) (w : World) (hl : len ≤ 50) (hlc : len ≤ cap) (hm : cap ≤ 9223372036854775807) (hc : Arg w A0 len zs) (ha : EofAt w a) (hw : 2 < w.heap.size) :
    Calls Tryz.prog 3 #[.slice A0 len cap, .bool big] w fun e w' => e = .returned (.bool true) ∧ Below w.heap.size w w' := by
  obtain ⟨i0, hi, hz0, hz1, hz2⟩ := info_parts info7
  have hl0 : (0 : Int) ≤ (len : Int) := by omega
  have hl1 : (len : Int) ≤ 50 := by omega
  have hlc' : (len : Int) ≤ (cap : Int) := by omega
  have HC := Lib.hid hc
  clear hc
  go_enter Tryz.func3, Tryz.ntmps3
  go_wp2_with fail
  -- the list, instruction by instruction
  go_loopw [5, 26] (fun v i wr => ∃ (k : Nat) (xs : List Itm), k ≤ len ∧ i = .int .i64 k ∧ xs.length = k ∧ (∀ x ∈ xs, x.ok) ∧ wr.ownsRow w.heap.size 26 7 v k (rows insRow xs) ∧ Below w.heap.size w wr) (fun _ i _ => len - (intOf i).toNat)
  case atStart => exact ⟨0, [], by omega, rfl, rfl, by simp, World.ownsRow_lit w #[] 0 (Nat.le_refl _) (by simp [maxLen]) (by simp), (Below.refl _ _).alloc (Nat.le_refl _) _⟩
  case round =>
    obtain ⟨k, xs, hk, rfl, hxl, hxo, hown, hbr⟩ := hrel
    by_cases hlt : k < len
    · obtain ⟨b, off, rfl, hb, c1, z0, z1⟩ := HC.out k (by omega)
      have c1' := (hbr.cell (p := ⟨b, off + k, none⟩) hb).trans c1
      have hlt' : (k : Int) < len := by omega
      have hlt2 : (k : Int) < (len : Int) := by omega
      have hk0 : (0 : Int) ≤ (k : Int) := by omega
      have HX := Lib.hid hxl
      clear hxl c1
      go_wp2_with fail
      refine (insOf_any _ _ z0 z1).mono ?_
      rintro e w1 ⟨op, dst, src, o, c, hg, rfl, hb1⟩
      have hown1 := own_below hown hb1
      have hbr1 : Below w.heap.size w w1 := hbr.trans (hb1.mono hbr.size)
      clear hown hbr c1' hb1
      go_wp2_with (at_builtin; go_loud (refine wpList_append_lies _ rfl _ _ 23 rfl w.heap.size 26 i0 _ 7 72 Tryz.underlying23 hi hz0 hz1 hz2 rfl (by omega) _ k _ rfl (hown1.alloc _) ⟨w1.heap.size, 0, none⟩ 1 1 (insRow ⟨op, dst, src, o, c⟩) rfl rfl (World.news_of_block (heap_alloc_new w1 _)) (insRow_one _) (by omega) (by simp [maxLen]; omega) (by omega) (by have := hbr1.size; simp; omega) _ rfl ?_); intro g gc w2 hown2 hgrow _ _)
      have hbr2 := below_append (hbr1.alloc hbr1.size _) (hown1.alloc _) (Nat.le_refl _) (by have := hbr1.size; simp; omega) hgrow
      clear hgrow hown1 hbr1
      go_roundw
      case rel => exact ⟨k + 1, xs ++ [⟨op, dst, src, o, c⟩], by omega, by go_num, by simp [HX.out], all_snoc (y := ⟨op, dst, src, o, c⟩) hxo hg, grown_row hown2, hbr2⟩
      case measure => simp [intOf]; omega
    · obtain rfl : xs.length = k := hxl
      have hge : (len : Int) ≤ (xs.length : Int) := by omega
      have hle : xs.length ≤ 50 := by omega
      obtain ⟨A, cp, rfl, hcp, hcm⟩ := own_form hown
      have hins := ins_of_own hown
      clear hown HC hge
      go_wp2_with fail
      refine (ImplMarshal_any big A xs cp wr hxo (by omega) hcp hcm hins).mono ?_
      rintro e w2 ⟨bv, rfl, hbo, hb2⟩
      have hbr2 : Below w.heap.size w w2 := hbr.trans (hb2.mono hbr.size)
      have hz2 := hbr2.size
      have hins2 := (hins.below hb2).more hb2.size
      have hea2 : EofAt w2 a := (hbr2.cell (p := ⟨2, 0, none⟩) hw).trans ha
      obtain ⟨Ab, cb, rfl, hcb, hcb2⟩ := own_form hbo
      clear hins hbr hb2
      obtain ⟨n, hn⟩ : ∃ n, xs.length = n := ⟨_, rfl⟩
      obtain ⟨m, hm'⟩ : ∃ m, (encs big xs).length = m := ⟨_, rfl⟩
      obtain ⟨S, hS⟩ : ∃ S, strOfNums (encs big xs) = S := ⟨_, rfl⟩
      rw [hm'] at hbo hcb ⊢
      have HN := Lib.hid hn
      have HM := Lib.hid hm'
      have HS := Lib.hid hS
      have HW := Lib.hid (fun W (h : Ins W W.heap.size A xs) => Written_any big A xs cp W hxo (by omega) hcp hcm h)
      rw [hn] at hk hle hcp hlt ⊢
      rw [hn] at HW
      have q0 := convR_eq
      have q1 : convR Ab m cb w2.drew = .ok (.string S) w2.drew := by rw [← HS.out]; exact conv_own (w := w2.drew) (own_drewN hbo 1)
      clear hn hm' hS
      go_wp2_with fail
      go_region_held (fun w' => convR Ab m cb w' = .ok (.string S) w') (go_keep)
        (first
          | (
            go_at_call 8
            go_loud (refine (HW.out _ (show Ins w2.drew w2.drew.heap.size A xs from hins2)).mono ?_)
            rintro e w3 ⟨v3, rfl, hwo, hb3⟩
            go_loud (rw [HM.out] at hwo)
            obtain ⟨A3, k3, rfl, _, _⟩ := own_form hwo
            go_loud (have q2 : convR Ab m cb w3 = .ok (.string S) w3 := by rw [← HS.out]; exact conv_own (own_below (w := w2.drew) (own_drewN hbo 1) hb3))
            go_loud (have q3 : convR A3 m k3 w3 = .ok (.string S) w3 := by rw [← HS.out]; exact conv_own hwo)))
      have hbo3 := own_below (w := w2.drew) (own_drewN hbo 1) hb3
      have hbr3 : Below w.heap.size w w3 := (below_drewN hbr2 1).trans (hb3.mono hz2)
      have hins3 := (Ins.below (w := w2.drew) hins2 hb3).more hb3.size
      have hea3 : EofAt w3 a := (hbr3.cell (p := ⟨2, 0, none⟩) hw).trans ha
      have hz3 := hbr3.size
      clear q1 q2 q3 hbo hwo hbr2 hins2 hea2 HW
      have HO := Lib.hid hbo3
      have HU := ImplUnmarshal_own big Ab xs cb wr.heap.size a w3 hxo (by have := HN.out; omega) (by rw [HM.out]; exact HO.out) hea3 (by omega)
      rw [HM.out] at HU
      have HU' := Lib.hid HU
      clear HU
      go_wp2_with fail
      refine HU'.out.mono ?_
      rintro e w4 ⟨v4, rfl, hown4, hb4⟩
      rw [HN.out] at hown4
      obtain ⟨A4, k4, rfl, hc4, _⟩ := own_form hown4
      have HB := Lib.hid (ins_of_own hown4)
      have HI := Lib.hid (hins3.below hb4)
      have hbr4 : Below w.heap.size w w4 := hbr3.trans (hb4.mono hz3)
      have hz34 := hb4.size
      clear hown4 hins3 hb4 hbr3 hbo3 hea3 q0
      have hc4' : (n : Int) ≤ (k4 : Int) := by omega
      have hcp' : (n : Int) ≤ (cp : Int) := by omega
      go_wp2_with fail
      go_loopw [70] (fun i wz => ∃ k : Nat, k ≤ n ∧ i = .int .i64 k ∧ Below w4.heap.size w4 wz) (fun i _ => n - (intOf i).toNat)
      case atStart => exact ⟨0, by omega, rfl, Below.refl _ _⟩
      case round =>
        obtain ⟨k, hkn, rfl, hbz⟩ := hrel
        by_cases hlt2 : k < n
        · obtain ⟨x, hx⟩ : ∃ x, xs[k]? = some x := ⟨xs[k]'(by rw [HN.out]; exact hlt2), List.getElem?_eq_getElem _⟩
          obtain ⟨g, rfl, hg, hat⟩ := HB.out k x hx
          obtain ⟨gi, rfl, hgi, hati⟩ := HI.out k x hx
          obtain ⟨c0, c1, c2, c3, c4, c5, c6⟩ := hat.below hbz hg
          obtain ⟨e0, e1, e2, e3, e4, e5, e6⟩ := hati.below hbz (by omega)
          have hne := fun W => neqIns x.op x.dst x.src x.off x.c W
          have hlt3 : (k : Int) < n := by omega
          have hk0 : (0 : Int) ≤ (k : Int) := by omega
          clear hx hat hati
          go_wp2_with fail
          go_quiet (fail)
          go_wp2_with fail
          go_roundw
          case rel => exact ⟨k + 1, by omega, by go_num, below_drewN hbz _⟩
          case measure => simp [intOf]; omega
        · go_wp2_with fail
          go_ret
          exact ⟨rfl, hbr4.trans (hbz.mono hbr4.size)⟩
set_option maxHeartbeats 4000000 in
set_option maxRecDepth 100000 in
theorem walk_hi (A0 : Option Addr) (len cap : Nat) (zs : Nat → Int) (big : Bool) (a : Addr) (w : World) (hl : 50 < len) (hl' : len ≤ 100) (hlc : len ≤ cap) (hm : cap ≤ 9223372036854775807) (hc : Arg w A0 len zs) (ha : EofAt w a) (hw : 2 < w.heap.size) :
    Calls Tryz.prog 3 #[.slice A0 len cap, .bool big] w fun e w' => e = .returned (.bool true) ∧ Below w.heap.size w w' := by
  obtain ⟨i0, hi, hz0, hz1, hz2⟩ := info_parts info7
  have hl0 : (50 : Int) < (len : Int) := by omega
  have hl1 : (len : Int) ≤ 100 := by omega
  have hlc' : (len : Int) ≤ (cap : Int) := by omega
  have HC := Lib.hid hc
  clear hc
  go_enter Tryz.func3, Tryz.ntmps3
  go_wp2_with fail
  -- the list, instruction by instruction
  go_loopw [5, 26] (fun v i wr => ∃ (k : Nat) (xs : List Itm), k ≤ 50 ∧ i = .int .i64 k ∧ xs.length = k ∧ (∀ x ∈ xs, x.ok) ∧ wr.ownsRow w.heap.size 26 7 v k (rows insRow xs) ∧ Below w.heap.size w wr) (fun _ i _ => 50 - (intOf i).toNat)
  case atStart => exact ⟨0, [], by omega, rfl, rfl, by simp, World.ownsRow_lit w #[] 0 (Nat.le_refl _) (by simp [maxLen]) (by simp), (Below.refl _ _).alloc (Nat.le_refl _) _⟩
  case round =>
    obtain ⟨k, xs, hk, rfl, hxl, hxo, hown, hbr⟩ := hrel
    by_cases hlt : k < 50
    · obtain ⟨b, off, rfl, hb, c1, z0, z1⟩ := HC.out k (by omega)
      have c1' := (hbr.cell (p := ⟨b, off + k, none⟩) hb).trans c1
      have hlt' : (k : Int) < 50 := by omega
      have hlt2 : (k : Int) < (len : Int) := by omega
      have hk0 : (0 : Int) ≤ (k : Int) := by omega
      have HX := Lib.hid hxl
      clear hxl c1
      go_wp2_with fail
      refine (insOf_any _ _ z0 z1).mono ?_
      rintro e w1 ⟨op, dst, src, o, c, hg, rfl, hb1⟩
      have hown1 := own_below hown hb1
      have hbr1 : Below w.heap.size w w1 := hbr.trans (hb1.mono hbr.size)
      clear hown hbr c1' hb1
      go_wp2_with (at_builtin; go_loud (refine wpList_append_lies _ rfl _ _ 23 rfl w.heap.size 26 i0 _ 7 72 Tryz.underlying23 hi hz0 hz1 hz2 rfl (by omega) _ k _ rfl (hown1.alloc _) ⟨w1.heap.size, 0, none⟩ 1 1 (insRow ⟨op, dst, src, o, c⟩) rfl rfl (World.news_of_block (heap_alloc_new w1 _)) (insRow_one _) (by omega) (by simp [maxLen]; omega) (by omega) (by have := hbr1.size; simp; omega) _ rfl ?_); intro g gc w2 hown2 hgrow _ _)
      have hbr2 := below_append (hbr1.alloc hbr1.size _) (hown1.alloc _) (Nat.le_refl _) (by have := hbr1.size; simp; omega) hgrow
      clear hgrow hown1 hbr1
      go_roundw
      case rel => exact ⟨k + 1, xs ++ [⟨op, dst, src, o, c⟩], by omega, by go_num, by simp [HX.out], all_snoc (y := ⟨op, dst, src, o, c⟩) hxo hg, grown_row hown2, hbr2⟩
      case measure => simp [intOf]; omega
    · obtain rfl : xs.length = k := hxl
      have hge : (50 : Int) ≤ (xs.length : Int) := by omega
      have hle : xs.length ≤ 50 := by omega
      obtain ⟨A, cp, rfl, hcp, hcm⟩ := own_form hown
      have hins := ins_of_own hown
      clear hown HC hge
      go_wp2_with fail
      refine (ImplMarshal_any big A xs cp wr hxo (by omega) hcp hcm hins).mono ?_
      rintro e w2 ⟨bv, rfl, hbo, hb2⟩
      have hbr2 : Below w.heap.size w w2 := hbr.trans (hb2.mono hbr.size)
      have hz2 := hbr2.size
      have hins2 := (hins.below hb2).more hb2.size
      have hea2 : EofAt w2 a := (hbr2.cell (p := ⟨2, 0, none⟩) hw).trans ha
      obtain ⟨Ab, cb, rfl, hcb, hcb2⟩ := own_form hbo
      clear hins hbr hb2
      obtain ⟨n, hn⟩ : ∃ n, xs.length = n := ⟨_, rfl⟩
      obtain ⟨m, hm'⟩ : ∃ m, (encs big xs).length = m := ⟨_, rfl⟩
      obtain ⟨S, hS⟩ : ∃ S, strOfNums (encs big xs) = S := ⟨_, rfl⟩
      rw [hm'] at hbo hcb ⊢
      have HN := Lib.hid hn
      have HM := Lib.hid hm'
      have HS := Lib.hid hS
      have HW := Lib.hid (fun W (h : Ins W W.heap.size A xs) => Written_any big A xs cp W hxo (by omega) hcp hcm h)
      rw [hn] at hk hle hcp hlt ⊢
      rw [hn] at HW
      have q0 := convR_eq
      have q1 : convR Ab m cb w2.drew = .ok (.string S) w2.drew := by rw [← HS.out]; exact conv_own (w := w2.drew) (own_drewN hbo 1)
      clear hn hm' hS
      go_wp2_with fail
      go_region_held (fun w' => convR Ab m cb w' = .ok (.string S) w') (go_keep)
        (first
          | (
            go_at_call 8
            go_loud (refine (HW.out _ (show Ins w2.drew w2.drew.heap.size A xs from hins2)).mono ?_)
            rintro e w3 ⟨v3, rfl, hwo, hb3⟩
            go_loud (rw [HM.out] at hwo)
            obtain ⟨A3, k3, rfl, _, _⟩ := own_form hwo
            go_loud (have q2 : convR Ab m cb w3 = .ok (.string S) w3 := by rw [← HS.out]; exact conv_own (own_below (w := w2.drew) (own_drewN hbo 1) hb3))
            go_loud (have q3 : convR A3 m k3 w3 = .ok (.string S) w3 := by rw [← HS.out]; exact conv_own hwo)))
      have hbo3 := own_below (w := w2.drew) (own_drewN hbo 1) hb3
      have hbr3 : Below w.heap.size w w3 := (below_drewN hbr2 1).trans (hb3.mono hz2)
      have hins3 := (Ins.below (w := w2.drew) hins2 hb3).more hb3.size
      have hea3 : EofAt w3 a := (hbr3.cell (p := ⟨2, 0, none⟩) hw).trans ha
      have hz3 := hbr3.size
      clear q1 q2 q3 hbo hwo hbr2 hins2 hea2 HW
      have HO := Lib.hid hbo3
      have HU := ImplUnmarshal_own big Ab xs cb wr.heap.size a w3 hxo (by have := HN.out; omega) (by rw [HM.out]; exact HO.out) hea3 (by omega)
      rw [HM.out] at HU
      have HU' := Lib.hid HU
      clear HU
      go_wp2_with fail
      refine HU'.out.mono ?_
      rintro e w4 ⟨v4, rfl, hown4, hb4⟩
      rw [HN.out] at hown4
      obtain ⟨A4, k4, rfl, hc4, _⟩ := own_form hown4
      have HB := Lib.hid (ins_of_own hown4)
      have HI := Lib.hid (hins3.below hb4)
      have hbr4 : Below w.heap.size w w4 := hbr3.trans (hb4.mono hz3)
      have hz34 := hb4.size
      clear hown4 hins3 hb4 hbr3 hbo3 hea3 q0
      have hc4' : (n : Int) ≤ (k4 : Int) := by omega
      have hcp' : (n : Int) ≤ (cp : Int) := by omega
      go_wp2_with fail
      go_loopw [70] (fun i wz => ∃ k : Nat, k ≤ n ∧ i = .int .i64 k ∧ Below w4.heap.size w4 wz) (fun i _ => n - (intOf i).toNat)
      case atStart => exact ⟨0, by omega, rfl, Below.refl _ _⟩
      case round =>
        obtain ⟨k, hkn, rfl, hbz⟩ := hrel
        by_cases hlt2 : k < n
        · obtain ⟨x, hx⟩ : ∃ x, xs[k]? = some x := ⟨xs[k]'(by rw [HN.out]; exact hlt2), List.getElem?_eq_getElem _⟩
          obtain ⟨g, rfl, hg, hat⟩ := HB.out k x hx
          obtain ⟨gi, rfl, hgi, hati⟩ := HI.out k x hx
          obtain ⟨c0, c1, c2, c3, c4, c5, c6⟩ := hat.below hbz hg
          obtain ⟨e0, e1, e2, e3, e4, e5, e6⟩ := hati.below hbz (by omega)
          have hne := fun W => neqIns x.op x.dst x.src x.off x.c W
          have hlt3 : (k : Int) < n := by omega
          have hk0 : (0 : Int) ≤ (k : Int) := by omega
          clear hx hat hati
          go_wp2_with fail
          go_quiet (fail)
          go_wp2_with fail
          go_roundw
          case rel => exact ⟨k + 1, by omega, by go_num, below_drewN hbz _⟩
          case measure => simp [intOf]; omega
        · go_wp2_with fail
          go_ret
          exact ⟨rfl, hbr4.trans (hbz.mono hbr4.size)⟩
set_option maxHeartbeats 4000000 in
set_option maxRecDepth 100000 in
theorem walk_big (A0 : Option Addr) (len cap : Nat) (big : Bool) (w : World) (hl : 100 < len) (hlc : len ≤ cap) (hm : cap ≤ 9223372036854775807) :
    Calls Tryz.prog 3 #[.slice A0 len cap, .bool big] w fun e w' => e = .returned (.bool true) ∧ Below w.heap.size w w' := by
  have hl0 : (100 : Int) < (len : Int) := by omega
  go_enter Tryz.func3, Tryz.ntmps3
  go_wp2_with fail
  all_goals
    go_ret
    exact ⟨rfl, Below.refl _ _⟩
theorem walk (A0 : Option Addr) (len cap : Nat) (zs : Nat → Int) (big : Bool) (a : Addr) (w : World) (hlc : len ≤ cap) (hm : cap ≤ 9223372036854775807) (hc : Arg w A0 len zs) (ha : EofAt w a) (hw : 2 < w.heap.size) :
    Calls Tryz.prog 3 #[.slice A0 len cap, .bool big] w fun e w' => e = .returned (.bool true) ∧ Below w.heap.size w w' := by
  by_cases h1 : len ≤ 50
  · exact walk_lo A0 len cap zs big a w h1 hlc hm hc ha hw
  by_cases h2 : len ≤ 100
  · exact walk_hi A0 len cap zs big a w (by omega) h2 hlc hm hc ha hw
  · exact walk_big A0 len cap big w (by omega) hlc hm
end Go.Proofs.YtobgjmgepckijaaGreatDoor.fnWhole
