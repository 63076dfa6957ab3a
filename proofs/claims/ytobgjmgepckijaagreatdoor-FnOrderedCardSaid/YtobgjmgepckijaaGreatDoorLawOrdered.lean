/- laws.FnOrdered returns true at every input: a load that acquires and a store that releases, of any size, say which they are, have their word and their text, are written as the document says, and read again. -/
import Derived.Test.YtobgjmgepckijaaGreatDoorTell
import Derived.Test.YtobgjmgepckijaaGreatDoorAtomO
import Derived.Test.YtobgjmgepckijaaGreatDoorRaw
import Derived.Test.YtobgjmgepckijaaGreatDoorSay
import Derived.Test.YtobgjmgepckijaaGreatDoorTextO
import Derived.Laws.BytesArg
import Derived.Deep.RegionHeld
import Derived.Outline
namespace Go.Proofs.YtobgjmgepckijaaGreatDoor.fnOrdered
open Go.RowKit
set_option linter.unusedVariables false
set_option linter.unusedSimpArgs false
def szK (n : Int) : Int := if n = 0 then 16 else if n = 1 then 8 else if n = 2 then 0 else 24
theorem szK_facts {n : Int} (n0 : 0 ≤ n) (n1 : n < 4) : (n = 2 ∧ szK n = 0 ∨ n = 3 ∧ szK n = 24 ∨ n = 1 ∧ szK n = 8 ∨ n = 0 ∧ szK n = 16) ∧ szK n ∈ ([0, 8, 16, 24] : List Int) ∧ 0 ≤ szK n ∧ szK n ≤ 24 ∧
    (∀ h : n.toNat < [Value.int .i64 16, Value.int .i64 8, Value.int .i64 0, Value.int .i64 24].length, [Value.int .i64 16, Value.int .i64 8, Value.int .i64 0, Value.int .i64 24][n.toNat]'h = .int .i64 (szK n)) ∧
    [Value.int .i64 16, Value.int .i64 8, Value.int .i64 0, Value.int .i64 24][n.toNat]? = some (.int .i64 (szK n)) := by
  have : n = 0 ∨ n = 1 ∨ n = 2 ∨ n = 3 := by omega
  rcases this with rfl | rfl | rfl | rfl
  all_goals exact ⟨by decide, by decide, by decide, by decide, fun _ => rfl, rfl⟩
theorem ordF : ∀ m ∈ ([65536, 69632] : List Int), ∀ z ∈ ([0, 8, 16, 24] : List Int), bits .or .i64 195 z = 195 + z ∧ bits .or .i64 (195 + z) m = 195 + z + m ∧ 195 + z + m ∈ atomOps ∧ 195 + z + m ∈ wordOps ∧ m / 256 = (195 + z + m) / 256 ∧ (195 + z + m) % 256 = 195 + z ∧
    cALU (oClass (195 + z + m)) = false ∧ 195 + z + m ≠ 24 ∧ oAtomic (195 + z + m) = m := by decide +kernel
theorem ins_one {w : World} {b : Nat} {x : Itm} {t : TypeId} (h : w.heap[b]? = some (.cells #[.int .i64 x.op, .int .i64 x.dst, .int .i64 x.src, .int .i64 x.off, .int .i64 x.c, .string ⟨#[]⟩, .string ⟨#[]⟩] t (0, 0))) : Ins w w.heap.size (some ⟨b, 0, none⟩) [x] := fun k y hy => by
  obtain rfl : k = 0 := by
    have := (List.getElem?_eq_some_iff.1 hy).1
    simp at this
    exact this
  obtain rfl : x = y := by simpa using hy
  obtain ⟨c0, c1, c2, c3, c4, c5, c6⟩ := blk7_of h
  exact ⟨b, rfl, heap_lt h, by simpa using c0, by simpa using c1, by simpa using c2, by simpa using c3, by simpa using c4, by simpa using c5, by simpa using c6⟩
theorem conv_own {w : World} {base n cap g : Nat} {bs : List Int} (h : w.ownsRow base 5 1 (.slice (some ⟨g, 0, none⟩) n cap) n (byteRow bs)) :
    (convert 28 9 (.slice (some ⟨g, 0, none⟩) n cap)).run Tryz.prog w = .ok (.string (strOfNums bs)) w := by
  have hl : bs.length = n := by have := h.1; rw [byteRow_len] at this; omega
  refine run_convert_bytes_arg w 28 5 Tryz.underlying28 Tryz.underlying5 g 0 n cap bs hl (fun i hi => ?_) 9 Tryz.underlying9
  rw [Nat.zero_add, h.cellAt i (by omega)]
  simp only [byteRow, List.getElem?_map, List.getElem?_eq_getElem (show i < bs.length by omega), Option.map_some, List.getD, Option.getD_some]
/-- the text of a slice's bytes, kept shut -/
noncomputable def convR (g n k : Nat) (w : World) : Result Value := (convert 28 9 (.slice (some ⟨g, 0, none⟩) n k)).run Tryz.prog w
theorem convR_eq (g n k : Nat) (w : World) : (convert 28 9 (.slice (some ⟨g, 0, none⟩) n k)).run Tryz.prog w = convR g n k w := rfl
theorem own_news' {w : World} {base n cap g : Nat} {e : TypeId} {xs : List Value} (h : w.ownsRow base e 1 (.slice (some ⟨g, 0, none⟩) n cap) n xs) : ∀ (j : Nat) (u : Value), xs[j]? = some u → w.cell? ((⟨g, 0, none⟩ : Addr).add j) = some u := fun j u hj => by
  have hl : xs.length = n := by have := h.1; omega
  have hlt : j < n := by rw [← hl]; exact (List.getElem?_eq_some_iff.1 hj).1
  rw [show (⟨g, 0, none⟩ : Addr).add j = ⟨g, j, none⟩ by simp [Addr.add]; omega, h.cellAt j (by omega), hj]
theorem enc_atomic {big : Bool} {OP d s o c q : Int} (hq : OP % 256 = q) (ha : cALU (oClass OP) = false) (h24 : OP ≠ 24) (c0 : 0 ≤ c) (c1 : c ≤ 272) : encs big [⟨OP, d, s, o, c⟩] = rawB big q (regsOf big d s) (o % 65536) c := by
  simp only [encs, encB, offW, ha, Bool.false_eq_true, if_false, if_neg h24, List.append_nil, hq]
  rw [Int.emod_eq_of_lt c0 (by omega)]
theorem rawB_len (big : Bool) (o r f k : Int) : (rawB big o r f k).length = 8 := by cases big <;> rfl
theorem keepI {w4 W w' : World} {bi : Nat} {OP D S o c : Int} (hb : Below W.heap.size W w') (h : W.cell? ⟨bi, 0, none⟩ = some (.int .i64 OP) ∧ W.cell? ⟨bi, 1, none⟩ = some (.int .i64 D) ∧ W.cell? ⟨bi, 2, none⟩ = some (.int .i64 S) ∧ W.cell? ⟨bi, 3, none⟩ = some (.int .i64 o) ∧
    W.cell? ⟨bi, 4, none⟩ = some (.int .i64 c) ∧ W.cell? ⟨bi, 5, none⟩ = some (.string ⟨#[]⟩) ∧ W.cell? ⟨bi, 6, none⟩ = some (.string ⟨#[]⟩) ∧ Below w4.heap.size w4 W) :
    w'.cell? ⟨bi, 0, none⟩ = some (.int .i64 OP) ∧ w'.cell? ⟨bi, 1, none⟩ = some (.int .i64 D) ∧ w'.cell? ⟨bi, 2, none⟩ = some (.int .i64 S) ∧ w'.cell? ⟨bi, 3, none⟩ = some (.int .i64 o) ∧
    w'.cell? ⟨bi, 4, none⟩ = some (.int .i64 c) ∧ w'.cell? ⟨bi, 5, none⟩ = some (.string ⟨#[]⟩) ∧ w'.cell? ⟨bi, 6, none⟩ = some (.string ⟨#[]⟩) ∧ Below w4.heap.size w4 w' := by
  have hl := World.block_lt_of_cell? W ⟨bi, 0, none⟩ h.1
  exact ⟨(hb.cell (p := ⟨bi, 0, none⟩) hl).trans h.1, (hb.cell (p := ⟨bi, 1, none⟩) hl).trans h.2.1, (hb.cell (p := ⟨bi, 2, none⟩) hl).trans h.2.2.1, (hb.cell (p := ⟨bi, 3, none⟩) hl).trans h.2.2.2.1, (hb.cell (p := ⟨bi, 4, none⟩) hl).trans h.2.2.2.2.1,
    (hb.cell (p := ⟨bi, 5, none⟩) hl).trans h.2.2.2.2.2.1, (hb.cell (p := ⟨bi, 6, none⟩) hl).trans h.2.2.2.2.2.2.1, bel_tr h.2.2.2.2.2.2.2 hb⟩
theorem powI {w4 W : World} {bi : Nat} {OP D S o c : Int} (hp : PowTab w4) (h : W.cell? ⟨bi, 0, none⟩ = some (.int .i64 OP) ∧ W.cell? ⟨bi, 1, none⟩ = some (.int .i64 D) ∧ W.cell? ⟨bi, 2, none⟩ = some (.int .i64 S) ∧ W.cell? ⟨bi, 3, none⟩ = some (.int .i64 o) ∧
    W.cell? ⟨bi, 4, none⟩ = some (.int .i64 c) ∧ W.cell? ⟨bi, 5, none⟩ = some (.string ⟨#[]⟩) ∧ W.cell? ⟨bi, 6, none⟩ = some (.string ⟨#[]⟩) ∧ Below w4.heap.size w4 W) : PowTab W := pow_below hp h.2.2.2.2.2.2.2
theorem cellsI {w4 W : World} {bi : Nat} {OP D S o c : Int} (h : W.cell? ⟨bi, 0, none⟩ = some (.int .i64 OP) ∧ W.cell? ⟨bi, 1, none⟩ = some (.int .i64 D) ∧ W.cell? ⟨bi, 2, none⟩ = some (.int .i64 S) ∧ W.cell? ⟨bi, 3, none⟩ = some (.int .i64 o) ∧
    W.cell? ⟨bi, 4, none⟩ = some (.int .i64 c) ∧ W.cell? ⟨bi, 5, none⟩ = some (.string ⟨#[]⟩) ∧ W.cell? ⟨bi, 6, none⟩ = some (.string ⟨#[]⟩) ∧ Below w4.heap.size w4 W) :
    W.cell? ⟨bi, 0, none⟩ = some (.int .i64 OP) ∧ W.cell? ⟨bi, 1, none⟩ = some (.int .i64 D) ∧ W.cell? ⟨bi, 2, none⟩ = some (.int .i64 S) ∧ W.cell? ⟨bi, 3, none⟩ = some (.int .i64 o) ∧
    W.cell? ⟨bi, 4, none⟩ = some (.int .i64 c) ∧ W.cell? ⟨bi, 5, none⟩ = some (.string ⟨#[]⟩) ∧ W.cell? ⟨bi, 6, none⟩ = some (.string ⟨#[]⟩) ∧ Below w4.heap.size w4 W := h
theorem Says.out {k n : Int} {S : ByteArray} {w : World} (h : Says k n S w) : Calls Tryz.prog 14 #[.int .i64 k, .int .i64 n] w fun e w' => e = .returned (.string S) ∧ Below w.heap.size w w' := h
set_option maxHeartbeats 8000000 in
set_option maxRecDepth 100000 in
theorem walk_false (d s o n : Int) (big : Bool) (a : Addr) (w : World) (d0 : 0 ≤ d) (d1 : d ≤ 255) (s0 : 0 ≤ s) (s1 : s ≤ 255) (o0 : -32768 ≤ o) (o1 : o ≤ 32767) (n0 : 0 ≤ n) (n1 : n ≤ 255) (ha : EofAt w a) (hw : 2 < w.heap.size) (ht : PowTab w) :
    Calls Tryz.prog 5 #[.bool false, .int .u8 d, .int .u8 s, .int .i16 o, .int .u8 n, .bool big] w fun e w' => e = .returned (.bool true) ∧ Below w.heap.size w w' := by
  obtain ⟨z1, z2, z3, z4, lz, lz2⟩ := szK_facts (n := n % 4) (by omega) (by omega)
  obtain ⟨z, hz⟩ : ∃ z, szK (n % 4) = z := ⟨_, rfl⟩
  rw [hz] at z1 z2 z3 z4 lz lz2
  obtain ⟨f1, f2, f3, f4, f5, f6, f7, f8, f9⟩ := ordF 65536 (by decide) z z2
  have hAt := fun W D S d0 d1 s0 s1 => Atomic_Acq D S (n % 4) o z W z1 d0 d1 s0 s1 o0 o1
  obtain ⟨OP, hOP⟩ : ∃ OP, 195 + z + 65536 = OP := ⟨_, rfl⟩
  obtain ⟨PP, hPP⟩ : ∃ PP, 195 + z = PP := ⟨_, rfl⟩
  rw [hOP] at hAt f2 f3 f4 f5 f6 f7 f8 f9
  rw [hPP] at f1 f2 f6
  have hPr : 0 ≤ PP ∧ PP < 256 := by omega
  have hOr : 0 ≤ OP ∧ OP < 131072 := by omega
  obtain ⟨pp0, pp1⟩ := hPr
  obtain ⟨po0, po1⟩ := hOr
  have HE := Lib.hid (fun D S => enc_atomic (big := big) (d := D) (s := S) (o := o) (c := 256) f6 f7 f8 (by decide) (by decide))
  have HAt := Lib.hid hAt
  have F3 := Lib.hid f3
  have F4 := Lib.hid f4
  have F5 := Lib.hid f5
  have F9 := Lib.hid f9
  have HT := Lib.hid ht
  have hne := fun W => neqIns OP (d % 11) (s % 11) o 0 W
  have t1 : IntKind.u8.wrap (d.tmod 11) = d % 11 := by rw [Int.tmod_eq_emod_of_nonneg d0, IntKind.wrap_u8]; omega
  clear hAt f3 f4 f5 f6 f7 f8 f9 hOP hPP hz z1 z2 z3 z4 ht
  go_enter Tryz.func5, Tryz.ntmps5
  go_wp2_with fail
  refine (HAt.out _ _ _ (by omega) (by omega) (by omega) (by omega)).mono ?_
  rintro e w2 ⟨rfl, hb2⟩
  have hb1 : Below w.heap.size w (w.alloc (.cells #[.int .i64 16, .int .i64 8, .int .i64 0, .int .i64 24] 3)) := (Below.refl _ _).alloc (Nat.le_refl _) _
  have hz1 := hb1.size
  have hb2' := hb1.trans (hb2.mono hz1)
  have hz2 := hb2'.size
  clear hb1 hz1 hb2
  go_wp2_with fail
  refine calls_gen (fun W => W.heap[w2.heap.size]? = some (.cells #[.int .i64 OP, .int .i64 (d % 11), .int .i64 (s % 11), .int .i64 o, .int .i64 256, .string ⟨#[]⟩, .string ⟨#[]⟩] 26 (0, 0)) ∧
    W.heap[w2.heap.size + 1 + 1]? = some (.cells #[.int .i64 OP, .int .i64 (d % 11), .int .i64 (s % 11), .int .i64 o, .int .i64 256, .string ⟨#[]⟩, .string ⟨#[]⟩] 26 (0, 0)) ∧ Below w.heap.size w W)
    ⟨heap_up (heap_up (heap_at rfl)), heap_at (by simp), ((hb2'.alloc hz2 _).alloc (by simp; omega) _).alloc (by simp; omega) _⟩ ?_
  rintro W ⟨hk1, hk2, hbW⟩
  have hgood : ∀ x ∈ [(⟨OP, d % 11, s % 11, o, 256⟩ : Itm)], x.ok := by
    intro x hx
    obtain rfl : x = ⟨OP, d % 11, s % 11, o, 256⟩ := by simpa using hx
    exact ⟨by show 0 ≤ d % 11; omega, by show d % 11 ≤ 10; omega, by show 0 ≤ s % 11; omega, by show s % 11 ≤ 10; omega, o0, o1, .inr (.inr (.inr (.inr (.inl ⟨F3.out, F5.out⟩))))⟩
  have hlW := heap_lt hk1
  have hzW := hbW.size
  have HG := Lib.hid hgood
  have HENC := Lib.hid (HE.out (d % 11) (s % 11))
  clear hgood
  refine (ImplMarshal_any big (some ⟨w2.heap.size + 1 + 1, 0, none⟩) [⟨OP, d % 11, s % 11, o, 256⟩] 1 W HG.out (by simp) (by simp) (by simp [maxLen]) (ins_one hk2)).mono ?_
  rintro e w3 ⟨v3, rfl, hown3, hb3⟩
  rw [HENC.out, rawB_len] at hown3
  obtain ⟨g3, k3, hv3, hbase3, hlt3⟩ := hown3.form (by omega)
  subst hv3
  have hk3 := (hb3.block _ hlW).trans hk1
  have hb3w : Below w.heap.size w w3 := hbW.trans (hb3.mono hzW)
  have ha3 : EofAt w3 a := (hb3w.cell (p := ⟨2, 0, none⟩) hw).trans ha
  have hz3 := hb3w.size
  clear hk1 hk2 hb3 hbW
  go_wp2_with fail
  have hU := ImplUnmarshal_any big ⟨g3, 0, none⟩ [⟨OP, d % 11, s % 11, o, 256⟩] k3 a w3 HG.out (by simp) (by rw [HENC.out, rawB_len]; omega) (by rw [HENC.out]; exact own_news' hown3) ha3 (by omega)
  rw [HENC.out, rawB_len] at hU
  refine hU.mono ?_
  clear hU
  rintro e w4 ⟨v4, rfl, hown4, hb4⟩
  obtain ⟨g4, k4, hv4, hbase4, hlt4⟩ := hown4.form (by simp)
  subst hv4
  have hk4 := (hb4.block _ (heap_lt hk3)).trans hk3
  have hb4w : Below w.heap.size w w4 := hb3w.trans (hb4.mono hz3)
  have hz4 := hb4w.size
  have hown3' := own_below hown3 hb4
  have hli := heap_lt hk4
  have hk4' : (1 : Int) ≤ (k4 : Int) := by
    obtain ⟨A', c', e1, e2, e3⟩ := own_form hown4
    simp at e1
    simp at e2
    omega
  have HP4 := Lib.hid (pow_below HT.out hb4w)
  clear hown3 hk3 hb3w hb4 ha3 HT
  rw [show [(⟨OP, d % 11, s % 11, o, 256⟩ : Itm)].length = 1 from rfl]
  have i0 : w4.cell? ⟨w2.heap.size, 0, none⟩ = some (.int .i64 OP) := cell_of_row _ _ 0 _ _ _ hk4
  have i1 : w4.cell? ⟨w2.heap.size, 1, none⟩ = some (.int .i64 (d % 11)) := cell_of_row _ _ 1 _ _ _ hk4
  have i2 : w4.cell? ⟨w2.heap.size, 2, none⟩ = some (.int .i64 (s % 11)) := cell_of_row _ _ 2 _ _ _ hk4
  have i3 : w4.cell? ⟨w2.heap.size, 3, none⟩ = some (.int .i64 o) := cell_of_row _ _ 3 _ _ _ hk4
  have i4 : w4.cell? ⟨w2.heap.size, 4, none⟩ = some (.int .i64 256) := cell_of_row _ _ 4 _ _ _ hk4
  have i5 : w4.cell? ⟨w2.heap.size, 5, none⟩ = some (.string ⟨#[]⟩) := cell_of_row _ _ 5 _ _ _ hk4
  have i6 : w4.cell? ⟨w2.heap.size, 6, none⟩ = some (.string ⟨#[]⟩) := cell_of_row _ _ 6 _ _ _ hk4
  have hAO := fun W => F9.out ▸ AtomicOf_any OP W po0 po1
  have HAO := Lib.hid hAO
  have g : SGood OP (d % 11) (s % 11) o 256 ⟨#[]⟩ := ⟨F4.out, by omega, by omega, by omega, by omega, o0, o1, by decide, by decide, by decide⟩
  have HW9 := Lib.hid (fun W => SayCode OP W F4.out)
  have HSC := Lib.hid (fun W => SCode_any OP W F4.out)
  obtain ⟨SC, hSC⟩ : ∃ S, sCode OP = S := ⟨_, rfl⟩
  rw [hSC] at HW9 HSC
  have HT1 := Lib.hid (fun W (hp : PowTab W) => implText0 OP (d % 11) (s % 11) o 256 W po0 po1 g F3.out hp)
  have HT2 := Lib.hid (fun W => STO g F3.out W)
  obtain ⟨T, hT⟩ : ∃ T, atomT OP (d % 11) (s % 11) o = T := ⟨_, rfl⟩
  rw [hT] at HT1 HT2
  unfold STPost at HT1 HT2
  clear hAO hSC hT g
  have HK4 := Lib.hid hk4
  have HO3 := Lib.hid hown3'
  have HO4 := Lib.hid hown4
  clear hk4 hown3' hown4
  clear hne HAt HG f2 lz lz2 F3 F4 F5 F9
  have hwm : IntKind.i64.wrap 65536 = 65536 := by decide +kernel
  go_wp2_with fail
  go_region_held
    (fun w' => w'.cell? ⟨w2.heap.size, 0, none⟩ = some (.int .i64 OP) ∧ w'.cell? ⟨w2.heap.size, 1, none⟩ = some (.int .i64 (d % 11)) ∧ w'.cell? ⟨w2.heap.size, 2, none⟩ = some (.int .i64 (s % 11)) ∧ w'.cell? ⟨w2.heap.size, 3, none⟩ = some (.int .i64 o) ∧
      w'.cell? ⟨w2.heap.size, 4, none⟩ = some (.int .i64 256) ∧ w'.cell? ⟨w2.heap.size, 5, none⟩ = some (.string ⟨#[]⟩) ∧ w'.cell? ⟨w2.heap.size, 6, none⟩ = some (.string ⟨#[]⟩) ∧ Below w4.heap.size w4 w')
    (first | exact keepI hb (by assumption) | exact ⟨i0, i1, i2, i3, i4, i5, i6, (Below.refl _ _).drew⟩ | assumption)
    (first
    | (go_at_call 13; refine (HAO.out _).mono ?_; rintro e w' ⟨rfl, rfl⟩)
    | (go_at_call 14; with_reducible refine (Says.out (HW9.out _)).mono ?_; rintro e w' ⟨rfl, hb⟩)
    | (go_at_call 15; refine (HSC.out _).mono ?_; rintro e w' ⟨rfl, hb⟩)
    | (go_at_call 16; refine (HT1.out _ (powI HP4.out (by assumption))).mono ?_; rintro e w' ⟨rfl, hb⟩)
    | (go_at_call 17; refine (HT2.out _).mono ?_; rintro e w' ⟨rfl, hb⟩))
  clear i0 i1 i2 i3 i4 i5 i6
  obtain ⟨i0, i1, i2, i3, i4, i5, i6, hb5⟩ := cellsI (w4 := w4) (W := w') (bi := w2.heap.size) (OP := OP) (D := d % 11) (S := s % 11) (o := o) (c := 256) (by assumption)
  obtain ⟨w5, hw5⟩ : ∃ W : World, W = w' := ⟨_, rfl⟩
  rw [← hw5] at i0 i1 i2 i3 i4 i5 i6 hb5 ⊢
  clear hw5
  clear HAO HW9 HSC HT1 HT2 HP4
  have hown4' := own_below HO4.out hb5
  have hown3' := own_below HO3.out hb5
  clear HO4 HO3 HK4
  obtain ⟨g', he, hg', hat⟩ := ins_of_own hown4' 0 _ rfl
  obtain rfl : g4 = g' := by simpa using he
  obtain ⟨p0, p1, p2, p3, p4, p5, p6⟩ := hat
  simp only [Nat.zero_mul, Nat.zero_add] at p0 p1 p2 p3 p4 p5 p6
  clear hown4'
  have hb5w : Below w.heap.size w w5 := hb4w.trans (hb5.mono hz4)
  have hz5 := hb5w.size
  have heq := fun W => eqlIns OP (d % 11) (s % 11) o 256 W
  obtain ⟨S, hS⟩ : ∃ S, strOfNums (rawB big PP (regsOf big (d % 11) (s % 11)) (o % 65536) 256) = S := ⟨_, rfl⟩
  obtain ⟨R, hR⟩ : ∃ R, Obj.cells (byteRow (rawB big PP (regsOf big (d % 11) (s % 11)) (o % 65536) 256)).toArray 5 = R := ⟨_, rfl⟩
  have q1 : convR g3 8 k3 w5.drew = .ok (.string S) w5.drew := by
    rw [← hS]; exact conv_own (w := w5.drew) (own_drewN hown3' 1)
  have q2 : convR g3 8 k3 (w5.alloc R).drew = .ok (.string S) (w5.alloc R).drew := by
    rw [← hS]; exact conv_own (w := (w5.alloc R).drew) (own_drewN (hown3'.alloc R) 1)
  have q0 := convR_eq
  have q3 : convR w5.heap.size 8 8 (w5.alloc R).drew = .ok (.string S) (w5.alloc R).drew := by
    rw [← hS, ← hR]
    refine conv_own (w := (w5.alloc _).drew) (own_drewN (base := w5.heap.size) (n := 8) ?_ 1)
    exact World.ownsRow_lit w5 (byteRow _).toArray 8 (Nat.le_refl _) (by simp [maxLen]) (by simp [byteRow_len, rawB_len])
  have hraw := fun W => raw_any' big PP (d % 11) (s % 11) o 256 W pp0 pp1 (by omega) (by omega) (by omega) (by omega) o0 o1 (by decide) (by decide)
  rw [hR] at hraw
  have HRAW := Lib.hid hraw
  have t4 : IntKind.i64.wrap (d.tmod 11) = d % 11 := by rw [Int.tmod_eq_emod_of_nonneg d0, IntKind.wrap_i64]; omega
  have t5 : IntKind.i64.wrap (s.tmod 11) = s % 11 := by rw [Int.tmod_eq_emod_of_nonneg s0, IntKind.wrap_i64]; omega
  have t6 : IntKind.i64.wrap o = o := by rw [IntKind.wrap_i64]; omega
  have q4 : IntKind.u32.wrap 256 = 256 := by decide +kernel
  clear hraw hS hR hown3' HE HENC hwm t1
  go_wp2_with fail
  go_region_held (fun w' => w'.cell? ⟨g4, 0, none⟩ = some (.int .i64 OP) ∧ w'.cell? ⟨g4, 1, none⟩ = some (.int .i64 (d % 11)) ∧ w'.cell? ⟨g4, 2, none⟩ = some (.int .i64 (s % 11)) ∧ w'.cell? ⟨g4, 3, none⟩ = some (.int .i64 o) ∧
      w'.cell? ⟨g4, 4, none⟩ = some (.int .i64 256) ∧ w'.cell? ⟨g4, 5, none⟩ = some (.string ⟨#[]⟩) ∧ w'.cell? ⟨g4, 6, none⟩ = some (.string ⟨#[]⟩) ∧
      w'.cell? ⟨w2.heap.size, 0, none⟩ = some (.int .i64 OP) ∧ w'.cell? ⟨w2.heap.size, 1, none⟩ = some (.int .i64 (d % 11)) ∧ w'.cell? ⟨w2.heap.size, 2, none⟩ = some (.int .i64 (s % 11)) ∧ w'.cell? ⟨w2.heap.size, 3, none⟩ = some (.int .i64 o) ∧
      w'.cell? ⟨w2.heap.size, 4, none⟩ = some (.int .i64 256) ∧ w'.cell? ⟨w2.heap.size, 5, none⟩ = some (.string ⟨#[]⟩) ∧ w'.cell? ⟨w2.heap.size, 6, none⟩ = some (.string ⟨#[]⟩) ∧
      convR g3 8 k3 w' = .ok (.string S) w')
    (go_keep)
    (first | (go_at_call 12; with_reducible refine (HRAW.out _).mono ?_; rintro e w' ⟨rfl, rfl⟩))
  all_goals
    go_wp2_with fail
    go_ret
    exact ⟨rfl, below_drewN ((hb5w.alloc hz5 _)) 1⟩
set_option maxHeartbeats 8000000 in
set_option maxRecDepth 100000 in
theorem walk_true (d s o n : Int) (big : Bool) (a : Addr) (w : World) (d0 : 0 ≤ d) (d1 : d ≤ 255) (s0 : 0 ≤ s) (s1 : s ≤ 255) (o0 : -32768 ≤ o) (o1 : o ≤ 32767) (n0 : 0 ≤ n) (n1 : n ≤ 255) (ha : EofAt w a) (hw : 2 < w.heap.size) (ht : PowTab w) :
    Calls Tryz.prog 5 #[.bool true, .int .u8 d, .int .u8 s, .int .i16 o, .int .u8 n, .bool big] w fun e w' => e = .returned (.bool true) ∧ Below w.heap.size w w' := by
  obtain ⟨z1, z2, z3, z4, lz, lz2⟩ := szK_facts (n := n % 4) (by omega) (by omega)
  obtain ⟨z, hz⟩ : ∃ z, szK (n % 4) = z := ⟨_, rfl⟩
  rw [hz] at z1 z2 z3 z4 lz lz2
  obtain ⟨f1, f2, f3, f4, f5, f6, f7, f8, f9⟩ := ordF 69632 (by decide) z z2
  have hAt := fun W D S d0 d1 s0 s1 => Atomic_Rel D S (n % 4) o z W z1 d0 d1 s0 s1 o0 o1
  obtain ⟨OP, hOP⟩ : ∃ OP, 195 + z + 69632 = OP := ⟨_, rfl⟩
  obtain ⟨PP, hPP⟩ : ∃ PP, 195 + z = PP := ⟨_, rfl⟩
  rw [hOP] at hAt f2 f3 f4 f5 f6 f7 f8 f9
  rw [hPP] at f1 f2 f6
  have hPr : 0 ≤ PP ∧ PP < 256 := by omega
  have hOr : 0 ≤ OP ∧ OP < 131072 := by omega
  obtain ⟨pp0, pp1⟩ := hPr
  obtain ⟨po0, po1⟩ := hOr
  have HE := Lib.hid (fun D S => enc_atomic (big := big) (d := D) (s := S) (o := o) (c := 272) f6 f7 f8 (by decide) (by decide))
  have HAt := Lib.hid hAt
  have F3 := Lib.hid f3
  have F4 := Lib.hid f4
  have F5 := Lib.hid f5
  have F9 := Lib.hid f9
  have HT := Lib.hid ht
  have hne := fun W => neqIns OP (d % 11) (s % 11) o 0 W
  have t1 : IntKind.u8.wrap (d.tmod 11) = d % 11 := by rw [Int.tmod_eq_emod_of_nonneg d0, IntKind.wrap_u8]; omega
  clear hAt f3 f4 f5 f6 f7 f8 f9 hOP hPP hz z1 z2 z3 z4 ht
  go_enter Tryz.func5, Tryz.ntmps5
  go_wp2_with fail
  refine (HAt.out _ _ _ (by omega) (by omega) (by omega) (by omega)).mono ?_
  rintro e w2 ⟨rfl, hb2⟩
  have hb1 : Below w.heap.size w (w.alloc (.cells #[.int .i64 16, .int .i64 8, .int .i64 0, .int .i64 24] 3)) := (Below.refl _ _).alloc (Nat.le_refl _) _
  have hz1 := hb1.size
  have hb2' := hb1.trans (hb2.mono hz1)
  have hz2 := hb2'.size
  clear hb1 hz1 hb2
  go_wp2_with fail
  refine calls_gen (fun W => W.heap[w2.heap.size]? = some (.cells #[.int .i64 OP, .int .i64 (d % 11), .int .i64 (s % 11), .int .i64 o, .int .i64 272, .string ⟨#[]⟩, .string ⟨#[]⟩] 26 (0, 0)) ∧
    W.heap[w2.heap.size + 1 + 1]? = some (.cells #[.int .i64 OP, .int .i64 (d % 11), .int .i64 (s % 11), .int .i64 o, .int .i64 272, .string ⟨#[]⟩, .string ⟨#[]⟩] 26 (0, 0)) ∧ Below w.heap.size w W)
    ⟨heap_up (heap_up (heap_at rfl)), heap_at (by simp), ((hb2'.alloc hz2 _).alloc (by simp; omega) _).alloc (by simp; omega) _⟩ ?_
  rintro W ⟨hk1, hk2, hbW⟩
  have hgood : ∀ x ∈ [(⟨OP, d % 11, s % 11, o, 272⟩ : Itm)], x.ok := by
    intro x hx
    obtain rfl : x = ⟨OP, d % 11, s % 11, o, 272⟩ := by simpa using hx
    exact ⟨by show 0 ≤ d % 11; omega, by show d % 11 ≤ 10; omega, by show 0 ≤ s % 11; omega, by show s % 11 ≤ 10; omega, o0, o1, .inr (.inr (.inr (.inr (.inl ⟨F3.out, F5.out⟩))))⟩
  have hlW := heap_lt hk1
  have hzW := hbW.size
  have HG := Lib.hid hgood
  have HENC := Lib.hid (HE.out (d % 11) (s % 11))
  clear hgood
  refine (ImplMarshal_any big (some ⟨w2.heap.size + 1 + 1, 0, none⟩) [⟨OP, d % 11, s % 11, o, 272⟩] 1 W HG.out (by simp) (by simp) (by simp [maxLen]) (ins_one hk2)).mono ?_
  rintro e w3 ⟨v3, rfl, hown3, hb3⟩
  rw [HENC.out, rawB_len] at hown3
  obtain ⟨g3, k3, hv3, hbase3, hlt3⟩ := hown3.form (by omega)
  subst hv3
  have hk3 := (hb3.block _ hlW).trans hk1
  have hb3w : Below w.heap.size w w3 := hbW.trans (hb3.mono hzW)
  have ha3 : EofAt w3 a := (hb3w.cell (p := ⟨2, 0, none⟩) hw).trans ha
  have hz3 := hb3w.size
  clear hk1 hk2 hb3 hbW
  go_wp2_with fail
  have hU := ImplUnmarshal_any big ⟨g3, 0, none⟩ [⟨OP, d % 11, s % 11, o, 272⟩] k3 a w3 HG.out (by simp) (by rw [HENC.out, rawB_len]; omega) (by rw [HENC.out]; exact own_news' hown3) ha3 (by omega)
  rw [HENC.out, rawB_len] at hU
  refine hU.mono ?_
  clear hU
  rintro e w4 ⟨v4, rfl, hown4, hb4⟩
  obtain ⟨g4, k4, hv4, hbase4, hlt4⟩ := hown4.form (by simp)
  subst hv4
  have hk4 := (hb4.block _ (heap_lt hk3)).trans hk3
  have hb4w : Below w.heap.size w w4 := hb3w.trans (hb4.mono hz3)
  have hz4 := hb4w.size
  have hown3' := own_below hown3 hb4
  have hli := heap_lt hk4
  have hk4' : (1 : Int) ≤ (k4 : Int) := by
    obtain ⟨A', c', e1, e2, e3⟩ := own_form hown4
    simp at e1
    simp at e2
    omega
  have HP4 := Lib.hid (pow_below HT.out hb4w)
  clear hown3 hk3 hb3w hb4 ha3 HT
  rw [show [(⟨OP, d % 11, s % 11, o, 272⟩ : Itm)].length = 1 from rfl]
  have i0 : w4.cell? ⟨w2.heap.size, 0, none⟩ = some (.int .i64 OP) := cell_of_row _ _ 0 _ _ _ hk4
  have i1 : w4.cell? ⟨w2.heap.size, 1, none⟩ = some (.int .i64 (d % 11)) := cell_of_row _ _ 1 _ _ _ hk4
  have i2 : w4.cell? ⟨w2.heap.size, 2, none⟩ = some (.int .i64 (s % 11)) := cell_of_row _ _ 2 _ _ _ hk4
  have i3 : w4.cell? ⟨w2.heap.size, 3, none⟩ = some (.int .i64 o) := cell_of_row _ _ 3 _ _ _ hk4
  have i4 : w4.cell? ⟨w2.heap.size, 4, none⟩ = some (.int .i64 272) := cell_of_row _ _ 4 _ _ _ hk4
  have i5 : w4.cell? ⟨w2.heap.size, 5, none⟩ = some (.string ⟨#[]⟩) := cell_of_row _ _ 5 _ _ _ hk4
  have i6 : w4.cell? ⟨w2.heap.size, 6, none⟩ = some (.string ⟨#[]⟩) := cell_of_row _ _ 6 _ _ _ hk4
  have hAO := fun W => F9.out ▸ AtomicOf_any OP W po0 po1
  have HAO := Lib.hid hAO
  have g : SGood OP (d % 11) (s % 11) o 272 ⟨#[]⟩ := ⟨F4.out, by omega, by omega, by omega, by omega, o0, o1, by decide, by decide, by decide⟩
  have HW9 := Lib.hid (fun W => SayCode OP W F4.out)
  have HSC := Lib.hid (fun W => SCode_any OP W F4.out)
  obtain ⟨SC, hSC⟩ : ∃ S, sCode OP = S := ⟨_, rfl⟩
  rw [hSC] at HW9 HSC
  have HT1 := Lib.hid (fun W (hp : PowTab W) => implText0 OP (d % 11) (s % 11) o 272 W po0 po1 g F3.out hp)
  have HT2 := Lib.hid (fun W => STO g F3.out W)
  obtain ⟨T, hT⟩ : ∃ T, atomT OP (d % 11) (s % 11) o = T := ⟨_, rfl⟩
  rw [hT] at HT1 HT2
  unfold STPost at HT1 HT2
  clear hAO hSC hT g
  have HK4 := Lib.hid hk4
  have HO3 := Lib.hid hown3'
  have HO4 := Lib.hid hown4
  clear hk4 hown3' hown4
  clear hne HAt HG f2 lz lz2 F3 F4 F5 F9
  have hwm : IntKind.i64.wrap 69632 = 69632 := by decide +kernel
  go_wp2_with fail
  go_region_held
    (fun w' => w'.cell? ⟨w2.heap.size, 0, none⟩ = some (.int .i64 OP) ∧ w'.cell? ⟨w2.heap.size, 1, none⟩ = some (.int .i64 (d % 11)) ∧ w'.cell? ⟨w2.heap.size, 2, none⟩ = some (.int .i64 (s % 11)) ∧ w'.cell? ⟨w2.heap.size, 3, none⟩ = some (.int .i64 o) ∧
      w'.cell? ⟨w2.heap.size, 4, none⟩ = some (.int .i64 272) ∧ w'.cell? ⟨w2.heap.size, 5, none⟩ = some (.string ⟨#[]⟩) ∧ w'.cell? ⟨w2.heap.size, 6, none⟩ = some (.string ⟨#[]⟩) ∧ Below w4.heap.size w4 w')
    (first | exact keepI hb (by assumption) | exact ⟨i0, i1, i2, i3, i4, i5, i6, (Below.refl _ _).drew⟩ | assumption)
    (first
    | (go_at_call 13; refine (HAO.out _).mono ?_; rintro e w' ⟨rfl, rfl⟩)
    | (go_at_call 14; with_reducible refine (Says.out (HW9.out _)).mono ?_; rintro e w' ⟨rfl, hb⟩)
    | (go_at_call 15; refine (HSC.out _).mono ?_; rintro e w' ⟨rfl, hb⟩)
    | (go_at_call 16; refine (HT1.out _ (powI HP4.out (by assumption))).mono ?_; rintro e w' ⟨rfl, hb⟩)
    | (go_at_call 17; refine (HT2.out _).mono ?_; rintro e w' ⟨rfl, hb⟩))
  clear i0 i1 i2 i3 i4 i5 i6
  obtain ⟨i0, i1, i2, i3, i4, i5, i6, hb5⟩ := cellsI (w4 := w4) (W := w') (bi := w2.heap.size) (OP := OP) (D := d % 11) (S := s % 11) (o := o) (c := 272) (by assumption)
  obtain ⟨w5, hw5⟩ : ∃ W : World, W = w' := ⟨_, rfl⟩
  rw [← hw5] at i0 i1 i2 i3 i4 i5 i6 hb5 ⊢
  clear hw5
  clear HAO HW9 HSC HT1 HT2 HP4
  have hown4' := own_below HO4.out hb5
  have hown3' := own_below HO3.out hb5
  clear HO4 HO3 HK4
  obtain ⟨g', he, hg', hat⟩ := ins_of_own hown4' 0 _ rfl
  obtain rfl : g4 = g' := by simpa using he
  obtain ⟨p0, p1, p2, p3, p4, p5, p6⟩ := hat
  simp only [Nat.zero_mul, Nat.zero_add] at p0 p1 p2 p3 p4 p5 p6
  clear hown4'
  have hb5w : Below w.heap.size w w5 := hb4w.trans (hb5.mono hz4)
  have hz5 := hb5w.size
  have heq := fun W => eqlIns OP (d % 11) (s % 11) o 272 W
  obtain ⟨S, hS⟩ : ∃ S, strOfNums (rawB big PP (regsOf big (d % 11) (s % 11)) (o % 65536) 272) = S := ⟨_, rfl⟩
  obtain ⟨R, hR⟩ : ∃ R, Obj.cells (byteRow (rawB big PP (regsOf big (d % 11) (s % 11)) (o % 65536) 272)).toArray 5 = R := ⟨_, rfl⟩
  have q1 : convR g3 8 k3 w5.drew = .ok (.string S) w5.drew := by
    rw [← hS]; exact conv_own (w := w5.drew) (own_drewN hown3' 1)
  have q2 : convR g3 8 k3 (w5.alloc R).drew = .ok (.string S) (w5.alloc R).drew := by
    rw [← hS]; exact conv_own (w := (w5.alloc R).drew) (own_drewN (hown3'.alloc R) 1)
  have q0 := convR_eq
  have q3 : convR w5.heap.size 8 8 (w5.alloc R).drew = .ok (.string S) (w5.alloc R).drew := by
    rw [← hS, ← hR]
    refine conv_own (w := (w5.alloc _).drew) (own_drewN (base := w5.heap.size) (n := 8) ?_ 1)
    exact World.ownsRow_lit w5 (byteRow _).toArray 8 (Nat.le_refl _) (by simp [maxLen]) (by simp [byteRow_len, rawB_len])
  have hraw := fun W => raw_any' big PP (d % 11) (s % 11) o 272 W pp0 pp1 (by omega) (by omega) (by omega) (by omega) o0 o1 (by decide) (by decide)
  rw [hR] at hraw
  have HRAW := Lib.hid hraw
  have t4 : IntKind.i64.wrap (d.tmod 11) = d % 11 := by rw [Int.tmod_eq_emod_of_nonneg d0, IntKind.wrap_i64]; omega
  have t5 : IntKind.i64.wrap (s.tmod 11) = s % 11 := by rw [Int.tmod_eq_emod_of_nonneg s0, IntKind.wrap_i64]; omega
  have t6 : IntKind.i64.wrap o = o := by rw [IntKind.wrap_i64]; omega
  have q4 : IntKind.u32.wrap 272 = 272 := by decide +kernel
  clear hraw hS hR hown3' HE HENC hwm t1
  go_wp2_with fail
  go_region_held (fun w' => w'.cell? ⟨g4, 0, none⟩ = some (.int .i64 OP) ∧ w'.cell? ⟨g4, 1, none⟩ = some (.int .i64 (d % 11)) ∧ w'.cell? ⟨g4, 2, none⟩ = some (.int .i64 (s % 11)) ∧ w'.cell? ⟨g4, 3, none⟩ = some (.int .i64 o) ∧
      w'.cell? ⟨g4, 4, none⟩ = some (.int .i64 272) ∧ w'.cell? ⟨g4, 5, none⟩ = some (.string ⟨#[]⟩) ∧ w'.cell? ⟨g4, 6, none⟩ = some (.string ⟨#[]⟩) ∧
      w'.cell? ⟨w2.heap.size, 0, none⟩ = some (.int .i64 OP) ∧ w'.cell? ⟨w2.heap.size, 1, none⟩ = some (.int .i64 (d % 11)) ∧ w'.cell? ⟨w2.heap.size, 2, none⟩ = some (.int .i64 (s % 11)) ∧ w'.cell? ⟨w2.heap.size, 3, none⟩ = some (.int .i64 o) ∧
      w'.cell? ⟨w2.heap.size, 4, none⟩ = some (.int .i64 272) ∧ w'.cell? ⟨w2.heap.size, 5, none⟩ = some (.string ⟨#[]⟩) ∧ w'.cell? ⟨w2.heap.size, 6, none⟩ = some (.string ⟨#[]⟩) ∧
      convR g3 8 k3 w' = .ok (.string S) w')
    (go_keep)
    (first | (go_at_call 12; with_reducible refine (HRAW.out _).mono ?_; rintro e w' ⟨rfl, rfl⟩))
  all_goals
    go_wp2_with fail
    go_ret
    exact ⟨rfl, below_drewN ((hb5w.alloc hz5 _)) 1⟩
theorem walk (store : Bool) (d s o n : Int) (big : Bool) (a : Addr) (w : World) (d0 : 0 ≤ d) (d1 : d ≤ 255) (s0 : 0 ≤ s) (s1 : s ≤ 255) (o0 : -32768 ≤ o) (o1 : o ≤ 32767) (n0 : 0 ≤ n) (n1 : n ≤ 255) (ha : EofAt w a) (hw : 2 < w.heap.size) (ht : PowTab w) :
    Calls Tryz.prog 5 #[.bool store, .int .u8 d, .int .u8 s, .int .i16 o, .int .u8 n, .bool big] w fun e w' => e = .returned (.bool true) ∧ Below w.heap.size w w' := by
  cases store
  · exact walk_false d s o n big a w d0 d1 s0 s1 o0 o1 n0 n1 ha hw ht
  · exact walk_true d s o n big a w d0 d1 s0 s1 o0 o1 n0 n1 ha hw ht
end Go.Proofs.YtobgjmgepckijaaGreatDoor.fnOrdered
