/- laws.FnAtomic returns true at every input: an atomic operation on a place of memory says which it is, is written as the document says, and read again. -/
import Derived.Test.YtobgjmgepckijaaGreatDoorTell
import Derived.Test.YtobgjmgepckijaaGreatDoorAtom
import Derived.Test.YtobgjmgepckijaaGreatDoorRaw
import Derived.Test.YtobgjmgepckijaaGreatDoorInsB
import Derived.Laws.BytesArg
import Derived.Deep.RegionHeld
import Derived.Outline
namespace Go.Proofs.YtobgjmgepckijaaGreatDoor.fnAtomic
open Go.RowKit
set_option linter.unusedVariables false
set_option linter.unusedSimpArgs false
theorem atomF_3 : ∀ c ∈ atomCs, c * 256 ∈ atomMs ∧ bits .or .i64 219 (c * 256) = 195 + 24 + c * 256 ∧ 195 + 24 + c * 256 ∈ atomOps ∧ c = (195 + 24 + c * 256) / 256 ∧ (195 + 24 + c * 256) % 256 = 219 ∧ cALU (oClass (195 + 24 + c * 256)) = false ∧ 195 + 24 + c * 256 ≠ 24 := by decide +kernel
theorem atomF_2 : ∀ c ∈ atomCs, c * 256 ∈ atomMs ∧ bits .or .i64 195 (c * 256) = 195 + 0 + c * 256 ∧ 195 + 0 + c * 256 ∈ atomOps ∧ c = (195 + 0 + c * 256) / 256 ∧ (195 + 0 + c * 256) % 256 = 195 ∧ cALU (oClass (195 + 0 + c * 256)) = false ∧ 195 + 0 + c * 256 ≠ 24 := by decide +kernel
theorem ins_one {w : World} {b : Nat} {x : Itm} {t : TypeId} (h : w.heap[b]? = some (.cells #[.int .i64 x.op, .int .i64 x.dst, .int .i64 x.src, .int .i64 x.off, .int .i64 x.c, .string ⟨#[]⟩, .string ⟨#[]⟩] t (0, 0))) : Ins w w.heap.size (some ⟨b, 0, none⟩) [x] := fun k y hy => by
  obtain rfl : k = 0 := by
    have := (List.getElem?_eq_some_iff.1 hy).1
    simp at this
    exact this
  obtain rfl : x = y := by simpa using hy
  obtain ⟨c0, c1, c2, c3, c4, c5, c6⟩ := blk7_of h
  exact ⟨b, rfl, heap_lt h, by simpa using c0, by simpa using c1, by simpa using c2, by simpa using c3, by simpa using c4, by simpa using c5, by simpa using c6⟩
theorem conv_own {w : World} {base n cap g : Nat} {bs : List Int} (h : w.ownsRow base 5 1 (.slice (some ⟨g, 0, none⟩) n cap) n (byteRow bs)) :
    (convert 28 9 (.slice (some ⟨g, 0, none⟩) n cap)).run Tryz.prog w = .ok (.string (strOfNums bs)) w := by
  have hl : bs.length = n := by have := h.1; rw [byteRow_len] at this; omega
  refine run_convert_bytes_arg w 28 5 Tryz.underlying28 Tryz.underlying5 g 0 n cap bs hl (fun i hi => ?_) 9 Tryz.underlying9
  rw [Nat.zero_add, h.cellAt i (by omega)]
  simp only [byteRow, List.getElem?_map, List.getElem?_eq_getElem (show i < bs.length by omega), Option.map_some, List.getD, Option.getD_some]
/-- the text of a slice's bytes, kept shut -/
noncomputable def convR (g n k : Nat) (w : World) : Result Value := (convert 28 9 (.slice (some ⟨g, 0, none⟩) n k)).run Tryz.prog w
theorem convR_eq (g n k : Nat) (w : World) : (convert 28 9 (.slice (some ⟨g, 0, none⟩) n k)).run Tryz.prog w = convR g n k w := rfl
theorem own_news' {w : World} {base n cap g : Nat} {e : TypeId} {xs : List Value} (h : w.ownsRow base e 1 (.slice (some ⟨g, 0, none⟩) n cap) n xs) : ∀ (j : Nat) (u : Value), xs[j]? = some u → w.cell? ((⟨g, 0, none⟩ : Addr).add j) = some u := fun j u hj => by
  have hl : xs.length = n := by have := h.1; omega
  have hlt : j < n := by rw [← hl]; exact (List.getElem?_eq_some_iff.1 hj).1
  rw [show (⟨g, 0, none⟩ : Addr).add j = ⟨g, j, none⟩ by simp [Addr.add]; omega, h.cellAt j (by omega), hj]
theorem enc_atomic {big : Bool} {OP d s o c q : Int} (hq : OP % 256 = q) (ha : cALU (oClass OP) = false) (h24 : OP ≠ 24) (c0 : 0 ≤ c) (c1 : c ≤ 241) : encs big [⟨OP, d, s, o, c⟩] = rawB big q (regsOf big d s) (o % 65536) c := by
  simp only [encs, encB, offW, ha, Bool.false_eq_true, if_false, if_neg h24, List.append_nil, hq]
  rw [Int.emod_eq_of_lt c0 (by omega)]
theorem rawB_len (big : Bool) (o r f k : Int) : (rawB big o r f k).length = 8 := by cases big <;> rfl
set_option maxHeartbeats 4000000 in
set_option maxRecDepth 100000 in
theorem walk_true (n d s o : Int) (big : Bool) (a : Addr) (w : World) (n0 : 0 ≤ n) (n1 : n < 4294967296) (d0 : 0 ≤ d) (d1 : d ≤ 255) (s0 : 0 ≤ s) (s1 : s ≤ 255) (o0 : -32768 ≤ o) (o1 : o ≤ 32767) (ha : EofAt w a) (hw : 2 < w.heap.size) :
    Calls Tryz.prog 4 #[.int .u32 n, .int .u8 d, .int .u8 s, .int .i16 o, .bool true, .bool big] w fun e w' => e = .returned (.bool true) ∧ Below w.heap.size w w' := by
  go_enter Tryz.func4, Tryz.ntmps4
  go_wp2_with fail
  refine (atomicOf_any _ _ n0 n1).mono ?_
  rintro e w1 ⟨c, hc, rfl, hw1⟩
  have hb1 : Below w.heap.size w w1 := by rw [hw1]; exact (Below.refl _ _).alloc (Nat.le_refl _) _
  have hz1 := hb1.size
  obtain ⟨hc0, hc1⟩ := atomCs_range c hc
  obtain ⟨f1, f3, f5, f7, f9, fb, fd⟩ := atomF_3 c hc
  obtain ⟨OP, hOP⟩ : ∃ OP, 195 + 24 + c * 256 = OP := ⟨_, rfl⟩
  have hAt := fun W D S d0 d1 s0 s1 => Atomic_any (c * 256) D S 3 o 24 W f1 (.inr ⟨rfl, rfl⟩) d0 d1 s0 s1 o0 o1
  rw [hOP] at hAt f3 f5 f7 f9 fb fd
  have HE := Lib.hid (fun D S => enc_atomic (big := big) (d := D) (s := S) (o := o) f9 fb fd hc0 hc1)
  have HAt := Lib.hid hAt
  have F5 := Lib.hid f5
  have F7 := Lib.hid f7
  have HC := Lib.hid hc
  have hne := fun W => neqIns OP (d % 11) (s % 11) o 0 W
  clear hw1 f1 f5 f7 f9 fb fd hOP hAt hc
  go_wp2_with fail
  refine (HAt.out _ _ _ (by omega) (by omega) (by omega) (by omega)).mono ?_
  rintro e w2 ⟨rfl, hb2⟩
  have hb2' := hb1.trans (hb2.mono hz1)
  have hz2 := hb2'.size
  go_wp2_with fail
  refine calls_gen (fun W => W.heap[w2.heap.size]? = some (.cells #[.int .i64 OP, .int .i64 (d % 11), .int .i64 (s % 11), .int .i64 o, .int .i64 c, .string ⟨#[]⟩, .string ⟨#[]⟩] 26 (0, 0)) ∧
    W.heap[w2.heap.size + 1 + 1]? = some (.cells #[.int .i64 OP, .int .i64 (d % 11), .int .i64 (s % 11), .int .i64 o, .int .i64 c, .string ⟨#[]⟩, .string ⟨#[]⟩] 26 (0, 0)) ∧ Below w.heap.size w W)
    ⟨heap_up (heap_up (heap_at rfl)), heap_at (by simp), ((hb2'.alloc hz2 _).alloc (by simp; omega) _).alloc (by simp; omega) _⟩ ?_
  rintro W ⟨hk1, hk2, hbW⟩
  have hgood : ∀ x ∈ [(⟨OP, d % 11, s % 11, o, c⟩ : Itm)], x.ok := by
    intro x hx
    obtain rfl : x = ⟨OP, d % 11, s % 11, o, c⟩ := by simpa using hx
    exact ⟨by show 0 ≤ d % 11; omega, by show d % 11 ≤ 10; omega, by show 0 ≤ s % 11; omega, by show s % 11 ≤ 10; omega, o0, o1, .inr (.inr (.inr (.inr (.inl ⟨F5.out, F7.out⟩))))⟩
  have hlW := heap_lt hk1
  have hzW := hbW.size
  have HG := Lib.hid hgood
  have HENC := Lib.hid (HE.out (d % 11) (s % 11))
  clear hgood
  refine (ImplMarshal_any big (some ⟨w2.heap.size + 1 + 1, 0, none⟩) [⟨OP, d % 11, s % 11, o, c⟩] 1 W HG.out (by simp) (by simp) (by simp [maxLen]) (ins_one hk2)).mono ?_
  rintro e w3 ⟨v3, rfl, hown3, hb3⟩
  rw [HENC.out, rawB_len] at hown3
  obtain ⟨g3, k3, hv3, hbase3, hlt3⟩ := hown3.form (by omega)
  subst hv3
  have hk3 := (hb3.block _ hlW).trans hk1
  have hb3w : Below w.heap.size w w3 := hbW.trans (hb3.mono hzW)
  have ha3 : EofAt w3 a := (hb3w.cell (p := ⟨2, 0, none⟩) hw).trans ha
  have hz3 := hb3w.size
  clear hk1 hk2 hb3 hbW
  go_wp2_with fail
  have hU := ImplUnmarshal_any big ⟨g3, 0, none⟩ [⟨OP, d % 11, s % 11, o, c⟩] k3 a w3 HG.out (by simp) (by rw [HENC.out, rawB_len]; omega) (by rw [HENC.out]; exact own_news' hown3) ha3 (by omega)
  rw [HENC.out, rawB_len] at hU
  refine hU.mono ?_
  clear hU
  rintro e w4 ⟨v4, rfl, hown4, hb4⟩
  obtain ⟨g4, k4, hv4, hbase4, hlt4⟩ := hown4.form (by simp)
  subst hv4
  obtain ⟨g', he, hg', hat⟩ := ins_of_own hown4 0 _ rfl
  obtain rfl : g4 = g' := by simpa using he
  obtain ⟨p0, p1, p2, p3, p4, p5, p6⟩ := hat
  simp only [Nat.zero_mul, Nat.zero_add] at p0 p1 p2 p3 p4 p5 p6
  have hk4 := (hb4.block _ (heap_lt hk3)).trans hk3
  have i0 : w4.cell? ⟨w2.heap.size, 0, none⟩ = some (.int .i64 OP) := cell_of_row _ _ 0 _ _ _ hk4
  have i1 : w4.cell? ⟨w2.heap.size, 1, none⟩ = some (.int .i64 (d % 11)) := cell_of_row _ _ 1 _ _ _ hk4
  have i2 : w4.cell? ⟨w2.heap.size, 2, none⟩ = some (.int .i64 (s % 11)) := cell_of_row _ _ 2 _ _ _ hk4
  have i3 : w4.cell? ⟨w2.heap.size, 3, none⟩ = some (.int .i64 o) := cell_of_row _ _ 3 _ _ _ hk4
  have i4 : w4.cell? ⟨w2.heap.size, 4, none⟩ = some (.int .i64 c) := cell_of_row _ _ 4 _ _ _ hk4
  have i5 : w4.cell? ⟨w2.heap.size, 5, none⟩ = some (.string ⟨#[]⟩) := cell_of_row _ _ 5 _ _ _ hk4
  have i6 : w4.cell? ⟨w2.heap.size, 6, none⟩ = some (.string ⟨#[]⟩) := cell_of_row _ _ 6 _ _ _ hk4
  have hb4w : Below w.heap.size w w4 := hb3w.trans (hb4.mono hz3)
  have hown3' := own_below hown3 hb4
  have hli := heap_lt hk4
  have hk4' : (1 : Int) ≤ (k4 : Int) := by
    obtain ⟨A', c', e1, e2, e3⟩ := own_form hown4
    simp at e1
    simp at e2
    omega
  clear hown3 hk3 hb3w hk4 hb4 hown4 ha3
  have heq := fun W => eqlIns OP (d % 11) (s % 11) o c W
  rw [show [(⟨OP, d % 11, s % 11, o, c⟩ : Itm)].length = 1 from rfl]
  obtain ⟨S, hS⟩ : ∃ S, strOfNums (rawB big 219 (regsOf big (d % 11) (s % 11)) (o % 65536) c) = S := ⟨_, rfl⟩
  obtain ⟨R, hR⟩ : ∃ R, Obj.cells (byteRow (rawB big 219 (regsOf big (d % 11) (s % 11)) (o % 65536) c)).toArray 5 = R := ⟨_, rfl⟩
  have q1 : convR g3 8 k3 w4.drew = .ok (.string S) w4.drew := by
    rw [← hS]; exact conv_own (w := w4.drew) (own_drewN hown3' 1)
  have q2 : convR g3 8 k3 (w4.alloc R).drew = .ok (.string S) (w4.alloc R).drew := by
    rw [← hS]; exact conv_own (w := (w4.alloc R).drew) (own_drewN (hown3'.alloc R) 1)
  have q0 := convR_eq
  have q3 : convR w4.heap.size 8 8 (w4.alloc R).drew = .ok (.string S) (w4.alloc R).drew := by
    rw [← hS, ← hR]
    refine conv_own (w := (w4.alloc _).drew) (own_drewN (base := w4.heap.size) (n := 8) ?_ 1)
    exact World.ownsRow_lit w4 (byteRow _).toArray 8 (Nat.le_refl _) (by simp [maxLen]) (by simp [byteRow_len, rawB_len])
  have hraw := fun W => raw_any' big 219 (d % 11) (s % 11) o c W (by omega) (by omega) (by omega) (by omega) (by omega) (by omega) o0 o1 hc0 (by omega)
  rw [hR] at hraw
  have HRAW := Lib.hid hraw
  have t1 : IntKind.i64.wrap (d.tmod 11) = d % 11 := by rw [Int.tmod_eq_emod_of_nonneg d0, IntKind.wrap_i64]; omega
  have t2 : IntKind.i64.wrap (s.tmod 11) = s % 11 := by rw [Int.tmod_eq_emod_of_nonneg s0, IntKind.wrap_i64]; omega
  have t3 : IntKind.i64.wrap o = o := by rw [IntKind.wrap_i64]; omega
  have q4 : IntKind.u32.wrap c = c := by rw [IntKind.wrap_u32]; omega
  clear hraw hS hR hown3' HE HAt HG HENC hne
  go_wp2_with fail
  go_region_held (fun w' => w'.cell? ⟨g4, 0, none⟩ = some (.int .i64 OP) ∧ w'.cell? ⟨g4, 1, none⟩ = some (.int .i64 (d % 11)) ∧ w'.cell? ⟨g4, 2, none⟩ = some (.int .i64 (s % 11)) ∧ w'.cell? ⟨g4, 3, none⟩ = some (.int .i64 o) ∧
      w'.cell? ⟨g4, 4, none⟩ = some (.int .i64 c) ∧ w'.cell? ⟨g4, 5, none⟩ = some (.string ⟨#[]⟩) ∧ w'.cell? ⟨g4, 6, none⟩ = some (.string ⟨#[]⟩) ∧
      w'.cell? ⟨w2.heap.size, 0, none⟩ = some (.int .i64 OP) ∧ w'.cell? ⟨w2.heap.size, 1, none⟩ = some (.int .i64 (d % 11)) ∧ w'.cell? ⟨w2.heap.size, 2, none⟩ = some (.int .i64 (s % 11)) ∧ w'.cell? ⟨w2.heap.size, 3, none⟩ = some (.int .i64 o) ∧
      w'.cell? ⟨w2.heap.size, 4, none⟩ = some (.int .i64 c) ∧ w'.cell? ⟨w2.heap.size, 5, none⟩ = some (.string ⟨#[]⟩) ∧ w'.cell? ⟨w2.heap.size, 6, none⟩ = some (.string ⟨#[]⟩) ∧
      convR g3 8 k3 w' = .ok (.string S) w')
    (go_keep)
    (first | (go_at_call 12; refine (HRAW.out _).mono ?_; rintro e w' ⟨rfl, rfl⟩))
  all_goals
    go_wp2_with fail
    go_ret
    exact ⟨rfl, below_drewN ((hb4w.alloc (Nat.le_of_lt (Nat.lt_of_le_of_lt hz2 hli)) _)) 1⟩
set_option maxHeartbeats 4000000 in
set_option maxRecDepth 100000 in
theorem walk_false (n d s o : Int) (big : Bool) (a : Addr) (w : World) (n0 : 0 ≤ n) (n1 : n < 4294967296) (d0 : 0 ≤ d) (d1 : d ≤ 255) (s0 : 0 ≤ s) (s1 : s ≤ 255) (o0 : -32768 ≤ o) (o1 : o ≤ 32767) (ha : EofAt w a) (hw : 2 < w.heap.size) :
    Calls Tryz.prog 4 #[.int .u32 n, .int .u8 d, .int .u8 s, .int .i16 o, .bool false, .bool big] w fun e w' => e = .returned (.bool true) ∧ Below w.heap.size w w' := by
  go_enter Tryz.func4, Tryz.ntmps4
  go_wp2_with fail
  refine (atomicOf_any _ _ n0 n1).mono ?_
  rintro e w1 ⟨c, hc, rfl, hw1⟩
  have hb1 : Below w.heap.size w w1 := by rw [hw1]; exact (Below.refl _ _).alloc (Nat.le_refl _) _
  have hz1 := hb1.size
  obtain ⟨hc0, hc1⟩ := atomCs_range c hc
  obtain ⟨f1, f3, f5, f7, f9, fb, fd⟩ := atomF_2 c hc
  obtain ⟨OP, hOP⟩ : ∃ OP, 195 + 0 + c * 256 = OP := ⟨_, rfl⟩
  have hAt := fun W D S d0 d1 s0 s1 => Atomic_any (c * 256) D S 2 o 0 W f1 (.inl ⟨rfl, rfl⟩) d0 d1 s0 s1 o0 o1
  rw [hOP] at hAt f3 f5 f7 f9 fb fd
  have HE := Lib.hid (fun D S => enc_atomic (big := big) (d := D) (s := S) (o := o) f9 fb fd hc0 hc1)
  have HAt := Lib.hid hAt
  have F5 := Lib.hid f5
  have F7 := Lib.hid f7
  have HC := Lib.hid hc
  have hne := fun W => neqIns OP (d % 11) (s % 11) o 0 W
  clear hw1 f1 f5 f7 f9 fb fd hOP hAt hc
  go_wp2_with fail
  refine (HAt.out _ _ _ (by omega) (by omega) (by omega) (by omega)).mono ?_
  rintro e w2 ⟨rfl, hb2⟩
  have hb2' := hb1.trans (hb2.mono hz1)
  have hz2 := hb2'.size
  go_wp2_with fail
  refine calls_gen (fun W => W.heap[w2.heap.size]? = some (.cells #[.int .i64 OP, .int .i64 (d % 11), .int .i64 (s % 11), .int .i64 o, .int .i64 c, .string ⟨#[]⟩, .string ⟨#[]⟩] 26 (0, 0)) ∧
    W.heap[w2.heap.size + 1 + 1]? = some (.cells #[.int .i64 OP, .int .i64 (d % 11), .int .i64 (s % 11), .int .i64 o, .int .i64 c, .string ⟨#[]⟩, .string ⟨#[]⟩] 26 (0, 0)) ∧ Below w.heap.size w W)
    ⟨heap_up (heap_up (heap_at rfl)), heap_at (by simp), ((hb2'.alloc hz2 _).alloc (by simp; omega) _).alloc (by simp; omega) _⟩ ?_
  rintro W ⟨hk1, hk2, hbW⟩
  have hgood : ∀ x ∈ [(⟨OP, d % 11, s % 11, o, c⟩ : Itm)], x.ok := by
    intro x hx
    obtain rfl : x = ⟨OP, d % 11, s % 11, o, c⟩ := by simpa using hx
    exact ⟨by show 0 ≤ d % 11; omega, by show d % 11 ≤ 10; omega, by show 0 ≤ s % 11; omega, by show s % 11 ≤ 10; omega, o0, o1, .inr (.inr (.inr (.inr (.inl ⟨F5.out, F7.out⟩))))⟩
  have hlW := heap_lt hk1
  have hzW := hbW.size
  have HG := Lib.hid hgood
  have HENC := Lib.hid (HE.out (d % 11) (s % 11))
  clear hgood
  refine (ImplMarshal_any big (some ⟨w2.heap.size + 1 + 1, 0, none⟩) [⟨OP, d % 11, s % 11, o, c⟩] 1 W HG.out (by simp) (by simp) (by simp [maxLen]) (ins_one hk2)).mono ?_
  rintro e w3 ⟨v3, rfl, hown3, hb3⟩
  rw [HENC.out, rawB_len] at hown3
  obtain ⟨g3, k3, hv3, hbase3, hlt3⟩ := hown3.form (by omega)
  subst hv3
  have hk3 := (hb3.block _ hlW).trans hk1
  have hb3w : Below w.heap.size w w3 := hbW.trans (hb3.mono hzW)
  have ha3 : EofAt w3 a := (hb3w.cell (p := ⟨2, 0, none⟩) hw).trans ha
  have hz3 := hb3w.size
  clear hk1 hk2 hb3 hbW
  go_wp2_with fail
  have hU := ImplUnmarshal_any big ⟨g3, 0, none⟩ [⟨OP, d % 11, s % 11, o, c⟩] k3 a w3 HG.out (by simp) (by rw [HENC.out, rawB_len]; omega) (by rw [HENC.out]; exact own_news' hown3) ha3 (by omega)
  rw [HENC.out, rawB_len] at hU
  refine hU.mono ?_
  clear hU
  rintro e w4 ⟨v4, rfl, hown4, hb4⟩
  obtain ⟨g4, k4, hv4, hbase4, hlt4⟩ := hown4.form (by simp)
  subst hv4
  obtain ⟨g', he, hg', hat⟩ := ins_of_own hown4 0 _ rfl
  obtain rfl : g4 = g' := by simpa using he
  obtain ⟨p0, p1, p2, p3, p4, p5, p6⟩ := hat
  simp only [Nat.zero_mul, Nat.zero_add] at p0 p1 p2 p3 p4 p5 p6
  have hk4 := (hb4.block _ (heap_lt hk3)).trans hk3
  have i0 : w4.cell? ⟨w2.heap.size, 0, none⟩ = some (.int .i64 OP) := cell_of_row _ _ 0 _ _ _ hk4
  have i1 : w4.cell? ⟨w2.heap.size, 1, none⟩ = some (.int .i64 (d % 11)) := cell_of_row _ _ 1 _ _ _ hk4
  have i2 : w4.cell? ⟨w2.heap.size, 2, none⟩ = some (.int .i64 (s % 11)) := cell_of_row _ _ 2 _ _ _ hk4
  have i3 : w4.cell? ⟨w2.heap.size, 3, none⟩ = some (.int .i64 o) := cell_of_row _ _ 3 _ _ _ hk4
  have i4 : w4.cell? ⟨w2.heap.size, 4, none⟩ = some (.int .i64 c) := cell_of_row _ _ 4 _ _ _ hk4
  have i5 : w4.cell? ⟨w2.heap.size, 5, none⟩ = some (.string ⟨#[]⟩) := cell_of_row _ _ 5 _ _ _ hk4
  have i6 : w4.cell? ⟨w2.heap.size, 6, none⟩ = some (.string ⟨#[]⟩) := cell_of_row _ _ 6 _ _ _ hk4
  have hb4w : Below w.heap.size w w4 := hb3w.trans (hb4.mono hz3)
  have hown3' := own_below hown3 hb4
  have hli := heap_lt hk4
  have hk4' : (1 : Int) ≤ (k4 : Int) := by
    obtain ⟨A', c', e1, e2, e3⟩ := own_form hown4
    simp at e1
    simp at e2
    omega
  clear hown3 hk3 hb3w hk4 hb4 hown4 ha3
  have heq := fun W => eqlIns OP (d % 11) (s % 11) o c W
  rw [show [(⟨OP, d % 11, s % 11, o, c⟩ : Itm)].length = 1 from rfl]
  obtain ⟨S, hS⟩ : ∃ S, strOfNums (rawB big 195 (regsOf big (d % 11) (s % 11)) (o % 65536) c) = S := ⟨_, rfl⟩
  obtain ⟨R, hR⟩ : ∃ R, Obj.cells (byteRow (rawB big 195 (regsOf big (d % 11) (s % 11)) (o % 65536) c)).toArray 5 = R := ⟨_, rfl⟩
  have q1 : convR g3 8 k3 w4.drew = .ok (.string S) w4.drew := by
    rw [← hS]; exact conv_own (w := w4.drew) (own_drewN hown3' 1)
  have q2 : convR g3 8 k3 (w4.alloc R).drew = .ok (.string S) (w4.alloc R).drew := by
    rw [← hS]; exact conv_own (w := (w4.alloc R).drew) (own_drewN (hown3'.alloc R) 1)
  have q0 := convR_eq
  have q3 : convR w4.heap.size 8 8 (w4.alloc R).drew = .ok (.string S) (w4.alloc R).drew := by
    rw [← hS, ← hR]
    refine conv_own (w := (w4.alloc _).drew) (own_drewN (base := w4.heap.size) (n := 8) ?_ 1)
    exact World.ownsRow_lit w4 (byteRow _).toArray 8 (Nat.le_refl _) (by simp [maxLen]) (by simp [byteRow_len, rawB_len])
  have hraw := fun W => raw_any' big 195 (d % 11) (s % 11) o c W (by omega) (by omega) (by omega) (by omega) (by omega) (by omega) o0 o1 hc0 (by omega)
  rw [hR] at hraw
  have HRAW := Lib.hid hraw
  have t1 : IntKind.i64.wrap (d.tmod 11) = d % 11 := by rw [Int.tmod_eq_emod_of_nonneg d0, IntKind.wrap_i64]; omega
  have t2 : IntKind.i64.wrap (s.tmod 11) = s % 11 := by rw [Int.tmod_eq_emod_of_nonneg s0, IntKind.wrap_i64]; omega
  have t3 : IntKind.i64.wrap o = o := by rw [IntKind.wrap_i64]; omega
  have q4 : IntKind.u32.wrap c = c := by rw [IntKind.wrap_u32]; omega
  clear hraw hS hR hown3' HE HAt HG HENC hne
  go_wp2_with fail
  go_region_held (fun w' => w'.cell? ⟨g4, 0, none⟩ = some (.int .i64 OP) ∧ w'.cell? ⟨g4, 1, none⟩ = some (.int .i64 (d % 11)) ∧ w'.cell? ⟨g4, 2, none⟩ = some (.int .i64 (s % 11)) ∧ w'.cell? ⟨g4, 3, none⟩ = some (.int .i64 o) ∧
      w'.cell? ⟨g4, 4, none⟩ = some (.int .i64 c) ∧ w'.cell? ⟨g4, 5, none⟩ = some (.string ⟨#[]⟩) ∧ w'.cell? ⟨g4, 6, none⟩ = some (.string ⟨#[]⟩) ∧
      w'.cell? ⟨w2.heap.size, 0, none⟩ = some (.int .i64 OP) ∧ w'.cell? ⟨w2.heap.size, 1, none⟩ = some (.int .i64 (d % 11)) ∧ w'.cell? ⟨w2.heap.size, 2, none⟩ = some (.int .i64 (s % 11)) ∧ w'.cell? ⟨w2.heap.size, 3, none⟩ = some (.int .i64 o) ∧
      w'.cell? ⟨w2.heap.size, 4, none⟩ = some (.int .i64 c) ∧ w'.cell? ⟨w2.heap.size, 5, none⟩ = some (.string ⟨#[]⟩) ∧ w'.cell? ⟨w2.heap.size, 6, none⟩ = some (.string ⟨#[]⟩) ∧
      convR g3 8 k3 w' = .ok (.string S) w')
    (go_keep)
    (first | (go_at_call 12; refine (HRAW.out _).mono ?_; rintro e w' ⟨rfl, rfl⟩))
  all_goals
    go_wp2_with fail
    go_ret
    exact ⟨rfl, below_drewN ((hb4w.alloc (Nat.le_of_lt (Nat.lt_of_le_of_lt hz2 hli)) _)) 1⟩
theorem walk (n d s o : Int) (wide big : Bool) (a : Addr) (w : World) (n0 : 0 ≤ n) (n1 : n < 4294967296) (d0 : 0 ≤ d) (d1 : d ≤ 255) (s0 : 0 ≤ s) (s1 : s ≤ 255) (o0 : -32768 ≤ o) (o1 : o ≤ 32767) (ha : EofAt w a) (hw : 2 < w.heap.size) :
    Calls Tryz.prog 4 #[.int .u32 n, .int .u8 d, .int .u8 s, .int .i16 o, .bool wide, .bool big] w fun e w' => e = .returned (.bool true) ∧ Below w.heap.size w w' := by
  cases wide
  · exact walk_false n d s o big a w n0 n1 d0 d1 s0 s1 o0 o1 ha hw
  · exact walk_true n d s o big a w n0 n1 d0 d1 s0 s1 o0 o1 ha hw
end Go.Proofs.YtobgjmgepckijaaGreatDoor.fnAtomic
