/- laws.FnWalked returns true at every list: instructions are walked one after the other, each with its place, which counts a load of 64 bits twice. -/
import Derived.Test.YtobgjmgepckijaaRows
import Derived.WalkKit
import Derived.ProofKit
import Derived.OpenShut
import Derived.Test.YtobgjmgepckijaaInsB
import Derived.Test.YtobgjmgepckijaaImpl
import Derived.Test.YtobgjmgepckijaaStarts
import Derived.Test.YtobgjmgepckijaaWalked
import Derived.BigQuiet
import Derived.RegionTactic
import Derived.Outline
namespace Go.Proofs.Ytobgjmgepckijaa.fnWalked
open Go.ChangeShapes Go.WideShapes Go.ChangeAt Go.RowKit
set_option linter.unusedVariables false
set_option linter.unusedSimpArgs false

theorem own : ownKnob Try.prog.godebug = none := by kernel_rfl
theorem info7 : (Try.prog.info? 24).map (fun i => (i.zero, i.size, i.bytes)) = some (some (.agg #[.int .i64 0, .int .i64 0, .int .i64 0, .int .i64 0, .int .i64 0, .string ⟨#[]⟩, .string ⟨#[]⟩]), 7, 72) := by kernel_rfl

/-- the row after so many rounds -/
theorem grown_row {w : World} {base n : Nat} {e : TypeId} {v : Value} {xs : List Itm} {x : Itm} (h : w.ownsRow base e 7 v (n + 1) (rows insRow xs ++ insRow x)) : w.ownsRow base e 7 v (n + 1) (rows insRow (xs ++ [x])) := by
  rw [rows_snoc]; exact h
theorem pair_cells {w : World} {base n cap : Nat} {A : Option Addr} {e : TypeId} {xs : List Itm} (h : w.ownsRow base e 2 (.slice A n cap) n (pairRow xs n)) :
    ∀ k, k < n → ∃ g, A = some ⟨g, 0, none⟩ ∧ g < w.heap.size ∧ w.cell? ⟨g, k * 2, none⟩ = some (.int .i64 k) ∧ w.cell? ⟨g, k * 2 + 1, none⟩ = some (.int .i64 (start (xs.take k))) := fun k hk => by
  obtain ⟨g, cap', hv, _, hlt⟩ := h.form (by omega)
  obtain ⟨rfl, rfl⟩ : A = some ⟨g, 0, none⟩ ∧ cap = cap' := by simpa using hv
  have hp := pairRow_at xs n k hk
  exact ⟨g, rfl, hlt, (h.cellAt (k * 2) (by omega)).trans hp.1, (h.cellAt (k * 2 + 1) (by omega)).trans hp.2⟩
theorem start_cells {w : World} {base n cap : Nat} {A : Option Addr} {e : TypeId} {xs : List Itm} (h : w.ownsRow base e 1 (.slice A n cap) n (startRow xs n)) :
    ∀ k, k < n → ∃ g, A = some ⟨g, 0, none⟩ ∧ g < w.heap.size ∧ w.cell? ⟨g, k, none⟩ = some (.int .i64 (start (xs.take k))) := fun k hk => by
  obtain ⟨g, cap', hv, _, hlt⟩ := h.form (by omega)
  obtain ⟨rfl, rfl⟩ : A = some ⟨g, 0, none⟩ ∧ cap = cap' := by simpa using hv
  exact ⟨g, rfl, hlt, (h.cellAt k (by omega)).trans (startRow_at hk)⟩
theorem good149 : Itm.ok ⟨149, 0, 0, 0, 0⟩ := ⟨by decide, by decide, by decide, by decide, by decide, by decide, .inr (.inr (.inr (.inr (.inr (.inr (.inr (.inr (.inl ⟨rfl, rfl, rfl, rfl, rfl⟩))))))))⟩
theorem ins_one {w : World} {b : Nat} {x : Itm} {t : TypeId} (h : w.heap[b]? = some (.cells #[.int .i64 x.op, .int .i64 x.dst, .int .i64 x.src, .int .i64 x.off, .int .i64 x.c, .string ⟨#[]⟩, .string ⟨#[]⟩] t (0, 0))) : Ins w w.heap.size (some ⟨b, 0, none⟩) [x] := fun k y hy => by
  obtain rfl : k = 0 := by
    have := (List.getElem?_eq_some_iff.1 hy).1
    simp at this
    exact this
  obtain rfl : x = y := by simpa using hy
  obtain ⟨c0, c1, c2, c3, c4, c5, c6⟩ := blk7_of h
  exact ⟨b, rfl, heap_lt h, by simpa using c0, by simpa using c1, by simpa using c2, by simpa using c3, by simpa using c4, by simpa using c5, by simpa using c6⟩
def Arg (w : World) (A : Option Addr) (len : Nat) (zs : Nat → Int) : Prop :=
  ∀ k, k < len → ∃ b off, A = some ⟨b, off, none⟩ ∧ b < w.heap.size ∧ w.cell? ⟨b, off + k, none⟩ = some (.int .u32 (zs k)) ∧ 0 ≤ zs k ∧ zs k < 4294967296
set_option maxHeartbeats 4000000 in
set_option maxRecDepth 100000 in
theorem walk_lo (A0 : Option Addr) (len cap : Nat) (zs : Nat → Int) (w : World) (hl : len ≤ 50) (hlc : len ≤ cap) (hm : cap ≤ 9223372036854775807) (hc : Arg w A0 len zs) :
    Calls Try.prog 4 #[.slice A0 len cap] w fun e w' => e = .returned (.bool true) ∧ Below w.heap.size w w' := by
  obtain ⟨i0, hi, hz0, hz1, hz2⟩ := info_parts info7
  have hl0 : (0 : Int) ≤ (len : Int) := by omega
  have hl1 : (len : Int) ≤ 50 := by omega
  have hlc' : (len : Int) ≤ (cap : Int) := by omega
  have HC := Lib.hid hc
  clear hc
  go_enter Try.func4, Try.ntmps4
  go_wp2_with fail
  -- the list, instruction by instruction
  go_loopw [3, 24] (fun v i wr => ∃ (k : Nat) (xs : List Itm), k ≤ len ∧ i = .int .i64 k ∧ xs.length = k ∧ (∀ x ∈ xs, x.ok) ∧ wr.ownsRow w.heap.size 24 7 v k (rows insRow xs) ∧ Below w.heap.size w wr) (fun _ i _ => len - (intOf i).toNat)
  case atStart => exact ⟨0, [], by omega, rfl, rfl, by simp, World.ownsRow_lit w #[] 0 (Nat.le_refl _) (by simp [maxLen]) (by simp), (Below.refl _ _).alloc (Nat.le_refl _) _⟩
  case round =>
    obtain ⟨k, xs, hk, rfl, hxl, hxo, hown, hbr⟩ := hrel
    by_cases hlt : k < len
    · obtain ⟨b, off, rfl, hb, c1, z0, z1⟩ := HC.out k (by omega)
      have c1' := (hbr.cell (p := ⟨b, off + k, none⟩) hb).trans c1
      have hlt' : (k : Int) < len := by omega
      have hlt2 : (k : Int) < (len : Int) := by omega
      have hk0 : (0 : Int) ≤ (k : Int) := by omega
      have HX := Lib.hid hxl
      clear hxl c1
      go_wp2_with fail
      refine (insOf_any _ _ z0 z1).mono ?_
      rintro e w1 ⟨op, dst, src, o, c, hg, rfl, hb1⟩
      have hown1 := own_below hown hb1
      have hbr1 : Below w.heap.size w w1 := hbr.trans (hb1.mono hbr.size)
      clear hown hbr c1' hb1
      go_wp2_with (at_builtin; go_loud (refine wpList_append_lies _ rfl _ _ 33 rfl w.heap.size 24 i0 _ 7 72 Try.underlying33 hi hz0 hz1 hz2 rfl (by omega) _ k _ rfl (hown1.alloc _) ⟨w1.heap.size, 0, none⟩ 1 1 (insRow ⟨op, dst, src, o, c⟩) rfl rfl (World.news_of_block (heap_alloc_new w1 _)) (insRow_one _) (by omega) (by simp [maxLen]; omega) (by omega) (by have := hbr1.size; simp; omega) _ rfl ?_); intro g gc w2 hown2 hgrow _ _)
      have hbr2 := below_append (hbr1.alloc hbr1.size _) (hown1.alloc _) (Nat.le_refl _) (by have := hbr1.size; simp; omega) hgrow
      clear hgrow hown1 hbr1
      go_roundw
      case rel => exact ⟨k + 1, xs ++ [⟨op, dst, src, o, c⟩], by omega, by go_num, by simp [HX.out], all_snoc (y := ⟨op, dst, src, o, c⟩) hxo hg, grown_row hown2, hbr2⟩
      case measure => simp [intOf]; omega
    · obtain rfl : xs.length = k := hxl
      have hge : (len : Int) ≤ (xs.length : Int) := by omega
      have hle : xs.length ≤ 50 := by omega
      obtain ⟨A, cp, rfl, hcp, hcm⟩ := own_form hown
      have hins := ins_of_own hown
      clear hown HC hge
      go_wp2_with fail
      refine (Starts_any A xs cp wr (by omega) hcp hcm hins).mono ?_
      rintro e w2 ⟨sv, rfl, hso, hb2⟩
      have hbr2 : Below w.heap.size w w2 := hbr.trans (hb2.mono hbr.size)
      have hins2 := (hins.below hb2).more hb2.size
      obtain ⟨As, cs, rfl, hcs, hcs2⟩ := own_form hso
      clear hins hbr hb2
      go_wp2_with fail
      refine (Walked_any A xs cp w2 hxo (by omega) hcp hcm hins2).mono ?_
      rintro e w3 ⟨gv, rfl, hgo, hb3⟩
      have hso3 := own_below hso hb3
      have hbr3 : Below w.heap.size w w3 := hbr2.trans (hb3.mono hbr2.size)
      obtain ⟨Ag, cg, rfl, hcg, hcg2⟩ := own_form hgo
      clear hins2 hso hb3 hbr2
      go_wp2_with fail
      refine (Walked_any (some ⟨w3.heap.size, 0, none⟩) [⟨149, 0, 0, 0, 0⟩] 1 _ (by simp; exact good149) (by simp) (by simp) (by simp [maxLen]) (ins_one (heap_at rfl))).mono ?_
      rintro e w4 ⟨ov, rfl, hoo, hb4⟩
      have hso4 := own_below (hso3.alloc _) hb4
      have hgo4 := own_below (hgo.alloc _) hb4
      have hbr4 : Below w.heap.size w w4 := (hbr3.alloc hbr3.size _).trans (hb4.mono (by have := hbr3.size; simp; omega))
      obtain ⟨Ao, co, rfl, _, _⟩ := own_form hoo
      clear hso3 hgo hoo hb4 hbr3
      have HG := Lib.hid (pair_cells hgo4)
      have HS := Lib.hid (start_cells hso4)
      clear hgo4 hso4
      obtain ⟨n, hn⟩ : ∃ n, xs.length = n := ⟨_, rfl⟩
      rw [hn] at hk hle hcp hcs hcg hlt ⊢
      have HN := Lib.hid hn
      clear hn
      go_wp2_with fail
      go_loopw [55] (fun i wz => ∃ k : Nat, k ≤ n ∧ i = .int .i64 k ∧ Below w4.heap.size w4 wz) (fun i _ => n - (intOf i).toNat)
      case atStart => exact ⟨0, by omega, rfl, Below.refl _ _⟩
      case round =>
        obtain ⟨k, hkn, rfl, hbz⟩ := hrel
        by_cases hlt2 : k < n
        · obtain ⟨g, rfl, hg, p0, p1⟩ := HG.out k (by rw [HN.out]; exact hlt2)
          obtain ⟨sb, rfl, hsb, s0⟩ := HS.out k (by rw [HN.out]; exact hlt2)
          have p0' := (hbz.cell (p := ⟨g, k * 2, none⟩) hg).trans p0
          have p1' := (hbz.cell (p := ⟨g, k * 2 + 1, none⟩) hg).trans p1
          have s0' := (hbz.cell (p := ⟨sb, k, none⟩) hsb).trans s0
          have g1 : g < wr.heap.size := Nat.lt_of_lt_of_le hg hbz.size
          have g2 : sb < wr.heap.size := Nat.lt_of_lt_of_le hsb hbz.size
          have hlt3 : (k : Int) < n := by omega
          have hk0 : (0 : Int) ≤ (k : Int) := by omega
          have hcg' : (n : Int) ≤ (cg : Int) := by omega
          have hcs' : (n : Int) ≤ (cs : Int) := by omega
          clear p0 p1 s0
          go_wp2_with fail
          go_quiet (fail)
          go_wp2_with fail
          go_roundw
          case rel => exact ⟨k + 1, by omega, by go_num, below_drewN (below_up hbz.size hbz _) _⟩
          case measure => simp [intOf]; omega
        · go_wp2_with fail
          go_ret
          exact ⟨rfl, hbr4.trans (hbz.mono hbr4.size)⟩
set_option maxHeartbeats 4000000 in
set_option maxRecDepth 100000 in
theorem walk_hi (A0 : Option Addr) (len cap : Nat) (zs : Nat → Int) (w : World) (hl : 50 < len) (hl' : len ≤ 100) (hlc : len ≤ cap) (hm : cap ≤ 9223372036854775807) (hc : Arg w A0 len zs) :
    Calls Try.prog 4 #[.slice A0 len cap] w fun e w' => e = .returned (.bool true) ∧ Below w.heap.size w w' := by
  obtain ⟨i0, hi, hz0, hz1, hz2⟩ := info_parts info7
  have hl0 : (50 : Int) < (len : Int) := by omega
  have hl1 : (len : Int) ≤ 100 := by omega
  have hlc' : (len : Int) ≤ (cap : Int) := by omega
  have HC := Lib.hid hc
  clear hc
  go_enter Try.func4, Try.ntmps4
  go_wp2_with fail
  -- the list, instruction by instruction
  go_loopw [3, 24] (fun v i wr => ∃ (k : Nat) (xs : List Itm), k ≤ 50 ∧ i = .int .i64 k ∧ xs.length = k ∧ (∀ x ∈ xs, x.ok) ∧ wr.ownsRow w.heap.size 24 7 v k (rows insRow xs) ∧ Below w.heap.size w wr) (fun _ i _ => 50 - (intOf i).toNat)
  case atStart => exact ⟨0, [], by omega, rfl, rfl, by simp, World.ownsRow_lit w #[] 0 (Nat.le_refl _) (by simp [maxLen]) (by simp), (Below.refl _ _).alloc (Nat.le_refl _) _⟩
  case round =>
    obtain ⟨k, xs, hk, rfl, hxl, hxo, hown, hbr⟩ := hrel
    by_cases hlt : k < 50
    · obtain ⟨b, off, rfl, hb, c1, z0, z1⟩ := HC.out k (by omega)
      have c1' := (hbr.cell (p := ⟨b, off + k, none⟩) hb).trans c1
      have hlt' : (k : Int) < 50 := by omega
      have hlt2 : (k : Int) < (len : Int) := by omega
      have hk0 : (0 : Int) ≤ (k : Int) := by omega
      have HX := Lib.hid hxl
      clear hxl c1
      go_wp2_with fail
      refine (insOf_any _ _ z0 z1).mono ?_
      rintro e w1 ⟨op, dst, src, o, c, hg, rfl, hb1⟩
      have hown1 := own_below hown hb1
      have hbr1 : Below w.heap.size w w1 := hbr.trans (hb1.mono hbr.size)
      clear hown hbr c1' hb1
      go_wp2_with (at_builtin; go_loud (refine wpList_append_lies _ rfl _ _ 33 rfl w.heap.size 24 i0 _ 7 72 Try.underlying33 hi hz0 hz1 hz2 rfl (by omega) _ k _ rfl (hown1.alloc _) ⟨w1.heap.size, 0, none⟩ 1 1 (insRow ⟨op, dst, src, o, c⟩) rfl rfl (World.news_of_block (heap_alloc_new w1 _)) (insRow_one _) (by omega) (by simp [maxLen]; omega) (by omega) (by have := hbr1.size; simp; omega) _ rfl ?_); intro g gc w2 hown2 hgrow _ _)
      have hbr2 := below_append (hbr1.alloc hbr1.size _) (hown1.alloc _) (Nat.le_refl _) (by have := hbr1.size; simp; omega) hgrow
      clear hgrow hown1 hbr1
      go_roundw
      case rel => exact ⟨k + 1, xs ++ [⟨op, dst, src, o, c⟩], by omega, by go_num, by simp [HX.out], all_snoc (y := ⟨op, dst, src, o, c⟩) hxo hg, grown_row hown2, hbr2⟩
      case measure => simp [intOf]; omega
    · obtain rfl : xs.length = k := hxl
      have hge : (50 : Int) ≤ (xs.length : Int) := by omega
      have hle : xs.length ≤ 50 := by omega
      obtain ⟨A, cp, rfl, hcp, hcm⟩ := own_form hown
      have hins := ins_of_own hown
      clear hown HC hge
      go_wp2_with fail
      refine (Starts_any A xs cp wr (by omega) hcp hcm hins).mono ?_
      rintro e w2 ⟨sv, rfl, hso, hb2⟩
      have hbr2 : Below w.heap.size w w2 := hbr.trans (hb2.mono hbr.size)
      have hins2 := (hins.below hb2).more hb2.size
      obtain ⟨As, cs, rfl, hcs, hcs2⟩ := own_form hso
      clear hins hbr hb2
      go_wp2_with fail
      refine (Walked_any A xs cp w2 hxo (by omega) hcp hcm hins2).mono ?_
      rintro e w3 ⟨gv, rfl, hgo, hb3⟩
      have hso3 := own_below hso hb3
      have hbr3 : Below w.heap.size w w3 := hbr2.trans (hb3.mono hbr2.size)
      obtain ⟨Ag, cg, rfl, hcg, hcg2⟩ := own_form hgo
      clear hins2 hso hb3 hbr2
      go_wp2_with fail
      refine (Walked_any (some ⟨w3.heap.size, 0, none⟩) [⟨149, 0, 0, 0, 0⟩] 1 _ (by simp; exact good149) (by simp) (by simp) (by simp [maxLen]) (ins_one (heap_at rfl))).mono ?_
      rintro e w4 ⟨ov, rfl, hoo, hb4⟩
      have hso4 := own_below (hso3.alloc _) hb4
      have hgo4 := own_below (hgo.alloc _) hb4
      have hbr4 : Below w.heap.size w w4 := (hbr3.alloc hbr3.size _).trans (hb4.mono (by have := hbr3.size; simp; omega))
      obtain ⟨Ao, co, rfl, _, _⟩ := own_form hoo
      clear hso3 hgo hoo hb4 hbr3
      have HG := Lib.hid (pair_cells hgo4)
      have HS := Lib.hid (start_cells hso4)
      clear hgo4 hso4
      obtain ⟨n, hn⟩ : ∃ n, xs.length = n := ⟨_, rfl⟩
      rw [hn] at hk hle hcp hcs hcg hlt ⊢
      have HN := Lib.hid hn
      clear hn
      go_wp2_with fail
      go_loopw [55] (fun i wz => ∃ k : Nat, k ≤ n ∧ i = .int .i64 k ∧ Below w4.heap.size w4 wz) (fun i _ => n - (intOf i).toNat)
      case atStart => exact ⟨0, by omega, rfl, Below.refl _ _⟩
      case round =>
        obtain ⟨k, hkn, rfl, hbz⟩ := hrel
        by_cases hlt2 : k < n
        · obtain ⟨g, rfl, hg, p0, p1⟩ := HG.out k (by rw [HN.out]; exact hlt2)
          obtain ⟨sb, rfl, hsb, s0⟩ := HS.out k (by rw [HN.out]; exact hlt2)
          have p0' := (hbz.cell (p := ⟨g, k * 2, none⟩) hg).trans p0
          have p1' := (hbz.cell (p := ⟨g, k * 2 + 1, none⟩) hg).trans p1
          have s0' := (hbz.cell (p := ⟨sb, k, none⟩) hsb).trans s0
          have g1 : g < wr.heap.size := Nat.lt_of_lt_of_le hg hbz.size
          have g2 : sb < wr.heap.size := Nat.lt_of_lt_of_le hsb hbz.size
          have hlt3 : (k : Int) < n := by omega
          have hk0 : (0 : Int) ≤ (k : Int) := by omega
          have hcg' : (n : Int) ≤ (cg : Int) := by omega
          have hcs' : (n : Int) ≤ (cs : Int) := by omega
          clear p0 p1 s0
          go_wp2_with fail
          go_quiet (fail)
          go_wp2_with fail
          go_roundw
          case rel => exact ⟨k + 1, by omega, by go_num, below_drewN (below_up hbz.size hbz _) _⟩
          case measure => simp [intOf]; omega
        · go_wp2_with fail
          go_ret
          exact ⟨rfl, hbr4.trans (hbz.mono hbr4.size)⟩
set_option maxHeartbeats 4000000 in
set_option maxRecDepth 100000 in
theorem walk_big (A0 : Option Addr) (len cap : Nat) (w : World) (hl : 100 < len) (hlc : len ≤ cap) (hm : cap ≤ 9223372036854775807) :
    Calls Try.prog 4 #[.slice A0 len cap] w fun e w' => e = .returned (.bool true) ∧ Below w.heap.size w w' := by
  have hl0 : (100 : Int) < (len : Int) := by omega
  go_enter Try.func4, Try.ntmps4
  go_wp2_with fail
  all_goals
    go_ret
    exact ⟨rfl, Below.refl _ _⟩
theorem walk (A0 : Option Addr) (len cap : Nat) (zs : Nat → Int) (w : World) (hlc : len ≤ cap) (hm : cap ≤ 9223372036854775807) (hc : Arg w A0 len zs) :
    Calls Try.prog 4 #[.slice A0 len cap] w fun e w' => e = .returned (.bool true) ∧ Below w.heap.size w w' := by
  by_cases h1 : len ≤ 50
  · exact walk_lo A0 len cap zs w h1 hlc hm hc
  by_cases h2 : len ≤ 100
  · exact walk_hi A0 len cap zs w (by omega) h2 hlc hm hc
  · exact walk_big A0 len cap w (by omega) hlc hm
theorem laidOut : laidOutB Try.prog = true := by kernel_rfl

/-- WHAT THE WALK IS TOLD OF A SLICE OF INTEGERS THAT CAME IN: it is nil; or it leads to a row of 'cap' cells, the numbers 'zs' (the first 'len' are its elements, the rest its spare room), each fitting its kind. -/
def IsRow (k : IntKind) (w : World) (a : Option Addr) (len cap : Nat) (zs : List Int) : Prop :=
  (a = none ∧ len = 0 ∧ cap = 0 ∧ zs = []) ∨
  ∃ x, a = some x ∧ len ≤ cap ∧ cap ≤ maxLen ∧ zs.length = cap ∧ (∀ i, i < zs.length → w.cell? (x.add i) = some (.int k (zs.getD i 0))) ∧ ∀ n ∈ zs, (Lit.int k n).wf = true


theorem arg_of_row {w : World} {A : Option Addr} {len cap : Nat} {zs : List Int} (h : IsRow .u32 w A len cap zs) : len ≤ cap ∧ cap ≤ 9223372036854775807 ∧ Arg w A len (fun k => zs.getD k 0) := by
  rcases h with ⟨rfl, rfl, rfl, rfl⟩ | ⟨x, rfl, hl, hm, hz, hc, hw⟩
  · exact ⟨Nat.le_refl _, by omega, fun k hk => by omega⟩
  · refine ⟨hl, by unfold maxLen at hm; omega, fun k hk => ?_⟩
    obtain ⟨b, off, rfl, hc'⟩ := ints_at hc (by omega)
    have h1 := hc' k (by omega)
    have h2 := wf_u32 (hw (zs.getD k 0) (by simp only [List.getD, List.getElem?_eq_getElem (show k < zs.length by omega), Option.getD_some]; exact List.getElem_mem _))
    exact ⟨b, off, rfl, block_lt_of_cell h1, h1, h2⟩
theorem walk_row (a0 : Option Addr) (len0 cap0 : Nat) (z0 : List Int) (w : World) (w0 : IsRow .u32 w a0 len0 cap0 z0) :
    Calls Try.prog 4 #[.slice a0 len0 cap0] w fun e w' => e = .returned (.bool true) ∧ Below w.heap.size w w' := by
  obtain ⟨h1, h2, h3⟩ := arg_of_row w0
  exact walk a0 len0 cap0 _ w h1 h2 h3

/-! ### THE ROW's STEP: WRITTEN OUT: LEAVE IT -/
set_option maxRecDepth 100000 in
theorem lifted (os : Os) (started : os.Started) (H : Type) (enc : TypeId × Value → H) :
    ReturnsInHanded {} Try.checked os 4 .any (Rows.fnWalkedSpec.pre6 enc Try.prog Try.f4 Rows.fnWalkedRow.domain false) (Rows.fnWalkedSpec.post enc Try.prog Try.f4 false true false false) := by
  refine returnsInHanded_of_change (C := Try.checked) own started (by kernel_rfl) Try.func4
    (ChangeSpec.witness6 (enc := enc) (C := Try.checked) false ⟨#[], #[.slice none 0 0], []⟩ 8 (by kernel_rfl) (by kernel_rfl) (by kernel_rfl) (by kernel_rfl)) ?_
  intro W base args ds gs before hval0 hW hcnd _
  have hval : ∀ (j : Nat) t v, Try.f4.params[j]? = some t → args[j]? = some v → Value.okWide Try.prog W .any base t v := hval0
  have hW' := hW
  obtain ⟨p, q, hA0, hV, rfl, hfz, hnd⟩ := hW
  have hA : DataW.TrodAll enc Try.prog W 0 (fun _ => true) true Try.f4.params.toList args.toList ds p := hA0
  rw [Try.params4] at hA hval
  obtain ⟨v0, vs0, d0, ds0, p0, q0, hargs, rfl, rfl, h0, r0⟩ := trodAll_cons hA
  obtain ⟨rfl, rfl, rfl⟩ := trodAll_nil r0
  obtain rfl : args = #[v0] := by cases args; simp_all
  obtain ⟨rfl, rfl⟩ := trodVars_none hV
  obtain ⟨a0, len0, cap0, rfl⟩ := okWide_slice Try.underlying32 (hval 0 32 v0 rfl rfl)
  have k0 := h0
  have lt0 : ∀ x ∈ p0, x.block < W.heap.size := by obtain ⟨m, hm⟩ := k0; exact DataW.trod_lt m _ _ _ hm
  obtain ⟨z0, w0⟩ : ∃ zs, IsRow .u32 W a0 len0 cap0 zs := by
    obtain ⟨fuel, hf⟩ := h0
    rcases open_ints Try.underlying32 Try.underlying22 (by kernel_rfl) hf with ⟨hcs, _⟩ | ⟨x, l, c, zs, hcs, _, hl, hm, hz, _, hcell, hwz⟩
    · simp [Value.cells] at hcs
      obtain ⟨rfl, rfl, rfl⟩ := hcs
      exact ⟨[], .inl ⟨rfl, rfl, rfl, rfl⟩⟩
    · simp [Value.cells] at hcs
      obtain ⟨rfl, rfl, rfl⟩ := hcs
      exact ⟨zs, .inr ⟨_, rfl, hl, hm, by simpa using hz, hcell, hwz⟩⟩
  clear hA0 hval0
  refine (walk_row a0 len0 cap0 z0 W w0).mono fun e W' ⟨he, bel⟩ => ?_
  subst he
  exact ⟨_, rfl, _, _, _, [], _, [], hW', trodAll_mk1 (shut_bool Try.underlying4 _), (trodAll_cons_mk (Below.trod laidOut (by kernel_rfl) (of_decide_eq_true (by kernel_rfl)) k0 bel lt0) trodAll_mk0), rfl, bel.frame _, fun h => by cases h⟩

theorem over : Rows.fnWalkedRow.holds Try.pinned (OpenSpec.ofChange Rows.fnWalkedSpec) :=
  OpenClaim.holds_of_wide 4 Try.f4 rfl rfl rfl rfl rfl rfl rfl ⟨rfl, rfl, rfl, rfl, rfl⟩ rfl rfl rfl rfl rfl (by kernel_rfl) Try.func4 (by kernel_rfl)
    (of_decide_eq_true (by kernel_rfl)) (by unfold Func.isWrapper; first | (rw [if_pos (by decide +kernel)]; kernel_rfl) | (rw [if_neg (by decide +kernel)]; exact ⟨rfl, rfl⟩))
    (fun os started H enc _ => lifted os started H enc)

/-- ████ THE STATEMENT ████ -/
theorem proved : Rows.FnWalkedSaid := over
#print axioms proved
end Go.Proofs.Ytobgjmgepckijaa.fnWalked
