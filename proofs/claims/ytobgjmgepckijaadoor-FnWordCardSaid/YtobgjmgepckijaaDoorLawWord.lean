/- laws.FnWord returns true at every input: classes, operations, jumps, modes, sizes, sources, orders of bytes, registers, atomic operations and codes have their words. -/
import Derived.Test.YtobgjmgepckijaaDoorKinds
import Derived.Deep.RegionHeld
import Derived.Deep.DeepCutAuto
import Derived.Outline
namespace Go.Proofs.YtobgjmgepckijaaDoor.fnWord
open Go.RowKit
set_option linter.unusedVariables false
set_option linter.unusedSimpArgs false
theorem Says.out {k n : Int} {S : ByteArray} {w : World} (h : Says k n S w) : Calls Tryd.prog 6 #[.int .i64 k, .int .i64 n] w fun e w' => e = .returned (.string S) ∧ Below w.heap.size w w' := h
theorem lt_cell {w : World} {b o : Nat} {q : Option Nat} {v : Value} (h : w.cell? ⟨b, o, q⟩ = some v) : b < w.heap.size := World.block_lt_of_cell? w ⟨b, o, q⟩ h
/-- what is kept from region to region -/
theorem keepC {w W w' : World} {b : Nat} {x y : Value} (hb : Below W.heap.size W w') (h : W.cell? ⟨b, 0, none⟩ = some x ∧ W.cell? ⟨b, 1, none⟩ = some y ∧ Below w.heap.size w W) :
    w'.cell? ⟨b, 0, none⟩ = some x ∧ w'.cell? ⟨b, 1, none⟩ = some y ∧ Below w.heap.size w w' :=
  ⟨(hb.cell (p := ⟨b, 0, none⟩) (lt_cell h.1)).trans h.1, (hb.cell (p := ⟨b, 1, none⟩) (lt_cell h.2.1)).trans h.2.1, bel_tr h.2.2 hb⟩
theorem keepD {w W : World} {b : Nat} {x y : Value} (h : W.cell? ⟨b, 0, none⟩ = some x ∧ W.cell? ⟨b, 1, none⟩ = some y ∧ Below w.heap.size w W) :
    W.drew.cell? ⟨b, 0, none⟩ = some x ∧ W.drew.cell? ⟨b, 1, none⟩ = some y ∧ Below w.heap.size w W.drew := ⟨h.1, h.2.1, h.2.2.drew⟩
theorem keepA {w W : World} {b : Nat} {x y : Value} {o : Obj} (h : W.cell? ⟨b, 0, none⟩ = some x ∧ W.cell? ⟨b, 1, none⟩ = some y ∧ Below w.heap.size w W) :
    (W.alloc o).cell? ⟨b, 0, none⟩ = some x ∧ (W.alloc o).cell? ⟨b, 1, none⟩ = some y ∧ Below w.heap.size w (W.alloc o) := keepC (by simpa using (Below.refl _ _).alloc (Nat.le_refl _) o) h
/-- a new row's cell, behind a call -/
theorem below_look {W w' : World} {l : List Value} {t : TypeId} {k : Nat} {v : Value} (hb : Below (W.alloc (.cells l.toArray t)).heap.size (W.alloc (.cells l.toArray t)) w') (h : l[k]? = some v) : w'.cell? ⟨W.heap.size, k, none⟩ = some v := by
  have h1 : w'.heap[W.heap.size]? = some (.cells l.toArray t) := (hb.block _ (by simp)).trans (heap_at rfl)
  rw [cell_of_row _ _ k _ _ _ h1]
  simpa using h
theorem below_lookD {W w' : World} {l : List Value} {t : TypeId} {k : Nat} {v : Value} (hb : Below (W.alloc (.cells l.toArray t)).drew.heap.size (W.alloc (.cells l.toArray t)).drew w') (h : l[k]? = some v) : w'.cell? ⟨W.heap.size, k, none⟩ = some v := below_look (l := l) (t := t) ⟨hb.os, hb.tape, hb.output, hb.size, hb.block⟩ h
theorem aluKeys_range : ∀ K ∈ aluKeys, 0 ≤ K ∧ K ≤ 65535 := by decide
theorem jumpKeys_range : ∀ K ∈ jumpKeys, 0 ≤ K ∧ K ≤ 255 := by decide
theorem atomKeys_range : ∀ K ∈ atomKeys, 0 ≤ K ∧ K ≤ 4294967295 := by decide
set_option maxHeartbeats 24000000 in
set_option maxRecDepth 100000 in
theorem walk (n : Int) (n0 : 0 ≤ n) (n1 : n < 4294967296) (w : World) :
    Calls Tryd.prog 3 #[.int .u32 n] w fun e w' => e = .returned (.bool true) ∧ Below w.heap.size w w' := by
  go_enter Tryd.func3, Tryd.ntmps3
  go_wp2_with fail
  refine (insOf_any _ _ n0 n1).mono ?_
  rintro e w1 ⟨op, dst, src, off, c, hg, rfl, hb1⟩
  have d0 := hg.dst0
  have d1 := hg.dst1
  have hm := hg.mem
  have hmw : op ∈ wordOps := List.mem_append_left _ hm
  have p0 := hg.op0
  have p1 := hg.op1
  have HR := Lib.hid (fun W => SayReg dst W d0 d1)
  have HSR := Lib.hid (fun W => sReg_any dst W d0 d1)
  have HC := Lib.hid (fun W => SayCode op W hmw)
  have HSC := Lib.hid (fun W => SCode_any op W hmw)
  obtain ⟨SR, hSR⟩ : ∃ S, sRegS dst = S := ⟨_, rfl⟩
  obtain ⟨SC, hSC⟩ : ∃ S, sCode op = S := ⟨_, rfl⟩
  rw [hSR] at HR HSR
  rw [hSC] at HC HSC
  have hw := wlaw_all op hm
  clear hSR hSC hmw hm hg
  have HW := Lib.hid hw
  clear hw
  go_upto_region 2 with (fail)
  obtain ⟨b1, hbk⟩ : ∃ b, w1.heap.size = b := ⟨_, rfl⟩
  refine wp_gen
    (fun w' => w'.cell? ⟨w1.heap.size, 0, none⟩ = some (.int .i64 op) ∧ w'.cell? ⟨w1.heap.size, 1, none⟩ = some (.int .i64 dst) ∧ Below w.heap.size w w')
    ?_ ?_
  · exact ⟨by simp, by simp, hb1.alloc hb1.size _⟩
  intro W hS
  rw [hbk] at hS ⊢
  clear hbk
  clear hb1
  clear w1
  go_cut [22] (fun s22 w' => s22 = .bool false ∧ w'.cell? ⟨b1, 0, none⟩ = some (.int .i64 op) ∧ w'.cell? ⟨b1, 1, none⟩ = some (.int .i64 dst) ∧ Below w.heap.size w w')
  case first =>
    go_region_held
      (fun w' => w'.cell? ⟨b1, 0, none⟩ = some (.int .i64 op) ∧ w'.cell? ⟨b1, 1, none⟩ = some (.int .i64 dst) ∧ Below w.heap.size w w')
      (first | exact keepC hb (by assumption) | assumption | exact keepD (by assumption) | exact keepA (by assumption))
      (first
        | (go_at_call 6; with_reducible refine (Says.out (HR.out _)).mono ?_; rintro e w' ⟨rfl, hb⟩)
        | (go_at_call 7; refine (HSR.out _).mono ?_; rintro e w' ⟨rfl, rfl⟩)
        | (go_at_call 6; with_reducible refine (Says.out (HC.out _)).mono ?_; rintro e w' ⟨rfl, hb⟩)
        | (go_at_call 8; refine (HSC.out _).mono ?_; rintro e w' ⟨rfl, hb⟩))
    all_goals
      go_wp2_with fail
      go_meet
      case rel =>
        exact ⟨rfl, by assumption⟩
  case rest =>
    obtain ⟨rfl, hS2⟩ := hcut
    clear hS HR HSR HC HSC
    have hw := HW.out
    clear HW
    unfold wlaw at hw
    simp only [Bool.and_eq_true, decide_eq_true_eq] at hw
    obtain ⟨⟨⟨⟨hc, hq⟩, hbb⟩, hcl⟩, hw⟩ := hw
    obtain ⟨C, hC⟩ : ∃ C, bits .and .i64 op 7 = C := ⟨_, rfl⟩
    have l8 := look_get (l := cwL) (q := C) (n := 8) (by rw [← hC]; exact hc.1) (by rw [← hC]; exact hc.2) rfl
    have l8a := look_at (l := cwL) (q := C) (n := 8) (by rw [← hC]; exact hc.1) (by rw [← hC]; exact hc.2) rfl
    rw [hC] at hc hcl
    have h0 := Lib.hid (fun W => Say0 C W hc.1 (by omega) _ (fun W => ClassString C W hc.1 (by omega)))
    rw [hcl] at h0
    obtain ⟨SK, hSK⟩ : ∃ S, cwL.getD C.toNat ⟨#[]⟩ = S := ⟨_, rfl⟩
    rw [hSK] at l8 l8a h0
    simp only [cwL, List.map_cons, List.map_nil] at l8 l8a
    obtain ⟨c0, c1⟩ := hc
    clear hcl hSK
    have HW := Lib.hid hw
    have HQ := Lib.hid hq
    have HBB := Lib.hid hbb
    clear hw hq hbb
    go_upto_region 4 with (fail)
    go_cut [33] (fun s33 w' => s33 = .bool false ∧ w'.cell? ⟨b1, 0, none⟩ = some (.int .i64 op) ∧ w'.cell? ⟨b1, 1, none⟩ = some (.int .i64 dst) ∧ Below w.heap.size w w')
    case first =>
      obtain ⟨s0, s1, s2⟩ := hS2
      have hl0 := lt_cell s0
      have hn0 := Nat.ne_of_lt hl0
      go_region_with (go_at_call 6; with_reducible refine (Says.out (h0.out _)).mono ?_; rintro e w' ⟨rfl, hb⟩; obtain ⟨k0, k1, k2⟩ := keepC hb (by first | exact keepD ⟨s0, s1, s2⟩ | exact keepD (keepA ⟨s0, s1, s2⟩)); have hl := lt_cell k0; have hn := Nat.ne_of_lt hl; (try have hcell := below_lookD hb l8a))
      all_goals
        go_wp2_with fail
        go_meet
        case rel =>
          first | exact ⟨rfl, k0, k1, k2⟩ | exact ⟨rfl, keepA ⟨k0, k1, k2⟩⟩
    case rest =>
      obtain ⟨rfl, hS3⟩ := hcut
      clear hS2 h0 l8 l8a c0 c1
      have hw := HW.out
      have hq := HQ.out
      have hbb := HBB.out
      clear HW HQ HBB
      have lsw := look_get (l := swL) (n := 2) hq.1 hq.2 rfl
      have lswa := look_at (l := swL) (n := 2) hq.1 hq.2 rfl
      have lle := look_get (l := leL) (n := 2) hq.1 hq.2 rfl
      have llea := look_at (l := leL) (n := 2) hq.1 hq.2 rfl
      obtain ⟨Q, hQ⟩ : ∃ Q, bits .and .i64 (op / 8) 1 = Q := ⟨_, rfl⟩
      obtain ⟨B, hB⟩ : ∃ B, bits .and .i64 op 8 = B := ⟨_, rfl⟩
      obtain ⟨M, hM⟩ : ∃ M, bits .and .i64 op 240 = M := ⟨_, rfl⟩
      rw [hQ] at hq lsw lswa lle llea hw
      rw [hB] at hbb hw
      rw [hM] at hw
      obtain ⟨SW, hSW⟩ : ∃ S, swL.getD Q.toNat ⟨#[]⟩ = S := ⟨_, rfl⟩
      obtain ⟨SL, hSL⟩ : ∃ S, leL.getD Q.toNat ⟨#[]⟩ = S := ⟨_, rfl⟩
      rw [hSW] at lsw lswa hw
      rw [hSL] at lle llea hw
      clear hSW hSL
      simp only [swL, List.map_cons, List.map_nil] at lsw lswa
      simp only [leL, List.map_cons, List.map_nil] at lle llea
      obtain ⟨q0, q1⟩ := hq
      have hl0 := lt_cell hS3.1
      have hn0 := Nat.ne_of_lt hl0
      obtain ⟨s0, s1, s2⟩ := hS3
      go_upto_region 7 with (fail)
      refine wp_gen
        (fun w' => w'.cell? ⟨b1, 0, none⟩ = some (.int .i64 op) ∧ w'.cell? ⟨b1, 1, none⟩ = some (.int .i64 dst) ∧ Below w.heap.size w w')
        (keepA ⟨s0, s1, s2⟩) ?_
      clear hl0 hn0 s0 s1 s2
      rintro W3 ⟨s0, s1, s2⟩
      have hl0 := lt_cell s0
      have hn0 := Nat.ne_of_lt hl0
      clear lsw lswa
      by_cases hA : kALU op = true
      · rw [if_pos hA] at hw
        have HA := Lib.hid (fun W => kALU_any op true hA W)
        by_cases hs : M = 208
        · rw [if_pos hs] at hw
          have hE : endS B = SL := by simpa using hw
          subst hs
          have H1 := Lib.hid (fun W => Say1 208 W (by decide) (by decide) ⟨#[83, 119, 97, 112]⟩ (fun W => aluString 208 W (by decide)))
          have H6 := Lib.hid (fun W => Say6 B W (by omega) (by omega) SL (same_below fun W => hE ▸ EndString B W hbb))
          clear hw hA hE hbb
          go_wp2_with (go_at_call 9; refine (HA.out _).mono ?_; rintro e w' ⟨rfl, rfl⟩)
          go_region_with (first
            | (go_at_call 6; with_reducible refine (Says.out (H1.out _)).mono ?_; rintro e w' ⟨rfl, hb⟩; obtain ⟨k0, k1, k2⟩ := keepC hb (keepD ⟨s0, s1, s2⟩); have hl := lt_cell k0; have hn := Nat.ne_of_lt hl)
            | (go_at_call 6; with_reducible refine (Says.out (H6.out _)).mono ?_; rintro e w'' ⟨rfl, hb'⟩; obtain ⟨j0, j1, j2⟩ := keepC hb' (by first | exact ⟨k0, k1, k2⟩ | exact keepA ⟨k0, k1, k2⟩); have hl' := lt_cell j0; have hn' := Nat.ne_of_lt hl'; (try have hcell := below_look hb' llea)))
          all_goals
            go_wp2_with fail
            go_ret
            first | exact ⟨rfl, j2⟩ | exact ⟨rfl, (keepA ⟨j0, j1, j2⟩).2.2⟩
        · rw [if_neg hs] at hw
          simp only [Bool.and_eq_true, decide_eq_true_eq] at hw
          obtain ⟨⟨⟨hk, e1⟩, e2⟩, ho⟩ := hw
          have HO := Lib.hid (fun W => sOper_any op _ _ _ W p0 rfl hM rfl ho)
          obtain ⟨K, hK⟩ : ∃ K, oClr op = K := ⟨_, rfl⟩
          obtain ⟨SO, hSO⟩ : ∃ S, sOper op = S := ⟨_, rfl⟩
          rw [hSO] at HO e1
          rw [hK] at hk e1
          have hK' : bits .andNot .i64 (bits .and .i64 op 65520) 8 = K := hK
          have hkr := aluKeys_range K hk
          have H1 := Lib.hid (fun W => Say1 K W hkr.1 hkr.2 SO (fun W => e1 ▸ aluString K W hk))
          have H5 := Lib.hid (fun W => Say5 B W (by omega) (by omega) SW (same_below fun W => e2 ▸ SrcString B W hbb))
          have hsb : (M == 208) = false := by simpa using hs
          have hS4 := And.intro s0 (And.intro s1 s2)
          clear hk e1 e2 ho hK hSO hbb hA s0 s1 s2 hl0 hn0 hkr
          go_wp2_with (go_at_call 9; refine (HA.out _).mono ?_; rintro e w' ⟨rfl, rfl⟩)
          go_region_held
            (fun w' => w'.cell? ⟨b1, 0, none⟩ = some (.int .i64 op) ∧ w'.cell? ⟨b1, 1, none⟩ = some (.int .i64 dst) ∧ Below w.heap.size w w')
            (first | exact keepC hb (by assumption) | assumption | exact keepD (by assumption) | exact keepA (by assumption))
            (first
            | (go_at_call 6; with_reducible refine (Says.out (H1.out _)).mono ?_; rintro e w' ⟨rfl, hb⟩)
            | (go_at_call 6; with_reducible refine (Says.out (H5.out _)).mono ?_; rintro e w' ⟨rfl, hb⟩)
            | (go_at_call 10; refine (HO.out _).mono ?_; rintro e w' ⟨rfl, hb⟩))
          all_goals
            go_wp2_with fail
            go_ret
            exact ⟨rfl, by go_split_ands; assumption⟩
      have hA' : kALU op = false := by simpa using hA
      rw [if_neg hA] at hw
      have HA := Lib.hid (fun W => kALU_any op false hA' W)
      clear hA hA' lle llea
      have hS4 := And.intro s0 (And.intro s1 s2)
      clear s0 s1 s2 hl0 hn0
      by_cases hJ : kJump op = true
      · rw [if_pos hJ] at hw
        have HJ := Lib.hid (fun W => kJump_any op true hJ W)
        simp only [Bool.and_eq_true, decide_eq_true_eq] at hw
        obtain ⟨⟨⟨hk, e1⟩, e2⟩, hj⟩ := hw
        have HO := Lib.hid (fun W => sJump_any op W p0 hj.2 hj.1)
        obtain ⟨SO, hSO⟩ : ∃ S, sJump op = S := ⟨_, rfl⟩
        rw [hSO] at HO e1
        have hkr := jumpKeys_range M hk
        have H1 := Lib.hid (fun W => Say2 M W hkr.1 hkr.2 SO (fun W => e1 ▸ jumpString M W hk))
        have H5 := Lib.hid (fun W => Say5 B W (by omega) (by omega) SW (same_below fun W => e2 ▸ SrcString B W hbb))
        clear hk e1 e2 hj hSO hbb hkr hJ
        go_wp2_with (first | (go_at_call 9; refine (HA.out _).mono ?_; rintro e w' ⟨rfl, rfl⟩) | (go_at_call 11; refine (HJ.out _).mono ?_; rintro e w' ⟨rfl, rfl⟩))
        go_region_held
          (fun w' => w'.cell? ⟨b1, 0, none⟩ = some (.int .i64 op) ∧ w'.cell? ⟨b1, 1, none⟩ = some (.int .i64 dst) ∧ Below w.heap.size w w')
          (first | exact keepC hb (by assumption) | assumption | exact keepD (by assumption) | exact keepA (by assumption))
          (first
          | (go_at_call 6; with_reducible refine (Says.out (H1.out _)).mono ?_; rintro e w' ⟨rfl, hb⟩)
          | (go_at_call 6; with_reducible refine (Says.out (H5.out _)).mono ?_; rintro e w' ⟨rfl, hb⟩)
          | (go_at_call 12; refine (HO.out _).mono ?_; rintro e w' ⟨rfl, hb⟩))
        all_goals
          go_wp2_with fail
          go_ret
          exact ⟨rfl, by go_split_ands; assumption⟩
      have hJ' : kJump op = false := by simpa using hJ
      rw [if_neg hJ] at hw
      have HJ := Lib.hid (fun W => kJump_any op false hJ' W)
      clear hJ hJ' hbb
      simp only [Bool.and_eq_true, decide_eq_true_eq] at hw
      obtain ⟨⟨⟨hz, e4⟩, h3⟩, hw⟩ := hw
      have HZ := Lib.hid (fun W => sSizeW_any op W p0 h3.2 h3.1)
      obtain ⟨Z, hZ⟩ : ∃ Z, bits .and .i64 op 24 = Z := ⟨_, rfl⟩
      obtain ⟨SZ, hSZ⟩ : ∃ S, sSizeW op = S := ⟨_, rfl⟩
      rw [hSZ] at HZ e4
      rw [hZ] at hz e4
      have H4 := Lib.hid (fun W => Say4 Z W (by omega) (by omega) SZ (same_below fun W => e4 ▸ SizeString Z W hz))
      clear hz e4 h3 hSZ
      by_cases hT : sIsAtomic op = true
      · rw [if_pos hT] at hw
        have HT := Lib.hid (fun W => hT ▸ sIsAtomic_any op W)
        simp only [Bool.and_eq_true, decide_eq_true_eq] at hw
        obtain ⟨⟨hk, e1⟩, h1⟩ := hw
        have HO := Lib.hid (fun W => sAtomW_any _ W h1)
        obtain ⟨SO, hSO⟩ : ∃ S, sAtomW (op / 256) = S := ⟨_, rfl⟩
        rw [hSO] at HO e1
        have hkr := atomKeys_range _ hk
        have hwr : IntKind.i64.wrap (op / 256 * 256) = op / 256 * 256 := by rw [IntKind.wrap_i64]; omega
        have H1 := Lib.hid (fun W => Say8 (op / 256 * 256) W hkr.1 hkr.2 SO (fun W => e1 ▸ AtomString _ W hk))
        clear hk e1 h1 hSO hT hkr
        go_wp2_with (first | (go_at_call 9; refine (HA.out _).mono ?_; rintro e w' ⟨rfl, rfl⟩) | (go_at_call 11; refine (HJ.out _).mono ?_; rintro e w' ⟨rfl, rfl⟩) | (go_at_call 13; refine (HT.out _).mono ?_; rintro e w' ⟨rfl, rfl⟩))
        go_region_held
          (fun w' => w'.cell? ⟨b1, 0, none⟩ = some (.int .i64 op) ∧ w'.cell? ⟨b1, 1, none⟩ = some (.int .i64 dst) ∧ Below w.heap.size w w')
          (first | exact keepC hb (by assumption) | assumption | exact keepD (by assumption) | exact keepA (by assumption))
          (first
          | (go_at_call 6; with_reducible refine (Says.out (H1.out _)).mono ?_; rintro e w' ⟨rfl, hb⟩)
          | (go_at_call 6; with_reducible refine (Says.out (H4.out _)).mono ?_; rintro e w' ⟨rfl, hb⟩)
          | (go_at_call 14; refine (HO.out _).mono ?_; rintro e w' ⟨rfl, rfl⟩)
          | (go_at_call 15; refine (HZ.out _).mono ?_; rintro e w' ⟨rfl, hb⟩))
        all_goals
          go_wp2_with fail
          go_ret
          exact ⟨rfl, by go_split_ands; assumption⟩
      · rw [if_neg hT] at hw
        have hT' : sIsAtomic op = false := by simpa using hT
        have HT := Lib.hid (fun W => hT' ▸ sIsAtomic_any op W)
        simp only [Bool.and_eq_true, decide_eq_true_eq] at hw
        obtain ⟨⟨hk, e1⟩, h1⟩ := hw
        have HO := Lib.hid (fun W => sModeW_any op W p0 h1.2 h1.1)
        obtain ⟨SO, hSO⟩ : ∃ S, sModeW op = S := ⟨_, rfl⟩
        obtain ⟨K, hK⟩ : ∃ K, bits .and .i64 op 224 = K := ⟨_, rfl⟩
        rw [hSO] at HO e1
        rw [hK] at hk e1
        have H1 := Lib.hid (fun W => Say3 K W (by omega) (by omega) SO (same_below fun W => e1 ▸ ModeString K W hk))
        clear hk e1 h1 hSO hT hT'
        go_wp2_with (first | (go_at_call 9; refine (HA.out _).mono ?_; rintro e w' ⟨rfl, rfl⟩) | (go_at_call 11; refine (HJ.out _).mono ?_; rintro e w' ⟨rfl, rfl⟩) | (go_at_call 13; refine (HT.out _).mono ?_; rintro e w' ⟨rfl, rfl⟩))
        go_region_held
          (fun w' => w'.cell? ⟨b1, 0, none⟩ = some (.int .i64 op) ∧ w'.cell? ⟨b1, 1, none⟩ = some (.int .i64 dst) ∧ Below w.heap.size w w')
          (first | exact keepC hb (by assumption) | assumption | exact keepD (by assumption) | exact keepA (by assumption))
          (first
          | (go_at_call 6; with_reducible refine (Says.out (H1.out _)).mono ?_; rintro e w' ⟨rfl, hb⟩)
          | (go_at_call 6; with_reducible refine (Says.out (H4.out _)).mono ?_; rintro e w' ⟨rfl, hb⟩)
          | (go_at_call 16; refine (HO.out _).mono ?_; rintro e w' ⟨rfl, hb⟩)
          | (go_at_call 15; refine (HZ.out _).mono ?_; rintro e w' ⟨rfl, hb⟩))
        all_goals
          go_wp2_with fail
          go_ret
          exact ⟨rfl, by go_split_ands; assumption⟩
end Go.Proofs.YtobgjmgepckijaaDoor.fnWord
