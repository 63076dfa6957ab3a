/- spec.Code, walked: a code's word as the reference tells it. -/
import Derived.Test.YtobgjmgepckijaaGreatDoorSpecW
import Derived.Test.YtobgjmgepckijaaGreatDoorWordC
import Derived.Outline
namespace Go.Proofs.YtobgjmgepckijaaGreatDoor
open Go.RowKit
set_option linter.unusedVariables false
set_option linter.unusedSimpArgs false
def sSm (op : Int) : ByteArray := smL.getD (bits .and .i64 (op / 8) 3).toNat ⟨#[]⟩
def sSr (op : Int) : ByteArray := srL.getD (bits .and .i64 (op / 8) 1).toNat ⟨#[]⟩
def sLe (op : Int) : ByteArray := leL.getD (bits .and .i64 (op / 8) 1).toNat ⟨#[]⟩
def sMd (op : Int) : ByteArray := mdL.getD (bits .and .i64 (op / 32) 7).toNat ⟨#[]⟩
def sCl (op : Int) : ByteArray := clL.getD (bits .and .i64 op 7).toNat ⟨#[]⟩
def sHalf (op : Int) : ByteArray := if bits .and .i64 op 7 = 6 then ⟨#[51, 50]⟩ else ⟨#[]⟩
def sCode (op : Int) : ByteArray :=
  if bits .and .i64 op 7 ≤ 3 then (sCl op ++ (if bits .and .i64 (op / 32) 7 = 6 then ⟨#[65, 116, 111, 109, 105, 99]⟩ ++ sAtomW (op / 256) else sMd op)) ++ sSm op
  else if bits .and .i64 op 7 = 7 then (if bits .and .i64 op 240 = 208 then ⟨#[66, 83, 119, 97, 112]⟩ else sOper op ++ sSr op)
  else if bits .and .i64 op 7 = 4 then (if bits .and .i64 op 240 = 208 then ⟨#[83, 119, 97, 112]⟩ ++ sLe op else (sOper op ++ sSr op) ++ ⟨#[51, 50]⟩)
  else if bits .and .i64 op 240 = 0 ∨ bits .and .i64 op 240 = 128 ∨ bits .and .i64 op 240 = 144 then sJump op ++ sHalf op else (sJump op ++ sHalf op) ++ sSr op
theorem md_ne {q : Int} (h0 : 0 ≤ q) (h1 : q < 6) : (mdL.getD q.toNat ⟨#[]⟩ == ⟨#[65, 116, 111, 109, 105, 99]⟩) = false := by
  have h : ∀ k : Fin 6, (mdL.getD k.val ⟨#[]⟩ == ⟨#[65, 116, 111, 109, 105, 99]⟩) = false := by decide
  exact h ⟨q.toNat, by omega⟩
theorem bel_al {w w1 : World} {o : Obj} (h : Below w.heap.size w w1) : Below w.heap.size w (w1.alloc o) := h.alloc h.size o
theorem bel_tr {w w1 w2 : World} (h : Below w.heap.size w w1) (h2 : Below w1.heap.size w1 w2) : Below w.heap.size w w2 := h.trans (h2.mono h.size)
def SCodePost (op : Int) (w : World) (e : Ending) (w' : World) : Prop := e = .returned (.string (sCode op)) ∧ Below w.heap.size w w'
set_option maxHeartbeats 4000000 in
set_option maxRecDepth 100000 in
theorem SCode_ls (op : Int) (w : World) (p0 : 0 ≤ op) (b3 : 0 ≤ bits .and .i64 (op / 8) 3 ∧ bits .and .i64 (op / 8) 3 < 4) (b1 : 0 ≤ bits .and .i64 (op / 8) 1 ∧ bits .and .i64 (op / 8) 1 < 2)
    (c : Int) (hc : bits .and .i64 op 7 = c) (c0 : 0 ≤ c) (c1 : c ≤ 3) (q : Int) (hq : bits .and .i64 (op / 32) 7 = q) (q0 : 0 ≤ q) (q1' : q < 6) : Calls Tryz.prog 15 #[.int .i64 op] w (SCodePost op w) := by
  obtain ⟨q3, hq3⟩ : ∃ q, bits .and .i64 (op / 8) 3 = q := ⟨_, rfl⟩
  obtain ⟨q1, hq1⟩ : ∃ q, bits .and .i64 (op / 8) 1 = q := ⟨_, rfl⟩
  have l3 := look_get (l := smL) (q := q3) (n := 4) (by rw [← hq3]; exact b3.1) (by rw [← hq3]; exact b3.2) rfl
  have l1 := look_get (l := srL) (q := q1) (n := 2) (by rw [← hq1]; exact b1.1) (by rw [← hq1]; exact b1.2) rfl
  have z3 := smL_size q3.toNat
  have z1 := srL_size q1.toNat
  have r30 : 0 ≤ q3 := by rw [← hq3]; exact b3.1
  have r31 : q3 < 4 := by rw [← hq3]; exact b3.2
  have r10 : 0 ≤ q1 := by rw [← hq1]; exact b1.1
  have r11 : q1 < 2 := by rw [← hq1]; exact b1.2
  have es3 : sSm op = smL.getD q3.toNat ⟨#[]⟩ := by unfold sSm; rw [hq3]
  have es1 : sSr op = srL.getD q1.toNat ⟨#[]⟩ := by unfold sSr; rw [hq1]
  obtain ⟨S3, hS3⟩ : ∃ S, smL.getD q3.toNat ⟨#[]⟩ = S := ⟨_, rfl⟩
  obtain ⟨S1, hS1⟩ : ∃ S, srL.getD q1.toNat ⟨#[]⟩ = S := ⟨_, rfl⟩
  rw [hS3] at l3 z3 es3
  rw [hS1] at l1 z1 es1
  simp only [smL, List.map_cons, List.map_nil] at l3
  simp only [srL, List.map_cons, List.map_nil] at l1
  have e0 : sCode op = (sCl op ++ sMd op) ++ S3 := by unfold sCode; rw [hc, if_pos c1, hq, if_neg (by omega), es3]
  have ec : sCl op = clL.getD c.toNat ⟨#[]⟩ := by unfold sCl; rw [hc]
  have em : sMd op = mdL.getD q.toNat ⟨#[]⟩ := by unfold sMd; rw [hq]
  have lc := look_get (l := clL) (q := c) (n := 4) c0 (by omega) rfl
  have lm := look_get (l := mdL) (q := q) (n := 7) q0 (by omega) rfl
  have lm2 := look_at (l := mdL) (q := q) (n := 7) q0 (by omega) rfl
  have zc := clL_size c.toNat
  have zm := mdL_size q.toNat
  have hne := md_ne q0 q1'
  have hnl := hne
  rw [beq_toListBytes, ByteArray.toList_eq ⟨#[65, 116, 111, 109, 105, 99]⟩] at hnl
  obtain ⟨SC, hSC⟩ : ∃ S, clL.getD c.toNat ⟨#[]⟩ = S := ⟨_, rfl⟩
  obtain ⟨SM, hSM⟩ : ∃ S, mdL.getD q.toNat ⟨#[]⟩ = S := ⟨_, rfl⟩
  rw [hSC] at lc zc ec
  rw [hSM] at lm lm2 zm em hne hnl
  simp only [clL, List.map_cons, List.map_nil] at lc
  simp only [mdL, List.map_cons, List.map_nil] at lm lm2
  have HSC := Lib.hid hSC
  unfold SCodePost
  rw [e0, ec, em]
  have HCL := Lib.hid (fun W => hc ▸ sClass_any op W)
  clear hc hS3 hS1 hSC hSM es3 es1 e0 ec em b3 b1
  have hcc : c = 0 ∨ c = 1 ∨ c = 2 ∨ c = 3 := by omega
  go_enter Tryz.func15, Tryz.ntmps15
  go_wp2_with fail
  refine (HCL.out _).mono ?_
  rintro e w' ⟨rfl, rfl⟩
  rcases hcc with rfl | rfl | rfl | rfl
  all_goals
    go_wp2_with (go_at_call 42; refine (HCL.out _).mono ?_; rintro e w' ⟨rfl, rfl⟩)
    go_ret
    exact ⟨by rw [← HSC.out]; rfl, by (repeat (first | exact Below.refl _ _ | apply bel_al))⟩
theorem sAtomW_size : ∀ k, (sAtomW k).size ≤ 20 := fun k => by
  unfold sAtomW
  repeat' (first | refine ite_sz (by decide +kernel) ?_ | decide +kernel)
set_option maxHeartbeats 4000000 in
set_option maxRecDepth 100000 in
theorem SCode_at
    (op : Int) (w : World) (p0 : 0 ≤ op) (b3 : 0 ≤ bits .and .i64 (op / 8) 3 ∧ bits .and .i64 (op / 8) 3 < 4) (b1 : 0 ≤ bits .and .i64 (op / 8) 1 ∧ bits .and .i64 (op / 8) 1 < 2)
    (hc : bits .and .i64 op 7 = 3) (hq : bits .and .i64 (op / 32) 7 = 6) (k : Int) (hk : op / 256 = k) (hkk : k ∈ sAtomKeys) : Calls Tryz.prog 15 #[.int .i64 op] w (SCodePost op w) := by
  obtain ⟨q3, hq3⟩ : ∃ q, bits .and .i64 (op / 8) 3 = q := ⟨_, rfl⟩
  obtain ⟨q1, hq1⟩ : ∃ q, bits .and .i64 (op / 8) 1 = q := ⟨_, rfl⟩
  have l3 := look_get (l := smL) (q := q3) (n := 4) (by rw [← hq3]; exact b3.1) (by rw [← hq3]; exact b3.2) rfl
  have l1 := look_get (l := srL) (q := q1) (n := 2) (by rw [← hq1]; exact b1.1) (by rw [← hq1]; exact b1.2) rfl
  have z3 := smL_size q3.toNat
  have z1 := srL_size q1.toNat
  have r30 : 0 ≤ q3 := by rw [← hq3]; exact b3.1
  have r31 : q3 < 4 := by rw [← hq3]; exact b3.2
  have r10 : 0 ≤ q1 := by rw [← hq1]; exact b1.1
  have r11 : q1 < 2 := by rw [← hq1]; exact b1.2
  have es3 : sSm op = smL.getD q3.toNat ⟨#[]⟩ := by unfold sSm; rw [hq3]
  have es1 : sSr op = srL.getD q1.toNat ⟨#[]⟩ := by unfold sSr; rw [hq1]
  obtain ⟨S3, hS3⟩ : ∃ S, smL.getD q3.toNat ⟨#[]⟩ = S := ⟨_, rfl⟩
  obtain ⟨S1, hS1⟩ : ∃ S, srL.getD q1.toNat ⟨#[]⟩ = S := ⟨_, rfl⟩
  rw [hS3] at l3 z3 es3
  rw [hS1] at l1 z1 es1
  simp only [smL, List.map_cons, List.map_nil] at l3
  simp only [srL, List.map_cons, List.map_nil] at l1
  have e0 : sCode op = (⟨#[83, 116, 88]⟩ ++ (⟨#[65, 116, 111, 109, 105, 99]⟩ ++ sAtomW k)) ++ S3 := by unfold sCode sCl; rw [hc, if_pos (by decide), hq, if_pos rfl, es3, hk]; rfl
  have HA := Lib.hid (fun W => sAtomW_any k W hkk)
  have zk := sAtomW_size k
  obtain ⟨SK, hSK⟩ : ∃ S, sAtomW k = S := ⟨_, rfl⟩
  rw [hSK] at HA zk e0
  unfold SCodePost
  rw [e0]
  have HCL := Lib.hid (fun W => hc ▸ sClass_any op W)
  clear hc hS3 hS1 hSK es3 es1 e0 b3 b1
  go_enter Tryz.func15, Tryz.ntmps15
  go_wp2_with (first
    | (go_at_call 42; refine (HCL.out _).mono ?_; rintro e w' ⟨rfl, rfl⟩)
    | (go_at_call 43; refine (HA.out _).mono ?_; rintro e w' ⟨rfl, rfl⟩))
  go_ret
  exact ⟨rfl, by (repeat (first | exact Below.refl _ _ | apply bel_al))⟩
theorem sOper_size (op : Int) : (sOper op).size ≤ 20 := by
  unfold sOper
  repeat' split
  all_goals first | decide | exact opL_size _
def operOk (k m q : Int) : Prop := (k = 1 ∧ (m = 48 ∨ m = 144 ∨ m = 176)) ∨ k = 2 ∨ k = 3 ∨ (k = 0 ∧ 0 ≤ q ∧ q < 14)
set_option maxHeartbeats 4000000 in
set_option maxRecDepth 100000 in
theorem SCode_bswap
    (op : Int) (w : World) (p0 : 0 ≤ op) (b3 : 0 ≤ bits .and .i64 (op / 8) 3 ∧ bits .and .i64 (op / 8) 3 < 4) (b1 : 0 ≤ bits .and .i64 (op / 8) 1 ∧ bits .and .i64 (op / 8) 1 < 2)
    (hc : bits .and .i64 op 7 = 7) (hm : bits .and .i64 op 240 = 208) : Calls Tryz.prog 15 #[.int .i64 op] w (SCodePost op w) := by
  obtain ⟨q3, hq3⟩ : ∃ q, bits .and .i64 (op / 8) 3 = q := ⟨_, rfl⟩
  obtain ⟨q1, hq1⟩ : ∃ q, bits .and .i64 (op / 8) 1 = q := ⟨_, rfl⟩
  have l3 := look_get (l := smL) (q := q3) (n := 4) (by rw [← hq3]; exact b3.1) (by rw [← hq3]; exact b3.2) rfl
  have l1 := look_get (l := srL) (q := q1) (n := 2) (by rw [← hq1]; exact b1.1) (by rw [← hq1]; exact b1.2) rfl
  have z3 := smL_size q3.toNat
  have z1 := srL_size q1.toNat
  have r30 : 0 ≤ q3 := by rw [← hq3]; exact b3.1
  have r31 : q3 < 4 := by rw [← hq3]; exact b3.2
  have r10 : 0 ≤ q1 := by rw [← hq1]; exact b1.1
  have r11 : q1 < 2 := by rw [← hq1]; exact b1.2
  have es3 : sSm op = smL.getD q3.toNat ⟨#[]⟩ := by unfold sSm; rw [hq3]
  have es1 : sSr op = srL.getD q1.toNat ⟨#[]⟩ := by unfold sSr; rw [hq1]
  obtain ⟨S3, hS3⟩ : ∃ S, smL.getD q3.toNat ⟨#[]⟩ = S := ⟨_, rfl⟩
  obtain ⟨S1, hS1⟩ : ∃ S, srL.getD q1.toNat ⟨#[]⟩ = S := ⟨_, rfl⟩
  rw [hS3] at l3 z3 es3
  rw [hS1] at l1 z1 es1
  simp only [smL, List.map_cons, List.map_nil] at l3
  simp only [srL, List.map_cons, List.map_nil] at l1
  have e0 : sCode op = ⟨#[66, 83, 119, 97, 112]⟩ := by unfold sCode; rw [hc, if_neg (by decide), if_pos rfl, if_pos hm]
  unfold SCodePost
  rw [e0]
  have HCL := Lib.hid (fun W => hc ▸ sClass_any op W)
  clear hc hS3 hS1 es3 es1 e0 b3 b1
  go_enter Tryz.func15, Tryz.ntmps15
  go_wp2_with (go_at_call 42; refine (HCL.out _).mono ?_; rintro e w' ⟨rfl, rfl⟩)
  go_ret
  exact ⟨rfl, by (repeat (first | exact Below.refl _ _ | apply bel_al))⟩
set_option maxHeartbeats 4000000 in
set_option maxRecDepth 100000 in
theorem SCode_swap
    (op : Int) (w : World) (p0 : 0 ≤ op) (b3 : 0 ≤ bits .and .i64 (op / 8) 3 ∧ bits .and .i64 (op / 8) 3 < 4) (b1 : 0 ≤ bits .and .i64 (op / 8) 1 ∧ bits .and .i64 (op / 8) 1 < 2)
    (hc : bits .and .i64 op 7 = 4) (hm : bits .and .i64 op 240 = 208) : Calls Tryz.prog 15 #[.int .i64 op] w (SCodePost op w) := by
  obtain ⟨q3, hq3⟩ : ∃ q, bits .and .i64 (op / 8) 3 = q := ⟨_, rfl⟩
  obtain ⟨q1, hq1⟩ : ∃ q, bits .and .i64 (op / 8) 1 = q := ⟨_, rfl⟩
  have l3 := look_get (l := smL) (q := q3) (n := 4) (by rw [← hq3]; exact b3.1) (by rw [← hq3]; exact b3.2) rfl
  have l1 := look_get (l := srL) (q := q1) (n := 2) (by rw [← hq1]; exact b1.1) (by rw [← hq1]; exact b1.2) rfl
  have z3 := smL_size q3.toNat
  have z1 := srL_size q1.toNat
  have r30 : 0 ≤ q3 := by rw [← hq3]; exact b3.1
  have r31 : q3 < 4 := by rw [← hq3]; exact b3.2
  have r10 : 0 ≤ q1 := by rw [← hq1]; exact b1.1
  have r11 : q1 < 2 := by rw [← hq1]; exact b1.2
  have es3 : sSm op = smL.getD q3.toNat ⟨#[]⟩ := by unfold sSm; rw [hq3]
  have es1 : sSr op = srL.getD q1.toNat ⟨#[]⟩ := by unfold sSr; rw [hq1]
  obtain ⟨S3, hS3⟩ : ∃ S, smL.getD q3.toNat ⟨#[]⟩ = S := ⟨_, rfl⟩
  obtain ⟨S1, hS1⟩ : ∃ S, srL.getD q1.toNat ⟨#[]⟩ = S := ⟨_, rfl⟩
  rw [hS3] at l3 z3 es3
  rw [hS1] at l1 z1 es1
  simp only [smL, List.map_cons, List.map_nil] at l3
  simp only [srL, List.map_cons, List.map_nil] at l1
  have lq := look_get (l := leL) (q := q1) (n := 2) r10 (by omega) rfl
  have lq2 := look_at (l := leL) (q := q1) (n := 2) r10 (by omega) rfl
  have zq := leL_size q1.toNat
  have eq1 : sLe op = leL.getD q1.toNat ⟨#[]⟩ := by unfold sLe; rw [hq1]
  obtain ⟨SL, hSL⟩ : ∃ S, leL.getD q1.toNat ⟨#[]⟩ = S := ⟨_, rfl⟩
  rw [hSL] at lq lq2 zq eq1
  simp only [leL, List.map_cons, List.map_nil] at lq lq2
  have e0 : sCode op = ⟨#[83, 119, 97, 112]⟩ ++ SL := by unfold sCode; rw [hc, if_neg (by decide), if_neg (by decide), if_pos rfl, if_pos hm, eq1]
  unfold SCodePost
  rw [e0]
  clear hSL eq1
  have HCL := Lib.hid (fun W => hc ▸ sClass_any op W)
  clear hc hS3 hS1 es3 es1 e0 b3 b1
  go_enter Tryz.func15, Tryz.ntmps15
  go_wp2_with (go_at_call 42; refine (HCL.out _).mono ?_; rintro e w' ⟨rfl, rfl⟩)
  go_ret
  exact ⟨rfl, by (repeat (first | exact Below.refl _ _ | apply bel_al))⟩
set_option maxHeartbeats 4000000 in
set_option maxRecDepth 100000 in
theorem SCode_alu
    (op : Int) (w : World) (p0 : 0 ≤ op) (b3 : 0 ≤ bits .and .i64 (op / 8) 3 ∧ bits .and .i64 (op / 8) 3 < 4) (b1 : 0 ≤ bits .and .i64 (op / 8) 1 ∧ bits .and .i64 (op / 8) 1 < 2)
    (hc : bits .and .i64 op 7 = 7) (hm : bits .and .i64 op 240 ≠ 208) (ho : operOk (op / 256) (bits .and .i64 op 240) (bits .and .i64 (op / 16) 15)) : Calls Tryz.prog 15 #[.int .i64 op] w (SCodePost op w) := by
  obtain ⟨q3, hq3⟩ : ∃ q, bits .and .i64 (op / 8) 3 = q := ⟨_, rfl⟩
  obtain ⟨q1, hq1⟩ : ∃ q, bits .and .i64 (op / 8) 1 = q := ⟨_, rfl⟩
  have l3 := look_get (l := smL) (q := q3) (n := 4) (by rw [← hq3]; exact b3.1) (by rw [← hq3]; exact b3.2) rfl
  have l1 := look_get (l := srL) (q := q1) (n := 2) (by rw [← hq1]; exact b1.1) (by rw [← hq1]; exact b1.2) rfl
  have z3 := smL_size q3.toNat
  have z1 := srL_size q1.toNat
  have r30 : 0 ≤ q3 := by rw [← hq3]; exact b3.1
  have r31 : q3 < 4 := by rw [← hq3]; exact b3.2
  have r10 : 0 ≤ q1 := by rw [← hq1]; exact b1.1
  have r11 : q1 < 2 := by rw [← hq1]; exact b1.2
  have es3 : sSm op = smL.getD q3.toNat ⟨#[]⟩ := by unfold sSm; rw [hq3]
  have es1 : sSr op = srL.getD q1.toNat ⟨#[]⟩ := by unfold sSr; rw [hq1]
  obtain ⟨S3, hS3⟩ : ∃ S, smL.getD q3.toNat ⟨#[]⟩ = S := ⟨_, rfl⟩
  obtain ⟨S1, hS1⟩ : ∃ S, srL.getD q1.toNat ⟨#[]⟩ = S := ⟨_, rfl⟩
  rw [hS3] at l3 z3 es3
  rw [hS1] at l1 z1 es1
  simp only [smL, List.map_cons, List.map_nil] at l3
  simp only [srL, List.map_cons, List.map_nil] at l1
  have e0 : sCode op = sOper op ++ S1 := by unfold sCode; rw [hc, if_neg (by decide), if_pos rfl, if_neg hm, es1]
  have HO := Lib.hid (fun W => sOper_any op _ _ _ W p0 rfl rfl rfl ho)
  have zo := sOper_size op
  have hm2 : (bits .and .i64 op 240 == 208) = false := by simpa using hm
  obtain ⟨SO, hSO⟩ : ∃ S, sOper op = S := ⟨_, rfl⟩
  rw [hSO] at HO zo e0
  unfold SCodePost
  rw [e0]
  obtain ⟨m, hmm⟩ : ∃ m, bits .and .i64 op 240 = m := ⟨_, rfl⟩
  rw [hmm] at hm hm2
  have HCL := Lib.hid (fun W => hc ▸ sClass_any op W)
  clear hc hS3 hS1 hSO es3 es1 e0 b3 b1 ho
  go_enter Tryz.func15, Tryz.ntmps15
  go_wp2_with (first
    | (go_at_call 42; refine (HCL.out _).mono ?_; rintro e w' ⟨rfl, rfl⟩)
    | (go_at_call 44; refine (HO.out _).mono ?_; rintro e w' ⟨rfl, hb⟩))
  go_ret
  exact ⟨rfl, bel_tr (by (repeat (first | exact Below.refl _ _ | apply bel_al))) hb⟩
set_option maxHeartbeats 4000000 in
set_option maxRecDepth 100000 in
theorem SCode_alu32
    (op : Int) (w : World) (p0 : 0 ≤ op) (b3 : 0 ≤ bits .and .i64 (op / 8) 3 ∧ bits .and .i64 (op / 8) 3 < 4) (b1 : 0 ≤ bits .and .i64 (op / 8) 1 ∧ bits .and .i64 (op / 8) 1 < 2)
    (hc : bits .and .i64 op 7 = 4) (hm : bits .and .i64 op 240 ≠ 208) (ho : operOk (op / 256) (bits .and .i64 op 240) (bits .and .i64 (op / 16) 15)) : Calls Tryz.prog 15 #[.int .i64 op] w (SCodePost op w) := by
  obtain ⟨q3, hq3⟩ : ∃ q, bits .and .i64 (op / 8) 3 = q := ⟨_, rfl⟩
  obtain ⟨q1, hq1⟩ : ∃ q, bits .and .i64 (op / 8) 1 = q := ⟨_, rfl⟩
  have l3 := look_get (l := smL) (q := q3) (n := 4) (by rw [← hq3]; exact b3.1) (by rw [← hq3]; exact b3.2) rfl
  have l1 := look_get (l := srL) (q := q1) (n := 2) (by rw [← hq1]; exact b1.1) (by rw [← hq1]; exact b1.2) rfl
  have z3 := smL_size q3.toNat
  have z1 := srL_size q1.toNat
  have r30 : 0 ≤ q3 := by rw [← hq3]; exact b3.1
  have r31 : q3 < 4 := by rw [← hq3]; exact b3.2
  have r10 : 0 ≤ q1 := by rw [← hq1]; exact b1.1
  have r11 : q1 < 2 := by rw [← hq1]; exact b1.2
  have es3 : sSm op = smL.getD q3.toNat ⟨#[]⟩ := by unfold sSm; rw [hq3]
  have es1 : sSr op = srL.getD q1.toNat ⟨#[]⟩ := by unfold sSr; rw [hq1]
  obtain ⟨S3, hS3⟩ : ∃ S, smL.getD q3.toNat ⟨#[]⟩ = S := ⟨_, rfl⟩
  obtain ⟨S1, hS1⟩ : ∃ S, srL.getD q1.toNat ⟨#[]⟩ = S := ⟨_, rfl⟩
  rw [hS3] at l3 z3 es3
  rw [hS1] at l1 z1 es1
  simp only [smL, List.map_cons, List.map_nil] at l3
  simp only [srL, List.map_cons, List.map_nil] at l1
  have e0 : sCode op = (sOper op ++ S1) ++ ⟨#[51, 50]⟩ := by unfold sCode; rw [hc, if_neg (by decide), if_neg (by decide), if_pos rfl, if_neg hm, es1]
  have HO := Lib.hid (fun W => sOper_any op _ _ _ W p0 rfl rfl rfl ho)
  have zo := sOper_size op
  have hm2 : (bits .and .i64 op 240 == 208) = false := by simpa using hm
  obtain ⟨SO, hSO⟩ : ∃ S, sOper op = S := ⟨_, rfl⟩
  rw [hSO] at HO zo e0
  unfold SCodePost
  rw [e0]
  obtain ⟨m, hmm⟩ : ∃ m, bits .and .i64 op 240 = m := ⟨_, rfl⟩
  rw [hmm] at hm hm2
  have HCL := Lib.hid (fun W => hc ▸ sClass_any op W)
  clear hc hS3 hS1 hSO es3 es1 e0 b3 b1 ho
  go_enter Tryz.func15, Tryz.ntmps15
  go_wp2_with (first
    | (go_at_call 42; refine (HCL.out _).mono ?_; rintro e w' ⟨rfl, rfl⟩)
    | (go_at_call 44; refine (HO.out _).mono ?_; rintro e w' ⟨rfl, hb⟩))
  go_ret
  exact ⟨rfl, bel_tr (by (repeat (first | exact Below.refl _ _ | apply bel_al))) hb⟩
set_option maxHeartbeats 4000000 in
set_option maxRecDepth 100000 in
theorem SCode_jump5
    (op : Int) (w : World) (p0 : 0 ≤ op) (b3 : 0 ≤ bits .and .i64 (op / 8) 3 ∧ bits .and .i64 (op / 8) 3 < 4) (b1 : 0 ≤ bits .and .i64 (op / 8) 1 ∧ bits .and .i64 (op / 8) 1 < 2)
    (hc : bits .and .i64 op 7 = 5) (m : Int) (hmm : bits .and .i64 op 240 = m) (hm : m ≠ 0 ∧ m ≠ 128 ∧ m ≠ 144) (hj : 0 ≤ bits .and .i64 (op / 16) 15 ∧ bits .and .i64 (op / 16) 15 < 14) : Calls Tryz.prog 15 #[.int .i64 op] w (SCodePost op w) := by
  obtain ⟨q3, hq3⟩ : ∃ q, bits .and .i64 (op / 8) 3 = q := ⟨_, rfl⟩
  obtain ⟨q1, hq1⟩ : ∃ q, bits .and .i64 (op / 8) 1 = q := ⟨_, rfl⟩
  have l3 := look_get (l := smL) (q := q3) (n := 4) (by rw [← hq3]; exact b3.1) (by rw [← hq3]; exact b3.2) rfl
  have l1 := look_get (l := srL) (q := q1) (n := 2) (by rw [← hq1]; exact b1.1) (by rw [← hq1]; exact b1.2) rfl
  have z3 := smL_size q3.toNat
  have z1 := srL_size q1.toNat
  have r30 : 0 ≤ q3 := by rw [← hq3]; exact b3.1
  have r31 : q3 < 4 := by rw [← hq3]; exact b3.2
  have r10 : 0 ≤ q1 := by rw [← hq1]; exact b1.1
  have r11 : q1 < 2 := by rw [← hq1]; exact b1.2
  have es3 : sSm op = smL.getD q3.toNat ⟨#[]⟩ := by unfold sSm; rw [hq3]
  have es1 : sSr op = srL.getD q1.toNat ⟨#[]⟩ := by unfold sSr; rw [hq1]
  obtain ⟨S3, hS3⟩ : ∃ S, smL.getD q3.toNat ⟨#[]⟩ = S := ⟨_, rfl⟩
  obtain ⟨S1, hS1⟩ : ∃ S, srL.getD q1.toNat ⟨#[]⟩ = S := ⟨_, rfl⟩
  rw [hS3] at l3 z3 es3
  rw [hS1] at l1 z1 es1
  simp only [smL, List.map_cons, List.map_nil] at l3
  simp only [srL, List.map_cons, List.map_nil] at l1
  have e0 : sCode op = (sJump op ++ ⟨#[]⟩) ++ S1 := by
    unfold sCode sHalf; rw [hc, if_neg (by decide), if_neg (by decide), if_neg (by decide), hmm, if_neg (fun h => h.elim hm.1 (fun h => h.elim hm.2.1 hm.2.2)), if_neg (by decide), es1]
  have HJ := Lib.hid (fun W => sJump_any op W p0 hj.2 hj.1)
  have zj : (sJump op).size ≤ 20 := jwL_size _
  obtain ⟨SJ, hSJ⟩ : ∃ S, sJump op = S := ⟨_, rfl⟩
  rw [hSJ] at HJ zj e0
  unfold SCodePost
  rw [e0]
  have HCL := Lib.hid (fun W => hc ▸ sClass_any op W)
  clear hc hS3 hS1 hSJ es3 es1 e0 b3 b1 hj
  have g1 : (m == 0) = false := by simpa using hm.1
  have g2 : (m == 128) = false := by simpa using hm.2.1
  have g3 : (m == 144) = false := by simpa using hm.2.2
  obtain ⟨n1, n2, n3⟩ := hm
  go_enter Tryz.func15, Tryz.ntmps15
  go_wp2_with (first
    | (go_at_call 42; refine (HCL.out _).mono ?_; rintro e w' ⟨rfl, rfl⟩)
    | (go_at_call 45; refine (HJ.out _).mono ?_; rintro e w' ⟨rfl, hb⟩))
  go_ret
  exact ⟨rfl, bel_tr (by (repeat (first | exact Below.refl _ _ | apply bel_al))) hb⟩
set_option maxHeartbeats 4000000 in
set_option maxRecDepth 100000 in
theorem SCode_jump6
    (op : Int) (w : World) (p0 : 0 ≤ op) (b3 : 0 ≤ bits .and .i64 (op / 8) 3 ∧ bits .and .i64 (op / 8) 3 < 4) (b1 : 0 ≤ bits .and .i64 (op / 8) 1 ∧ bits .and .i64 (op / 8) 1 < 2)
    (hc : bits .and .i64 op 7 = 6) (m : Int) (hmm : bits .and .i64 op 240 = m) (hm : m ≠ 0 ∧ m ≠ 128 ∧ m ≠ 144) (hj : 0 ≤ bits .and .i64 (op / 16) 15 ∧ bits .and .i64 (op / 16) 15 < 14) : Calls Tryz.prog 15 #[.int .i64 op] w (SCodePost op w) := by
  obtain ⟨q3, hq3⟩ : ∃ q, bits .and .i64 (op / 8) 3 = q := ⟨_, rfl⟩
  obtain ⟨q1, hq1⟩ : ∃ q, bits .and .i64 (op / 8) 1 = q := ⟨_, rfl⟩
  have l3 := look_get (l := smL) (q := q3) (n := 4) (by rw [← hq3]; exact b3.1) (by rw [← hq3]; exact b3.2) rfl
  have l1 := look_get (l := srL) (q := q1) (n := 2) (by rw [← hq1]; exact b1.1) (by rw [← hq1]; exact b1.2) rfl
  have z3 := smL_size q3.toNat
  have z1 := srL_size q1.toNat
  have r30 : 0 ≤ q3 := by rw [← hq3]; exact b3.1
  have r31 : q3 < 4 := by rw [← hq3]; exact b3.2
  have r10 : 0 ≤ q1 := by rw [← hq1]; exact b1.1
  have r11 : q1 < 2 := by rw [← hq1]; exact b1.2
  have es3 : sSm op = smL.getD q3.toNat ⟨#[]⟩ := by unfold sSm; rw [hq3]
  have es1 : sSr op = srL.getD q1.toNat ⟨#[]⟩ := by unfold sSr; rw [hq1]
  obtain ⟨S3, hS3⟩ : ∃ S, smL.getD q3.toNat ⟨#[]⟩ = S := ⟨_, rfl⟩
  obtain ⟨S1, hS1⟩ : ∃ S, srL.getD q1.toNat ⟨#[]⟩ = S := ⟨_, rfl⟩
  rw [hS3] at l3 z3 es3
  rw [hS1] at l1 z1 es1
  simp only [smL, List.map_cons, List.map_nil] at l3
  simp only [srL, List.map_cons, List.map_nil] at l1
  have e0 : sCode op = (sJump op ++ ⟨#[51, 50]⟩) ++ S1 := by
    unfold sCode sHalf; rw [hc, if_neg (by decide), if_neg (by decide), if_neg (by decide), hmm, if_neg (fun h => h.elim hm.1 (fun h => h.elim hm.2.1 hm.2.2)), if_pos rfl, es1]
  have HJ := Lib.hid (fun W => sJump_any op W p0 hj.2 hj.1)
  have zj : (sJump op).size ≤ 20 := jwL_size _
  obtain ⟨SJ, hSJ⟩ : ∃ S, sJump op = S := ⟨_, rfl⟩
  rw [hSJ] at HJ zj e0
  unfold SCodePost
  rw [e0]
  have HCL := Lib.hid (fun W => hc ▸ sClass_any op W)
  clear hc hS3 hS1 hSJ es3 es1 e0 b3 b1 hj
  have g1 : (m == 0) = false := by simpa using hm.1
  have g2 : (m == 128) = false := by simpa using hm.2.1
  have g3 : (m == 144) = false := by simpa using hm.2.2
  obtain ⟨n1, n2, n3⟩ := hm
  go_enter Tryz.func15, Tryz.ntmps15
  go_wp2_with (first
    | (go_at_call 42; refine (HCL.out _).mono ?_; rintro e w' ⟨rfl, rfl⟩)
    | (go_at_call 45; refine (HJ.out _).mono ?_; rintro e w' ⟨rfl, hb⟩))
  go_ret
  exact ⟨rfl, bel_tr (by (repeat (first | exact Below.refl _ _ | apply bel_al))) hb⟩
set_option maxHeartbeats 4000000 in
set_option maxRecDepth 100000 in
theorem SCode_end5
    (op : Int) (w : World) (p0 : 0 ≤ op) (b3 : 0 ≤ bits .and .i64 (op / 8) 3 ∧ bits .and .i64 (op / 8) 3 < 4) (b1 : 0 ≤ bits .and .i64 (op / 8) 1 ∧ bits .and .i64 (op / 8) 1 < 2)
    (hc : bits .and .i64 op 7 = 5) (m : Int) (hmm : bits .and .i64 op 240 = m) (hm : m = 0 ∨ m = 128 ∨ m = 144) (hj : 0 ≤ bits .and .i64 (op / 16) 15 ∧ bits .and .i64 (op / 16) 15 < 14) : Calls Tryz.prog 15 #[.int .i64 op] w (SCodePost op w) := by
  obtain ⟨q3, hq3⟩ : ∃ q, bits .and .i64 (op / 8) 3 = q := ⟨_, rfl⟩
  obtain ⟨q1, hq1⟩ : ∃ q, bits .and .i64 (op / 8) 1 = q := ⟨_, rfl⟩
  have l3 := look_get (l := smL) (q := q3) (n := 4) (by rw [← hq3]; exact b3.1) (by rw [← hq3]; exact b3.2) rfl
  have l1 := look_get (l := srL) (q := q1) (n := 2) (by rw [← hq1]; exact b1.1) (by rw [← hq1]; exact b1.2) rfl
  have z3 := smL_size q3.toNat
  have z1 := srL_size q1.toNat
  have r30 : 0 ≤ q3 := by rw [← hq3]; exact b3.1
  have r31 : q3 < 4 := by rw [← hq3]; exact b3.2
  have r10 : 0 ≤ q1 := by rw [← hq1]; exact b1.1
  have r11 : q1 < 2 := by rw [← hq1]; exact b1.2
  have es3 : sSm op = smL.getD q3.toNat ⟨#[]⟩ := by unfold sSm; rw [hq3]
  have es1 : sSr op = srL.getD q1.toNat ⟨#[]⟩ := by unfold sSr; rw [hq1]
  obtain ⟨S3, hS3⟩ : ∃ S, smL.getD q3.toNat ⟨#[]⟩ = S := ⟨_, rfl⟩
  obtain ⟨S1, hS1⟩ : ∃ S, srL.getD q1.toNat ⟨#[]⟩ = S := ⟨_, rfl⟩
  rw [hS3] at l3 z3 es3
  rw [hS1] at l1 z1 es1
  simp only [smL, List.map_cons, List.map_nil] at l3
  simp only [srL, List.map_cons, List.map_nil] at l1
  have e0 : sCode op = sJump op ++ ⟨#[]⟩ := by
    unfold sCode sHalf; rw [hc, if_neg (by decide), if_neg (by decide), if_neg (by decide), hmm, if_pos hm, if_neg (by decide)]
  have HJ := Lib.hid (fun W => sJump_any op W p0 hj.2 hj.1)
  have zj : (sJump op).size ≤ 20 := jwL_size _
  obtain ⟨SJ, hSJ⟩ : ∃ S, sJump op = S := ⟨_, rfl⟩
  rw [hSJ] at HJ zj e0
  unfold SCodePost
  rw [e0]
  have HCL := Lib.hid (fun W => hc ▸ sClass_any op W)
  clear hc hS3 hS1 hSJ es3 es1 e0 b3 b1 hj
  rcases hm with rfl | rfl | rfl
  all_goals
    go_enter Tryz.func15, Tryz.ntmps15
    go_wp2_with (first
      | (go_at_call 42; refine (HCL.out _).mono ?_; rintro e w' ⟨rfl, rfl⟩)
      | (go_at_call 45; refine (HJ.out _).mono ?_; rintro e w' ⟨rfl, hb⟩))
    go_ret
    exact ⟨by first | rfl | exact congrArg (fun s => Ending.returned (Value.string s)) (by simp), bel_tr (by (repeat (first | exact Below.refl _ _ | apply bel_al))) hb⟩
set_option maxHeartbeats 4000000 in
set_option maxRecDepth 100000 in
theorem SCode_end6
    (op : Int) (w : World) (p0 : 0 ≤ op) (b3 : 0 ≤ bits .and .i64 (op / 8) 3 ∧ bits .and .i64 (op / 8) 3 < 4) (b1 : 0 ≤ bits .and .i64 (op / 8) 1 ∧ bits .and .i64 (op / 8) 1 < 2)
    (hc : bits .and .i64 op 7 = 6) (m : Int) (hmm : bits .and .i64 op 240 = m) (hm : m = 0 ∨ m = 128 ∨ m = 144) (hj : 0 ≤ bits .and .i64 (op / 16) 15 ∧ bits .and .i64 (op / 16) 15 < 14) : Calls Tryz.prog 15 #[.int .i64 op] w (SCodePost op w) := by
  obtain ⟨q3, hq3⟩ : ∃ q, bits .and .i64 (op / 8) 3 = q := ⟨_, rfl⟩
  obtain ⟨q1, hq1⟩ : ∃ q, bits .and .i64 (op / 8) 1 = q := ⟨_, rfl⟩
  have l3 := look_get (l := smL) (q := q3) (n := 4) (by rw [← hq3]; exact b3.1) (by rw [← hq3]; exact b3.2) rfl
  have l1 := look_get (l := srL) (q := q1) (n := 2) (by rw [← hq1]; exact b1.1) (by rw [← hq1]; exact b1.2) rfl
  have z3 := smL_size q3.toNat
  have z1 := srL_size q1.toNat
  have r30 : 0 ≤ q3 := by rw [← hq3]; exact b3.1
  have r31 : q3 < 4 := by rw [← hq3]; exact b3.2
  have r10 : 0 ≤ q1 := by rw [← hq1]; exact b1.1
  have r11 : q1 < 2 := by rw [← hq1]; exact b1.2
  have es3 : sSm op = smL.getD q3.toNat ⟨#[]⟩ := by unfold sSm; rw [hq3]
  have es1 : sSr op = srL.getD q1.toNat ⟨#[]⟩ := by unfold sSr; rw [hq1]
  obtain ⟨S3, hS3⟩ : ∃ S, smL.getD q3.toNat ⟨#[]⟩ = S := ⟨_, rfl⟩
  obtain ⟨S1, hS1⟩ : ∃ S, srL.getD q1.toNat ⟨#[]⟩ = S := ⟨_, rfl⟩
  rw [hS3] at l3 z3 es3
  rw [hS1] at l1 z1 es1
  simp only [smL, List.map_cons, List.map_nil] at l3
  simp only [srL, List.map_cons, List.map_nil] at l1
  have e0 : sCode op = sJump op ++ ⟨#[51, 50]⟩ := by
    unfold sCode sHalf; rw [hc, if_neg (by decide), if_neg (by decide), if_neg (by decide), hmm, if_pos hm, if_pos rfl]
  have HJ := Lib.hid (fun W => sJump_any op W p0 hj.2 hj.1)
  have zj : (sJump op).size ≤ 20 := jwL_size _
  obtain ⟨SJ, hSJ⟩ : ∃ S, sJump op = S := ⟨_, rfl⟩
  rw [hSJ] at HJ zj e0
  unfold SCodePost
  rw [e0]
  have HCL := Lib.hid (fun W => hc ▸ sClass_any op W)
  clear hc hS3 hS1 hSJ es3 es1 e0 b3 b1 hj
  rcases hm with rfl | rfl | rfl
  all_goals
    go_enter Tryz.func15, Tryz.ntmps15
    go_wp2_with (first
      | (go_at_call 42; refine (HCL.out _).mono ?_; rintro e w' ⟨rfl, rfl⟩)
      | (go_at_call 45; refine (HJ.out _).mono ?_; rintro e w' ⟨rfl, hb⟩))
    go_ret
    exact ⟨by first | rfl | exact congrArg (fun s => Ending.returned (Value.string s)) (by simp), bel_tr (by (repeat (first | exact Below.refl _ _ | apply bel_al))) hb⟩
def schk (op : Int) : Bool :=
  let c := bits .and .i64 op 7
  let q := bits .and .i64 (op / 32) 7
  let m := bits .and .i64 op 240
  let j := bits .and .i64 (op / 16) 15
  decide (0 ≤ op) && decide (0 ≤ bits .and .i64 (op / 8) 3 ∧ bits .and .i64 (op / 8) 3 < 4) && decide (0 ≤ bits .and .i64 (op / 8) 1 ∧ bits .and .i64 (op / 8) 1 < 2) &&
  (if 0 ≤ c ∧ c ≤ 3 then (decide (0 ≤ q ∧ q < 6) || (decide (c = 3) && decide (q = 6) && decide (op / 256 ∈ sAtomKeys)))
   else if c = 7 ∨ c = 4 then (decide (m = 208) || decide ((op / 256 = 1 ∧ (m = 48 ∨ m = 144 ∨ m = 176)) ∨ op / 256 = 2 ∨ op / 256 = 3 ∨ (op / 256 = 0 ∧ 0 ≤ j ∧ j < 14)))
   else decide (c = 5 ∨ c = 6) && decide (0 ≤ j ∧ j < 14))
theorem schk_all : ∀ op ∈ wordOps, schk op = true := by decide +kernel
theorem SCode_any (op : Int) (w : World) (h : op ∈ wordOps) : Calls Tryz.prog 15 #[.int .i64 op] w fun e w' => e = .returned (.string (sCode op)) ∧ Below w.heap.size w w' := by
  have hc := schk_all op h
  unfold schk at hc
  simp only [Bool.and_eq_true, decide_eq_true_eq] at hc
  obtain ⟨⟨⟨p0, b3⟩, b1⟩, hc⟩ := hc
  change Calls _ _ _ _ (SCodePost op w)
  by_cases h1 : 0 ≤ bits .and .i64 op 7 ∧ bits .and .i64 op 7 ≤ 3
  · rw [if_pos h1] at hc
    simp only [Bool.or_eq_true, Bool.and_eq_true, decide_eq_true_eq] at hc
    rcases hc with hq | ⟨⟨h3, h6⟩, hk⟩
    · exact SCode_ls op w p0 b3 b1 _ rfl h1.1 h1.2 _ rfl hq.1 hq.2
    · exact SCode_at op w p0 b3 b1 h3 h6 _ rfl hk
  · rw [if_neg h1] at hc
    by_cases h2 : bits .and .i64 op 7 = 7 ∨ bits .and .i64 op 7 = 4
    · rw [if_pos h2] at hc
      simp only [Bool.or_eq_true, decide_eq_true_eq] at hc
      by_cases hm : bits .and .i64 op 240 = 208
      · rcases h2 with h7 | h4
        · exact SCode_bswap op w p0 b3 b1 h7 hm
        · exact SCode_swap op w p0 b3 b1 h4 hm
      · have ho := hc.resolve_left hm
        rcases h2 with h7 | h4
        · exact SCode_alu op w p0 b3 b1 h7 hm ho
        · exact SCode_alu32 op w p0 b3 b1 h4 hm ho
    · rw [if_neg h2] at hc
      simp only [Bool.and_eq_true, decide_eq_true_eq] at hc
      obtain ⟨h56, hj⟩ := hc
      by_cases hm : bits .and .i64 op 240 = 0 ∨ bits .and .i64 op 240 = 128 ∨ bits .and .i64 op 240 = 144
      · rcases h56 with h5 | h6
        · exact SCode_end5 op w p0 b3 b1 h5 _ rfl hm hj
        · exact SCode_end6 op w p0 b3 b1 h6 _ rfl hm hj
      · have hm' : bits .and .i64 op 240 ≠ 0 ∧ bits .and .i64 op 240 ≠ 128 ∧ bits .and .i64 op 240 ≠ 144 := ⟨fun h => hm (.inl h), fun h => hm (.inr (.inl h)), fun h => hm (.inr (.inr h))⟩
        rcases h56 with h5 | h6
        · exact SCode_jump5 op w p0 b3 b1 h5 _ rfl hm' hj
        · exact SCode_jump6 op w p0 b3 b1 h6 _ rfl hm' hj
/-! ## Both words are one -/
theorem code_same : ∀ op ∈ wordOps, codeW op = sCode op := by decide +kernel
end Go.Proofs.YtobgjmgepckijaaGreatDoor
