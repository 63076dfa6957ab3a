/- spec.Text, walked: loads, stores, and what is reckoned. -/
import Derived.Test.YtobgjmgepckijaaDoorTextR
import Derived.Deep.RegionHeld
import Derived.Outline
namespace Go.Proofs.YtobgjmgepckijaaDoor
open Go.RowKit
set_option linter.unusedVariables false
set_option linter.unusedSimpArgs false
set_option maxHeartbeats 4000000 in
set_option maxRecDepth 100000 in
theorem ST_ldimm (op dst src off c : Int) (r : ByteArray) (w : World) (g : SGood op dst src off c r) (hj : kJump op = false) (ha : kALU op = false) (n24 : (op == 24) = true) (n1 : (src == 1) = false) (n2 : (src == 2) = false) (hq : bits .and .i64 (op / 32) 7 = 0) :
    Calls Tryd.prog 20 #[insR op dst src off c r, fnName] w (STPost (refC (sCode op ++ (⟨#[32, 100, 115, 116, 58, 32]⟩ ++ sRegS dst ++ ⟨#[32, 105, 109, 109, 58, 32]⟩ ++ decS c)) r) w) := by
  have HK := Lib.hid (fun W => Decimal_any c W g.c0 g.c1)
  have HO := Lib.hid (fun W => Decimal_any off W (by have := g.o0; omega) (by have := g.o1; omega))
  have HD := Lib.hid (fun W => sReg_any dst W g.d0 g.d1)
  have HS := Lib.hid (fun W => sReg_any src W g.s0 g.s1)
  have HC := Lib.hid (fun W => SCode_any op W g.mem)
  have zK := decS_size g.c0 g.c1
  have zO := decS_size (n := off) (by have := g.o0; omega) (by have := g.o1; omega)
  have zD := sReg_size g.d0 g.d1
  have zS := sReg_size g.s0 g.s1
  have zC := sCode_size op g.mem
  have zR := g.rs
  have p0 := (wordOps_lt op g.mem).1
  obtain ⟨K, hK⟩ : ∃ K, decS c = K := ⟨_, rfl⟩
  obtain ⟨O, hO⟩ : ∃ O, decS off = O := ⟨_, rfl⟩
  obtain ⟨D, hD⟩ : ∃ D, sRegS dst = D := ⟨_, rfl⟩
  obtain ⟨S, hS⟩ : ∃ S, sRegS src = S := ⟨_, rfl⟩
  obtain ⟨C, hC⟩ : ∃ C, sCode op = C := ⟨_, rfl⟩
  rw [hK] at HK zK
  rw [hO] at HO zO
  rw [hD] at HD zD
  rw [hS] at HS zS
  rw [hC] at HC zC
  have HJ := Lib.hid (fun W => kJump_any op false hj W)
  have HA := Lib.hid (fun W => kALU_any op false ha W)
  
  unfold STPost
  rw [hC, hD, hK]
  clear hK hO hD hS hC hj ha g 
  rcases ref_kinds r with rfl | ⟨hl, hbr, hT⟩
  · rw [show ∀ T, refC T ⟨#[]⟩ = T from fun _ => rfl]
    go_enter Tryd.func20, Tryd.ntmps20
    go_wp2_with (first
      | (go_at_call 34; with_reducible refine (HK.out _).mono ?_; rintro e w' ⟨rfl, rfl⟩)
      | (go_at_call 34; with_reducible refine (HO.out _).mono ?_; rintro e w' ⟨rfl, rfl⟩))
    refine wp_gen (SBox w op dst src off c ⟨#[]⟩) SBox.start ?_
    intro W hb
    obtain ⟨k0, k1, k2, k3, k4, k6⟩ := hb.cells
    go_region_held (fun W' => W'.cell? ⟨w.heap.size, 1, none⟩ = some (.int .i64 dst) ∧ W'.cell? ⟨w.heap.size, 2, none⟩ = some (.int .i64 src))
      (first | exact ⟨k1, k2⟩ | assumption)
      (first
        | (go_at_call 7; with_reducible refine (HD.out _).mono ?_; rintro e w' ⟨rfl, rfl⟩)
        | (go_at_call 7; with_reducible refine (HS.out _).mono ?_; rintro e w' ⟨rfl, rfl⟩))
    have hb := hb.drew
    obtain ⟨k0, k1, k2, k3, k4, k6⟩ := hb.cells
    go_wp2_with fail
    refine (HC.out _).mono ?_
    rintro e w1 ⟨rfl, hb1⟩
    have hb := hb.below hb1
    obtain ⟨k0, k1, k2, k3, k4, k6⟩ := hb.cells
    clear hb1
    go_wp2_with (first
      | (go_at_call 11; refine (HJ.out _).mono ?_; rintro e w' ⟨rfl, rfl⟩)
      | (go_at_call 9; refine (HA.out _).mono ?_; rintro e w' ⟨rfl, rfl⟩)
      | (go_at_call 35; refine (HCL.out _).mono ?_; rintro e w' ⟨rfl, rfl⟩)
      | (go_at_call 34; with_reducible refine (HF.out _).mono ?_; rintro e w' ⟨rfl, rfl⟩)
      | (go_at_call 34; with_reducible refine (HG.out _).mono ?_; rintro e w' ⟨rfl, rfl⟩)
      | (go_at_call 21; with_reducible refine (HN.out _).mono ?_; rintro e w' ⟨rfl, rfl⟩))
    go_ret
    exact ⟨by first | rfl | exact congrArg (fun s => Ending.returned (Value.string s)) (by simp [ByteArray.append_assoc]), hb.2⟩
  · rw [hT]
    clear hT
    go_enter Tryd.func20, Tryd.ntmps20
    go_wp2_with (first
      | (go_at_call 34; with_reducible refine (HK.out _).mono ?_; rintro e w' ⟨rfl, rfl⟩)
      | (go_at_call 34; with_reducible refine (HO.out _).mono ?_; rintro e w' ⟨rfl, rfl⟩))
    refine wp_gen (SBox w op dst src off c r) SBox.start ?_
    intro W hb
    obtain ⟨k0, k1, k2, k3, k4, k6⟩ := hb.cells
    go_region_held (fun W' => W'.cell? ⟨w.heap.size, 1, none⟩ = some (.int .i64 dst) ∧ W'.cell? ⟨w.heap.size, 2, none⟩ = some (.int .i64 src))
      (first | exact ⟨k1, k2⟩ | assumption)
      (first
        | (go_at_call 7; with_reducible refine (HD.out _).mono ?_; rintro e w' ⟨rfl, rfl⟩)
        | (go_at_call 7; with_reducible refine (HS.out _).mono ?_; rintro e w' ⟨rfl, rfl⟩))
    have hb := hb.drew
    obtain ⟨k0, k1, k2, k3, k4, k6⟩ := hb.cells
    go_wp2_with fail
    refine (HC.out _).mono ?_
    rintro e w1 ⟨rfl, hb1⟩
    have hb := hb.below hb1
    obtain ⟨k0, k1, k2, k3, k4, k6⟩ := hb.cells
    clear hb1
    go_wp2_with (first
      | (go_at_call 11; refine (HJ.out _).mono ?_; rintro e w' ⟨rfl, rfl⟩)
      | (go_at_call 9; refine (HA.out _).mono ?_; rintro e w' ⟨rfl, rfl⟩)
      | (go_at_call 35; refine (HCL.out _).mono ?_; rintro e w' ⟨rfl, rfl⟩)
      | (go_at_call 34; with_reducible refine (HF.out _).mono ?_; rintro e w' ⟨rfl, rfl⟩)
      | (go_at_call 34; with_reducible refine (HG.out _).mono ?_; rintro e w' ⟨rfl, rfl⟩)
      | (go_at_call 21; with_reducible refine (HN.out _).mono ?_; rintro e w' ⟨rfl, rfl⟩))
    go_ret
    exact ⟨by first | rfl | exact congrArg (fun s => Ending.returned (Value.string s)) (by simp [ByteArray.append_assoc]), hb.2⟩
set_option maxHeartbeats 4000000 in
set_option maxRecDepth 100000 in
theorem ST_mem (op dst src off c : Int) (r : ByteArray) (w : World) (g : SGood op dst src off c r) (hj : kJump op = false) (ha : kALU op = false) (n24 : (op == 24) = false) (hq : bits .and .i64 (op / 32) 7 = 3) :
    Calls Tryd.prog 20 #[insR op dst src off c r, fnName] w (STPost (refC (sCode op ++ (⟨#[32, 100, 115, 116, 58, 32]⟩ ++ sRegS dst ++ ⟨#[32, 115, 114, 99, 58, 32]⟩ ++ sRegS src ++ ⟨#[32, 111, 102, 102, 58, 32]⟩ ++ decS off ++ ⟨#[32, 105, 109, 109, 58, 32]⟩ ++ decS c)) r) w) := by
  have HK := Lib.hid (fun W => Decimal_any c W g.c0 g.c1)
  have HO := Lib.hid (fun W => Decimal_any off W (by have := g.o0; omega) (by have := g.o1; omega))
  have HD := Lib.hid (fun W => sReg_any dst W g.d0 g.d1)
  have HS := Lib.hid (fun W => sReg_any src W g.s0 g.s1)
  have HC := Lib.hid (fun W => SCode_any op W g.mem)
  have zK := decS_size g.c0 g.c1
  have zO := decS_size (n := off) (by have := g.o0; omega) (by have := g.o1; omega)
  have zD := sReg_size g.d0 g.d1
  have zS := sReg_size g.s0 g.s1
  have zC := sCode_size op g.mem
  have zR := g.rs
  have p0 := (wordOps_lt op g.mem).1
  obtain ⟨K, hK⟩ : ∃ K, decS c = K := ⟨_, rfl⟩
  obtain ⟨O, hO⟩ : ∃ O, decS off = O := ⟨_, rfl⟩
  obtain ⟨D, hD⟩ : ∃ D, sRegS dst = D := ⟨_, rfl⟩
  obtain ⟨S, hS⟩ : ∃ S, sRegS src = S := ⟨_, rfl⟩
  obtain ⟨C, hC⟩ : ∃ C, sCode op = C := ⟨_, rfl⟩
  rw [hK] at HK zK
  rw [hO] at HO zO
  rw [hD] at HD zD
  rw [hS] at HS zS
  rw [hC] at HC zC
  have HJ := Lib.hid (fun W => kJump_any op false hj W)
  have HA := Lib.hid (fun W => kALU_any op false ha W)
  
  unfold STPost
  rw [hC, hD, hS, hO, hK]
  clear hK hO hD hS hC hj ha g 
  rcases ref_kinds r with rfl | ⟨hl, hbr, hT⟩
  · rw [show ∀ T, refC T ⟨#[]⟩ = T from fun _ => rfl]
    go_enter Tryd.func20, Tryd.ntmps20
    go_wp2_with (first
      | (go_at_call 34; with_reducible refine (HK.out _).mono ?_; rintro e w' ⟨rfl, rfl⟩)
      | (go_at_call 34; with_reducible refine (HO.out _).mono ?_; rintro e w' ⟨rfl, rfl⟩))
    refine wp_gen (SBox w op dst src off c ⟨#[]⟩) SBox.start ?_
    intro W hb
    obtain ⟨k0, k1, k2, k3, k4, k6⟩ := hb.cells
    go_region_held (fun W' => W'.cell? ⟨w.heap.size, 1, none⟩ = some (.int .i64 dst) ∧ W'.cell? ⟨w.heap.size, 2, none⟩ = some (.int .i64 src))
      (first | exact ⟨k1, k2⟩ | assumption)
      (first
        | (go_at_call 7; with_reducible refine (HD.out _).mono ?_; rintro e w' ⟨rfl, rfl⟩)
        | (go_at_call 7; with_reducible refine (HS.out _).mono ?_; rintro e w' ⟨rfl, rfl⟩))
    have hb := hb.drew
    obtain ⟨k0, k1, k2, k3, k4, k6⟩ := hb.cells
    go_wp2_with fail
    refine (HC.out _).mono ?_
    rintro e w1 ⟨rfl, hb1⟩
    have hb := hb.below hb1
    obtain ⟨k0, k1, k2, k3, k4, k6⟩ := hb.cells
    clear hb1
    go_wp2_with (first
      | (go_at_call 11; refine (HJ.out _).mono ?_; rintro e w' ⟨rfl, rfl⟩)
      | (go_at_call 9; refine (HA.out _).mono ?_; rintro e w' ⟨rfl, rfl⟩)
      | (go_at_call 35; refine (HCL.out _).mono ?_; rintro e w' ⟨rfl, rfl⟩)
      | (go_at_call 34; with_reducible refine (HF.out _).mono ?_; rintro e w' ⟨rfl, rfl⟩)
      | (go_at_call 34; with_reducible refine (HG.out _).mono ?_; rintro e w' ⟨rfl, rfl⟩)
      | (go_at_call 21; with_reducible refine (HN.out _).mono ?_; rintro e w' ⟨rfl, rfl⟩))
    go_ret
    exact ⟨by first | rfl | exact congrArg (fun s => Ending.returned (Value.string s)) (by simp [ByteArray.append_assoc]), hb.2⟩
  · rw [hT]
    clear hT
    go_enter Tryd.func20, Tryd.ntmps20
    go_wp2_with (first
      | (go_at_call 34; with_reducible refine (HK.out _).mono ?_; rintro e w' ⟨rfl, rfl⟩)
      | (go_at_call 34; with_reducible refine (HO.out _).mono ?_; rintro e w' ⟨rfl, rfl⟩))
    refine wp_gen (SBox w op dst src off c r) SBox.start ?_
    intro W hb
    obtain ⟨k0, k1, k2, k3, k4, k6⟩ := hb.cells
    go_region_held (fun W' => W'.cell? ⟨w.heap.size, 1, none⟩ = some (.int .i64 dst) ∧ W'.cell? ⟨w.heap.size, 2, none⟩ = some (.int .i64 src))
      (first | exact ⟨k1, k2⟩ | assumption)
      (first
        | (go_at_call 7; with_reducible refine (HD.out _).mono ?_; rintro e w' ⟨rfl, rfl⟩)
        | (go_at_call 7; with_reducible refine (HS.out _).mono ?_; rintro e w' ⟨rfl, rfl⟩))
    have hb := hb.drew
    obtain ⟨k0, k1, k2, k3, k4, k6⟩ := hb.cells
    go_wp2_with fail
    refine (HC.out _).mono ?_
    rintro e w1 ⟨rfl, hb1⟩
    have hb := hb.below hb1
    obtain ⟨k0, k1, k2, k3, k4, k6⟩ := hb.cells
    clear hb1
    go_wp2_with (first
      | (go_at_call 11; refine (HJ.out _).mono ?_; rintro e w' ⟨rfl, rfl⟩)
      | (go_at_call 9; refine (HA.out _).mono ?_; rintro e w' ⟨rfl, rfl⟩)
      | (go_at_call 35; refine (HCL.out _).mono ?_; rintro e w' ⟨rfl, rfl⟩)
      | (go_at_call 34; with_reducible refine (HF.out _).mono ?_; rintro e w' ⟨rfl, rfl⟩)
      | (go_at_call 34; with_reducible refine (HG.out _).mono ?_; rintro e w' ⟨rfl, rfl⟩)
      | (go_at_call 21; with_reducible refine (HN.out _).mono ?_; rintro e w' ⟨rfl, rfl⟩))
    go_ret
    exact ⟨by first | rfl | exact congrArg (fun s => Ending.returned (Value.string s)) (by simp [ByteArray.append_assoc]), hb.2⟩
set_option maxHeartbeats 4000000 in
set_option maxRecDepth 100000 in
theorem ST_memsx (op dst src off c : Int) (r : ByteArray) (w : World) (g : SGood op dst src off c r) (hj : kJump op = false) (ha : kALU op = false) (n24 : (op == 24) = false) (hq : bits .and .i64 (op / 32) 7 = 4) :
    Calls Tryd.prog 20 #[insR op dst src off c r, fnName] w (STPost (refC (sCode op ++ (⟨#[32, 100, 115, 116, 58, 32]⟩ ++ sRegS dst ++ ⟨#[32, 115, 114, 99, 58, 32]⟩ ++ sRegS src ++ ⟨#[32, 111, 102, 102, 58, 32]⟩ ++ decS off ++ ⟨#[32, 105, 109, 109, 58, 32]⟩ ++ decS c)) r) w) := by
  have HK := Lib.hid (fun W => Decimal_any c W g.c0 g.c1)
  have HO := Lib.hid (fun W => Decimal_any off W (by have := g.o0; omega) (by have := g.o1; omega))
  have HD := Lib.hid (fun W => sReg_any dst W g.d0 g.d1)
  have HS := Lib.hid (fun W => sReg_any src W g.s0 g.s1)
  have HC := Lib.hid (fun W => SCode_any op W g.mem)
  have zK := decS_size g.c0 g.c1
  have zO := decS_size (n := off) (by have := g.o0; omega) (by have := g.o1; omega)
  have zD := sReg_size g.d0 g.d1
  have zS := sReg_size g.s0 g.s1
  have zC := sCode_size op g.mem
  have zR := g.rs
  have p0 := (wordOps_lt op g.mem).1
  obtain ⟨K, hK⟩ : ∃ K, decS c = K := ⟨_, rfl⟩
  obtain ⟨O, hO⟩ : ∃ O, decS off = O := ⟨_, rfl⟩
  obtain ⟨D, hD⟩ : ∃ D, sRegS dst = D := ⟨_, rfl⟩
  obtain ⟨S, hS⟩ : ∃ S, sRegS src = S := ⟨_, rfl⟩
  obtain ⟨C, hC⟩ : ∃ C, sCode op = C := ⟨_, rfl⟩
  rw [hK] at HK zK
  rw [hO] at HO zO
  rw [hD] at HD zD
  rw [hS] at HS zS
  rw [hC] at HC zC
  have HJ := Lib.hid (fun W => kJump_any op false hj W)
  have HA := Lib.hid (fun W => kALU_any op false ha W)
  
  unfold STPost
  rw [hC, hD, hS, hO, hK]
  clear hK hO hD hS hC hj ha g 
  rcases ref_kinds r with rfl | ⟨hl, hbr, hT⟩
  · rw [show ∀ T, refC T ⟨#[]⟩ = T from fun _ => rfl]
    go_enter Tryd.func20, Tryd.ntmps20
    go_wp2_with (first
      | (go_at_call 34; with_reducible refine (HK.out _).mono ?_; rintro e w' ⟨rfl, rfl⟩)
      | (go_at_call 34; with_reducible refine (HO.out _).mono ?_; rintro e w' ⟨rfl, rfl⟩))
    refine wp_gen (SBox w op dst src off c ⟨#[]⟩) SBox.start ?_
    intro W hb
    obtain ⟨k0, k1, k2, k3, k4, k6⟩ := hb.cells
    go_region_held (fun W' => W'.cell? ⟨w.heap.size, 1, none⟩ = some (.int .i64 dst) ∧ W'.cell? ⟨w.heap.size, 2, none⟩ = some (.int .i64 src))
      (first | exact ⟨k1, k2⟩ | assumption)
      (first
        | (go_at_call 7; with_reducible refine (HD.out _).mono ?_; rintro e w' ⟨rfl, rfl⟩)
        | (go_at_call 7; with_reducible refine (HS.out _).mono ?_; rintro e w' ⟨rfl, rfl⟩))
    have hb := hb.drew
    obtain ⟨k0, k1, k2, k3, k4, k6⟩ := hb.cells
    go_wp2_with fail
    refine (HC.out _).mono ?_
    rintro e w1 ⟨rfl, hb1⟩
    have hb := hb.below hb1
    obtain ⟨k0, k1, k2, k3, k4, k6⟩ := hb.cells
    clear hb1
    go_wp2_with (first
      | (go_at_call 11; refine (HJ.out _).mono ?_; rintro e w' ⟨rfl, rfl⟩)
      | (go_at_call 9; refine (HA.out _).mono ?_; rintro e w' ⟨rfl, rfl⟩)
      | (go_at_call 35; refine (HCL.out _).mono ?_; rintro e w' ⟨rfl, rfl⟩)
      | (go_at_call 34; with_reducible refine (HF.out _).mono ?_; rintro e w' ⟨rfl, rfl⟩)
      | (go_at_call 34; with_reducible refine (HG.out _).mono ?_; rintro e w' ⟨rfl, rfl⟩)
      | (go_at_call 21; with_reducible refine (HN.out _).mono ?_; rintro e w' ⟨rfl, rfl⟩))
    go_ret
    exact ⟨by first | rfl | exact congrArg (fun s => Ending.returned (Value.string s)) (by simp [ByteArray.append_assoc]), hb.2⟩
  · rw [hT]
    clear hT
    go_enter Tryd.func20, Tryd.ntmps20
    go_wp2_with (first
      | (go_at_call 34; with_reducible refine (HK.out _).mono ?_; rintro e w' ⟨rfl, rfl⟩)
      | (go_at_call 34; with_reducible refine (HO.out _).mono ?_; rintro e w' ⟨rfl, rfl⟩))
    refine wp_gen (SBox w op dst src off c r) SBox.start ?_
    intro W hb
    obtain ⟨k0, k1, k2, k3, k4, k6⟩ := hb.cells
    go_region_held (fun W' => W'.cell? ⟨w.heap.size, 1, none⟩ = some (.int .i64 dst) ∧ W'.cell? ⟨w.heap.size, 2, none⟩ = some (.int .i64 src))
      (first | exact ⟨k1, k2⟩ | assumption)
      (first
        | (go_at_call 7; with_reducible refine (HD.out _).mono ?_; rintro e w' ⟨rfl, rfl⟩)
        | (go_at_call 7; with_reducible refine (HS.out _).mono ?_; rintro e w' ⟨rfl, rfl⟩))
    have hb := hb.drew
    obtain ⟨k0, k1, k2, k3, k4, k6⟩ := hb.cells
    go_wp2_with fail
    refine (HC.out _).mono ?_
    rintro e w1 ⟨rfl, hb1⟩
    have hb := hb.below hb1
    obtain ⟨k0, k1, k2, k3, k4, k6⟩ := hb.cells
    clear hb1
    go_wp2_with (first
      | (go_at_call 11; refine (HJ.out _).mono ?_; rintro e w' ⟨rfl, rfl⟩)
      | (go_at_call 9; refine (HA.out _).mono ?_; rintro e w' ⟨rfl, rfl⟩)
      | (go_at_call 35; refine (HCL.out _).mono ?_; rintro e w' ⟨rfl, rfl⟩)
      | (go_at_call 34; with_reducible refine (HF.out _).mono ?_; rintro e w' ⟨rfl, rfl⟩)
      | (go_at_call 34; with_reducible refine (HG.out _).mono ?_; rintro e w' ⟨rfl, rfl⟩)
      | (go_at_call 21; with_reducible refine (HN.out _).mono ?_; rintro e w' ⟨rfl, rfl⟩))
    go_ret
    exact ⟨by first | rfl | exact congrArg (fun s => Ending.returned (Value.string s)) (by simp [ByteArray.append_assoc]), hb.2⟩
set_option maxHeartbeats 4000000 in
set_option maxRecDepth 100000 in
theorem ST_atom (op dst src off c : Int) (r : ByteArray) (w : World) (g : SGood op dst src off c r) (hj : kJump op = false) (ha : kALU op = false) (n24 : (op == 24) = false) (hq : bits .and .i64 (op / 32) 7 = 6) :
    Calls Tryd.prog 20 #[insR op dst src off c r, fnName] w (STPost (refC (sCode op ++ (⟨#[32, 100, 115, 116, 58, 32]⟩ ++ sRegS dst ++ ⟨#[32, 115, 114, 99, 58, 32]⟩ ++ sRegS src ++ ⟨#[32, 111, 102, 102, 58, 32]⟩ ++ decS off)) r) w) := by
  have HK := Lib.hid (fun W => Decimal_any c W g.c0 g.c1)
  have HO := Lib.hid (fun W => Decimal_any off W (by have := g.o0; omega) (by have := g.o1; omega))
  have HD := Lib.hid (fun W => sReg_any dst W g.d0 g.d1)
  have HS := Lib.hid (fun W => sReg_any src W g.s0 g.s1)
  have HC := Lib.hid (fun W => SCode_any op W g.mem)
  have zK := decS_size g.c0 g.c1
  have zO := decS_size (n := off) (by have := g.o0; omega) (by have := g.o1; omega)
  have zD := sReg_size g.d0 g.d1
  have zS := sReg_size g.s0 g.s1
  have zC := sCode_size op g.mem
  have zR := g.rs
  have p0 := (wordOps_lt op g.mem).1
  obtain ⟨K, hK⟩ : ∃ K, decS c = K := ⟨_, rfl⟩
  obtain ⟨O, hO⟩ : ∃ O, decS off = O := ⟨_, rfl⟩
  obtain ⟨D, hD⟩ : ∃ D, sRegS dst = D := ⟨_, rfl⟩
  obtain ⟨S, hS⟩ : ∃ S, sRegS src = S := ⟨_, rfl⟩
  obtain ⟨C, hC⟩ : ∃ C, sCode op = C := ⟨_, rfl⟩
  rw [hK] at HK zK
  rw [hO] at HO zO
  rw [hD] at HD zD
  rw [hS] at HS zS
  rw [hC] at HC zC
  have HJ := Lib.hid (fun W => kJump_any op false hj W)
  have HA := Lib.hid (fun W => kALU_any op false ha W)
  
  unfold STPost
  rw [hC, hD, hS, hO]
  clear hK hO hD hS hC hj ha g 
  rcases ref_kinds r with rfl | ⟨hl, hbr, hT⟩
  · rw [show ∀ T, refC T ⟨#[]⟩ = T from fun _ => rfl]
    go_enter Tryd.func20, Tryd.ntmps20
    go_wp2_with (first
      | (go_at_call 34; with_reducible refine (HK.out _).mono ?_; rintro e w' ⟨rfl, rfl⟩)
      | (go_at_call 34; with_reducible refine (HO.out _).mono ?_; rintro e w' ⟨rfl, rfl⟩))
    refine wp_gen (SBox w op dst src off c ⟨#[]⟩) SBox.start ?_
    intro W hb
    obtain ⟨k0, k1, k2, k3, k4, k6⟩ := hb.cells
    go_region_held (fun W' => W'.cell? ⟨w.heap.size, 1, none⟩ = some (.int .i64 dst) ∧ W'.cell? ⟨w.heap.size, 2, none⟩ = some (.int .i64 src))
      (first | exact ⟨k1, k2⟩ | assumption)
      (first
        | (go_at_call 7; with_reducible refine (HD.out _).mono ?_; rintro e w' ⟨rfl, rfl⟩)
        | (go_at_call 7; with_reducible refine (HS.out _).mono ?_; rintro e w' ⟨rfl, rfl⟩))
    have hb := hb.drew
    obtain ⟨k0, k1, k2, k3, k4, k6⟩ := hb.cells
    go_wp2_with fail
    refine (HC.out _).mono ?_
    rintro e w1 ⟨rfl, hb1⟩
    have hb := hb.below hb1
    obtain ⟨k0, k1, k2, k3, k4, k6⟩ := hb.cells
    clear hb1
    go_wp2_with (first
      | (go_at_call 11; refine (HJ.out _).mono ?_; rintro e w' ⟨rfl, rfl⟩)
      | (go_at_call 9; refine (HA.out _).mono ?_; rintro e w' ⟨rfl, rfl⟩)
      | (go_at_call 35; refine (HCL.out _).mono ?_; rintro e w' ⟨rfl, rfl⟩)
      | (go_at_call 34; with_reducible refine (HF.out _).mono ?_; rintro e w' ⟨rfl, rfl⟩)
      | (go_at_call 34; with_reducible refine (HG.out _).mono ?_; rintro e w' ⟨rfl, rfl⟩)
      | (go_at_call 21; with_reducible refine (HN.out _).mono ?_; rintro e w' ⟨rfl, rfl⟩))
    go_ret
    exact ⟨by first | rfl | exact congrArg (fun s => Ending.returned (Value.string s)) (by simp [ByteArray.append_assoc]), hb.2⟩
  · rw [hT]
    clear hT
    go_enter Tryd.func20, Tryd.ntmps20
    go_wp2_with (first
      | (go_at_call 34; with_reducible refine (HK.out _).mono ?_; rintro e w' ⟨rfl, rfl⟩)
      | (go_at_call 34; with_reducible refine (HO.out _).mono ?_; rintro e w' ⟨rfl, rfl⟩))
    refine wp_gen (SBox w op dst src off c r) SBox.start ?_
    intro W hb
    obtain ⟨k0, k1, k2, k3, k4, k6⟩ := hb.cells
    go_region_held (fun W' => W'.cell? ⟨w.heap.size, 1, none⟩ = some (.int .i64 dst) ∧ W'.cell? ⟨w.heap.size, 2, none⟩ = some (.int .i64 src))
      (first | exact ⟨k1, k2⟩ | assumption)
      (first
        | (go_at_call 7; with_reducible refine (HD.out _).mono ?_; rintro e w' ⟨rfl, rfl⟩)
        | (go_at_call 7; with_reducible refine (HS.out _).mono ?_; rintro e w' ⟨rfl, rfl⟩))
    have hb := hb.drew
    obtain ⟨k0, k1, k2, k3, k4, k6⟩ := hb.cells
    go_wp2_with fail
    refine (HC.out _).mono ?_
    rintro e w1 ⟨rfl, hb1⟩
    have hb := hb.below hb1
    obtain ⟨k0, k1, k2, k3, k4, k6⟩ := hb.cells
    clear hb1
    go_wp2_with (first
      | (go_at_call 11; refine (HJ.out _).mono ?_; rintro e w' ⟨rfl, rfl⟩)
      | (go_at_call 9; refine (HA.out _).mono ?_; rintro e w' ⟨rfl, rfl⟩)
      | (go_at_call 35; refine (HCL.out _).mono ?_; rintro e w' ⟨rfl, rfl⟩)
      | (go_at_call 34; with_reducible refine (HF.out _).mono ?_; rintro e w' ⟨rfl, rfl⟩)
      | (go_at_call 34; with_reducible refine (HG.out _).mono ?_; rintro e w' ⟨rfl, rfl⟩)
      | (go_at_call 21; with_reducible refine (HN.out _).mono ?_; rintro e w' ⟨rfl, rfl⟩))
    go_ret
    exact ⟨by first | rfl | exact congrArg (fun s => Ending.returned (Value.string s)) (by simp [ByteArray.append_assoc]), hb.2⟩
set_option maxHeartbeats 4000000 in
set_option maxRecDepth 100000 in
theorem ST_bswap (op dst src off c : Int) (r : ByteArray) (w : World) (g : SGood op dst src off c r) (hj : kJump op = false) (ha : kALU op = true) (n24 : (op == 24) = false) (hm : bits .and .i64 op 240 = 208) (hc : bits .and .i64 op 7 = 7) :
    Calls Tryd.prog 20 #[insR op dst src off c r, fnName] w (STPost (refC (sCode op ++ decS c ++ (⟨#[32, 100, 115, 116, 58, 32]⟩ ++ sRegS dst ++ ⟨#[32]⟩)) r) w) := by
  have HK := Lib.hid (fun W => Decimal_any c W g.c0 g.c1)
  have HO := Lib.hid (fun W => Decimal_any off W (by have := g.o0; omega) (by have := g.o1; omega))
  have HD := Lib.hid (fun W => sReg_any dst W g.d0 g.d1)
  have HS := Lib.hid (fun W => sReg_any src W g.s0 g.s1)
  have HC := Lib.hid (fun W => SCode_any op W g.mem)
  have zK := decS_size g.c0 g.c1
  have zO := decS_size (n := off) (by have := g.o0; omega) (by have := g.o1; omega)
  have zD := sReg_size g.d0 g.d1
  have zS := sReg_size g.s0 g.s1
  have zC := sCode_size op g.mem
  have zR := g.rs
  have p0 := (wordOps_lt op g.mem).1
  obtain ⟨K, hK⟩ : ∃ K, decS c = K := ⟨_, rfl⟩
  obtain ⟨O, hO⟩ : ∃ O, decS off = O := ⟨_, rfl⟩
  obtain ⟨D, hD⟩ : ∃ D, sRegS dst = D := ⟨_, rfl⟩
  obtain ⟨S, hS⟩ : ∃ S, sRegS src = S := ⟨_, rfl⟩
  obtain ⟨C, hC⟩ : ∃ C, sCode op = C := ⟨_, rfl⟩
  rw [hK] at HK zK
  rw [hO] at HO zO
  rw [hD] at HD zD
  rw [hS] at HS zS
  rw [hC] at HC zC
  have HJ := Lib.hid (fun W => kJump_any op false hj W)
  have HA := Lib.hid (fun W => kALU_any op true ha W)
  have HCL := Lib.hid (fun W => hc ▸ sClass_any op W)
  unfold STPost
  rw [hC, hD, hK]
  clear hK hO hD hS hC hj ha g hc
  rcases ref_kinds r with rfl | ⟨hl, hbr, hT⟩
  · rw [show ∀ T, refC T ⟨#[]⟩ = T from fun _ => rfl]
    go_enter Tryd.func20, Tryd.ntmps20
    go_wp2_with (first
      | (go_at_call 34; with_reducible refine (HK.out _).mono ?_; rintro e w' ⟨rfl, rfl⟩)
      | (go_at_call 34; with_reducible refine (HO.out _).mono ?_; rintro e w' ⟨rfl, rfl⟩))
    refine wp_gen (SBox w op dst src off c ⟨#[]⟩) SBox.start ?_
    intro W hb
    obtain ⟨k0, k1, k2, k3, k4, k6⟩ := hb.cells
    go_region_held (fun W' => W'.cell? ⟨w.heap.size, 1, none⟩ = some (.int .i64 dst) ∧ W'.cell? ⟨w.heap.size, 2, none⟩ = some (.int .i64 src))
      (first | exact ⟨k1, k2⟩ | assumption)
      (first
        | (go_at_call 7; with_reducible refine (HD.out _).mono ?_; rintro e w' ⟨rfl, rfl⟩)
        | (go_at_call 7; with_reducible refine (HS.out _).mono ?_; rintro e w' ⟨rfl, rfl⟩))
    have hb := hb.drew
    obtain ⟨k0, k1, k2, k3, k4, k6⟩ := hb.cells
    go_wp2_with fail
    refine (HC.out _).mono ?_
    rintro e w1 ⟨rfl, hb1⟩
    have hb := hb.below hb1
    obtain ⟨k0, k1, k2, k3, k4, k6⟩ := hb.cells
    clear hb1
    go_wp2_with (first
      | (go_at_call 11; refine (HJ.out _).mono ?_; rintro e w' ⟨rfl, rfl⟩)
      | (go_at_call 9; refine (HA.out _).mono ?_; rintro e w' ⟨rfl, rfl⟩)
      | (go_at_call 35; refine (HCL.out _).mono ?_; rintro e w' ⟨rfl, rfl⟩)
      | (go_at_call 34; with_reducible refine (HF.out _).mono ?_; rintro e w' ⟨rfl, rfl⟩)
      | (go_at_call 34; with_reducible refine (HG.out _).mono ?_; rintro e w' ⟨rfl, rfl⟩)
      | (go_at_call 21; with_reducible refine (HN.out _).mono ?_; rintro e w' ⟨rfl, rfl⟩))
    go_ret
    exact ⟨by first | rfl | exact congrArg (fun s => Ending.returned (Value.string s)) (by simp [ByteArray.append_assoc]), hb.2⟩
  · rw [hT]
    clear hT
    go_enter Tryd.func20, Tryd.ntmps20
    go_wp2_with (first
      | (go_at_call 34; with_reducible refine (HK.out _).mono ?_; rintro e w' ⟨rfl, rfl⟩)
      | (go_at_call 34; with_reducible refine (HO.out _).mono ?_; rintro e w' ⟨rfl, rfl⟩))
    refine wp_gen (SBox w op dst src off c r) SBox.start ?_
    intro W hb
    obtain ⟨k0, k1, k2, k3, k4, k6⟩ := hb.cells
    go_region_held (fun W' => W'.cell? ⟨w.heap.size, 1, none⟩ = some (.int .i64 dst) ∧ W'.cell? ⟨w.heap.size, 2, none⟩ = some (.int .i64 src))
      (first | exact ⟨k1, k2⟩ | assumption)
      (first
        | (go_at_call 7; with_reducible refine (HD.out _).mono ?_; rintro e w' ⟨rfl, rfl⟩)
        | (go_at_call 7; with_reducible refine (HS.out _).mono ?_; rintro e w' ⟨rfl, rfl⟩))
    have hb := hb.drew
    obtain ⟨k0, k1, k2, k3, k4, k6⟩ := hb.cells
    go_wp2_with fail
    refine (HC.out _).mono ?_
    rintro e w1 ⟨rfl, hb1⟩
    have hb := hb.below hb1
    obtain ⟨k0, k1, k2, k3, k4, k6⟩ := hb.cells
    clear hb1
    go_wp2_with (first
      | (go_at_call 11; refine (HJ.out _).mono ?_; rintro e w' ⟨rfl, rfl⟩)
      | (go_at_call 9; refine (HA.out _).mono ?_; rintro e w' ⟨rfl, rfl⟩)
      | (go_at_call 35; refine (HCL.out _).mono ?_; rintro e w' ⟨rfl, rfl⟩)
      | (go_at_call 34; with_reducible refine (HF.out _).mono ?_; rintro e w' ⟨rfl, rfl⟩)
      | (go_at_call 34; with_reducible refine (HG.out _).mono ?_; rintro e w' ⟨rfl, rfl⟩)
      | (go_at_call 21; with_reducible refine (HN.out _).mono ?_; rintro e w' ⟨rfl, rfl⟩))
    go_ret
    exact ⟨by first | rfl | exact congrArg (fun s => Ending.returned (Value.string s)) (by simp [ByteArray.append_assoc]), hb.2⟩
set_option maxHeartbeats 4000000 in
set_option maxRecDepth 100000 in
theorem ST_swap (op dst src off c : Int) (r : ByteArray) (w : World) (g : SGood op dst src off c r) (hj : kJump op = false) (ha : kALU op = true) (n24 : (op == 24) = false) (hm : bits .and .i64 op 240 = 208) (hc : bits .and .i64 op 7 = 4) :
    Calls Tryd.prog 20 #[insR op dst src off c r, fnName] w (STPost (refC (sCode op ++ (⟨#[32, 100, 115, 116, 58, 32]⟩ ++ sRegS dst ++ ⟨#[32]⟩)) r) w) := by
  have HK := Lib.hid (fun W => Decimal_any c W g.c0 g.c1)
  have HO := Lib.hid (fun W => Decimal_any off W (by have := g.o0; omega) (by have := g.o1; omega))
  have HD := Lib.hid (fun W => sReg_any dst W g.d0 g.d1)
  have HS := Lib.hid (fun W => sReg_any src W g.s0 g.s1)
  have HC := Lib.hid (fun W => SCode_any op W g.mem)
  have zK := decS_size g.c0 g.c1
  have zO := decS_size (n := off) (by have := g.o0; omega) (by have := g.o1; omega)
  have zD := sReg_size g.d0 g.d1
  have zS := sReg_size g.s0 g.s1
  have zC := sCode_size op g.mem
  have zR := g.rs
  have p0 := (wordOps_lt op g.mem).1
  obtain ⟨K, hK⟩ : ∃ K, decS c = K := ⟨_, rfl⟩
  obtain ⟨O, hO⟩ : ∃ O, decS off = O := ⟨_, rfl⟩
  obtain ⟨D, hD⟩ : ∃ D, sRegS dst = D := ⟨_, rfl⟩
  obtain ⟨S, hS⟩ : ∃ S, sRegS src = S := ⟨_, rfl⟩
  obtain ⟨C, hC⟩ : ∃ C, sCode op = C := ⟨_, rfl⟩
  rw [hK] at HK zK
  rw [hO] at HO zO
  rw [hD] at HD zD
  rw [hS] at HS zS
  rw [hC] at HC zC
  have HJ := Lib.hid (fun W => kJump_any op false hj W)
  have HA := Lib.hid (fun W => kALU_any op true ha W)
  have HCL := Lib.hid (fun W => hc ▸ sClass_any op W)
  unfold STPost
  rw [hC, hD]
  clear hK hO hD hS hC hj ha g hc
  rcases ref_kinds r with rfl | ⟨hl, hbr, hT⟩
  · rw [show ∀ T, refC T ⟨#[]⟩ = T from fun _ => rfl]
    go_enter Tryd.func20, Tryd.ntmps20
    go_wp2_with (first
      | (go_at_call 34; with_reducible refine (HK.out _).mono ?_; rintro e w' ⟨rfl, rfl⟩)
      | (go_at_call 34; with_reducible refine (HO.out _).mono ?_; rintro e w' ⟨rfl, rfl⟩))
    refine wp_gen (SBox w op dst src off c ⟨#[]⟩) SBox.start ?_
    intro W hb
    obtain ⟨k0, k1, k2, k3, k4, k6⟩ := hb.cells
    go_region_held (fun W' => W'.cell? ⟨w.heap.size, 1, none⟩ = some (.int .i64 dst) ∧ W'.cell? ⟨w.heap.size, 2, none⟩ = some (.int .i64 src))
      (first | exact ⟨k1, k2⟩ | assumption)
      (first
        | (go_at_call 7; with_reducible refine (HD.out _).mono ?_; rintro e w' ⟨rfl, rfl⟩)
        | (go_at_call 7; with_reducible refine (HS.out _).mono ?_; rintro e w' ⟨rfl, rfl⟩))
    have hb := hb.drew
    obtain ⟨k0, k1, k2, k3, k4, k6⟩ := hb.cells
    go_wp2_with fail
    refine (HC.out _).mono ?_
    rintro e w1 ⟨rfl, hb1⟩
    have hb := hb.below hb1
    obtain ⟨k0, k1, k2, k3, k4, k6⟩ := hb.cells
    clear hb1
    go_wp2_with (first
      | (go_at_call 11; refine (HJ.out _).mono ?_; rintro e w' ⟨rfl, rfl⟩)
      | (go_at_call 9; refine (HA.out _).mono ?_; rintro e w' ⟨rfl, rfl⟩)
      | (go_at_call 35; refine (HCL.out _).mono ?_; rintro e w' ⟨rfl, rfl⟩)
      | (go_at_call 34; with_reducible refine (HF.out _).mono ?_; rintro e w' ⟨rfl, rfl⟩)
      | (go_at_call 34; with_reducible refine (HG.out _).mono ?_; rintro e w' ⟨rfl, rfl⟩)
      | (go_at_call 21; with_reducible refine (HN.out _).mono ?_; rintro e w' ⟨rfl, rfl⟩))
    go_ret
    exact ⟨by first | rfl | exact congrArg (fun s => Ending.returned (Value.string s)) (by simp [ByteArray.append_assoc]), hb.2⟩
  · rw [hT]
    clear hT
    go_enter Tryd.func20, Tryd.ntmps20
    go_wp2_with (first
      | (go_at_call 34; with_reducible refine (HK.out _).mono ?_; rintro e w' ⟨rfl, rfl⟩)
      | (go_at_call 34; with_reducible refine (HO.out _).mono ?_; rintro e w' ⟨rfl, rfl⟩))
    refine wp_gen (SBox w op dst src off c r) SBox.start ?_
    intro W hb
    obtain ⟨k0, k1, k2, k3, k4, k6⟩ := hb.cells
    go_region_held (fun W' => W'.cell? ⟨w.heap.size, 1, none⟩ = some (.int .i64 dst) ∧ W'.cell? ⟨w.heap.size, 2, none⟩ = some (.int .i64 src))
      (first | exact ⟨k1, k2⟩ | assumption)
      (first
        | (go_at_call 7; with_reducible refine (HD.out _).mono ?_; rintro e w' ⟨rfl, rfl⟩)
        | (go_at_call 7; with_reducible refine (HS.out _).mono ?_; rintro e w' ⟨rfl, rfl⟩))
    have hb := hb.drew
    obtain ⟨k0, k1, k2, k3, k4, k6⟩ := hb.cells
    go_wp2_with fail
    refine (HC.out _).mono ?_
    rintro e w1 ⟨rfl, hb1⟩
    have hb := hb.below hb1
    obtain ⟨k0, k1, k2, k3, k4, k6⟩ := hb.cells
    clear hb1
    go_wp2_with (first
      | (go_at_call 11; refine (HJ.out _).mono ?_; rintro e w' ⟨rfl, rfl⟩)
      | (go_at_call 9; refine (HA.out _).mono ?_; rintro e w' ⟨rfl, rfl⟩)
      | (go_at_call 35; refine (HCL.out _).mono ?_; rintro e w' ⟨rfl, rfl⟩)
      | (go_at_call 34; with_reducible refine (HF.out _).mono ?_; rintro e w' ⟨rfl, rfl⟩)
      | (go_at_call 34; with_reducible refine (HG.out _).mono ?_; rintro e w' ⟨rfl, rfl⟩)
      | (go_at_call 21; with_reducible refine (HN.out _).mono ?_; rintro e w' ⟨rfl, rfl⟩))
    go_ret
    exact ⟨by first | rfl | exact congrArg (fun s => Ending.returned (Value.string s)) (by simp [ByteArray.append_assoc]), hb.2⟩
set_option maxHeartbeats 4000000 in
set_option maxRecDepth 100000 in
theorem ST_alui (op dst src off c : Int) (r : ByteArray) (w : World) (g : SGood op dst src off c r) (hj : kJump op = false) (ha : kALU op = true) (n24 : (op == 24) = false) (m : Int) (hm : bits .and .i64 op 240 = m) (nm : ¬ m = 208) (nm2 : (m == 208) = false) (hq : bits .and .i64 (op / 8) 1 = 0) :
    Calls Tryd.prog 20 #[insR op dst src off c r, fnName] w (STPost (refC (sCode op ++ (⟨#[32, 100, 115, 116, 58, 32]⟩ ++ sRegS dst) ++ (⟨#[32, 105, 109, 109, 58, 32]⟩ ++ decS c)) r) w) := by
  have HK := Lib.hid (fun W => Decimal_any c W g.c0 g.c1)
  have HO := Lib.hid (fun W => Decimal_any off W (by have := g.o0; omega) (by have := g.o1; omega))
  have HD := Lib.hid (fun W => sReg_any dst W g.d0 g.d1)
  have HS := Lib.hid (fun W => sReg_any src W g.s0 g.s1)
  have HC := Lib.hid (fun W => SCode_any op W g.mem)
  have zK := decS_size g.c0 g.c1
  have zO := decS_size (n := off) (by have := g.o0; omega) (by have := g.o1; omega)
  have zD := sReg_size g.d0 g.d1
  have zS := sReg_size g.s0 g.s1
  have zC := sCode_size op g.mem
  have zR := g.rs
  have p0 := (wordOps_lt op g.mem).1
  obtain ⟨K, hK⟩ : ∃ K, decS c = K := ⟨_, rfl⟩
  obtain ⟨O, hO⟩ : ∃ O, decS off = O := ⟨_, rfl⟩
  obtain ⟨D, hD⟩ : ∃ D, sRegS dst = D := ⟨_, rfl⟩
  obtain ⟨S, hS⟩ : ∃ S, sRegS src = S := ⟨_, rfl⟩
  obtain ⟨C, hC⟩ : ∃ C, sCode op = C := ⟨_, rfl⟩
  rw [hK] at HK zK
  rw [hO] at HO zO
  rw [hD] at HD zD
  rw [hS] at HS zS
  rw [hC] at HC zC
  have HJ := Lib.hid (fun W => kJump_any op false hj W)
  have HA := Lib.hid (fun W => kALU_any op true ha W)
  
  unfold STPost
  rw [hC, hD, hK]
  clear hK hO hD hS hC hj ha g 
  rcases ref_kinds r with rfl | ⟨hl, hbr, hT⟩
  · rw [show ∀ T, refC T ⟨#[]⟩ = T from fun _ => rfl]
    go_enter Tryd.func20, Tryd.ntmps20
    go_wp2_with (first
      | (go_at_call 34; with_reducible refine (HK.out _).mono ?_; rintro e w' ⟨rfl, rfl⟩)
      | (go_at_call 34; with_reducible refine (HO.out _).mono ?_; rintro e w' ⟨rfl, rfl⟩))
    refine wp_gen (SBox w op dst src off c ⟨#[]⟩) SBox.start ?_
    intro W hb
    obtain ⟨k0, k1, k2, k3, k4, k6⟩ := hb.cells
    go_region_held (fun W' => W'.cell? ⟨w.heap.size, 1, none⟩ = some (.int .i64 dst) ∧ W'.cell? ⟨w.heap.size, 2, none⟩ = some (.int .i64 src))
      (first | exact ⟨k1, k2⟩ | assumption)
      (first
        | (go_at_call 7; with_reducible refine (HD.out _).mono ?_; rintro e w' ⟨rfl, rfl⟩)
        | (go_at_call 7; with_reducible refine (HS.out _).mono ?_; rintro e w' ⟨rfl, rfl⟩))
    have hb := hb.drew
    obtain ⟨k0, k1, k2, k3, k4, k6⟩ := hb.cells
    go_wp2_with fail
    refine (HC.out _).mono ?_
    rintro e w1 ⟨rfl, hb1⟩
    have hb := hb.below hb1
    obtain ⟨k0, k1, k2, k3, k4, k6⟩ := hb.cells
    clear hb1
    go_wp2_with (first
      | (go_at_call 11; refine (HJ.out _).mono ?_; rintro e w' ⟨rfl, rfl⟩)
      | (go_at_call 9; refine (HA.out _).mono ?_; rintro e w' ⟨rfl, rfl⟩)
      | (go_at_call 35; refine (HCL.out _).mono ?_; rintro e w' ⟨rfl, rfl⟩)
      | (go_at_call 34; with_reducible refine (HF.out _).mono ?_; rintro e w' ⟨rfl, rfl⟩)
      | (go_at_call 34; with_reducible refine (HG.out _).mono ?_; rintro e w' ⟨rfl, rfl⟩)
      | (go_at_call 21; with_reducible refine (HN.out _).mono ?_; rintro e w' ⟨rfl, rfl⟩))
    go_ret
    exact ⟨by first | rfl | exact congrArg (fun s => Ending.returned (Value.string s)) (by simp [ByteArray.append_assoc]), hb.2⟩
  · rw [hT]
    clear hT
    go_enter Tryd.func20, Tryd.ntmps20
    go_wp2_with (first
      | (go_at_call 34; with_reducible refine (HK.out _).mono ?_; rintro e w' ⟨rfl, rfl⟩)
      | (go_at_call 34; with_reducible refine (HO.out _).mono ?_; rintro e w' ⟨rfl, rfl⟩))
    refine wp_gen (SBox w op dst src off c r) SBox.start ?_
    intro W hb
    obtain ⟨k0, k1, k2, k3, k4, k6⟩ := hb.cells
    go_region_held (fun W' => W'.cell? ⟨w.heap.size, 1, none⟩ = some (.int .i64 dst) ∧ W'.cell? ⟨w.heap.size, 2, none⟩ = some (.int .i64 src))
      (first | exact ⟨k1, k2⟩ | assumption)
      (first
        | (go_at_call 7; with_reducible refine (HD.out _).mono ?_; rintro e w' ⟨rfl, rfl⟩)
        | (go_at_call 7; with_reducible refine (HS.out _).mono ?_; rintro e w' ⟨rfl, rfl⟩))
    have hb := hb.drew
    obtain ⟨k0, k1, k2, k3, k4, k6⟩ := hb.cells
    go_wp2_with fail
    refine (HC.out _).mono ?_
    rintro e w1 ⟨rfl, hb1⟩
    have hb := hb.below hb1
    obtain ⟨k0, k1, k2, k3, k4, k6⟩ := hb.cells
    clear hb1
    go_wp2_with (first
      | (go_at_call 11; refine (HJ.out _).mono ?_; rintro e w' ⟨rfl, rfl⟩)
      | (go_at_call 9; refine (HA.out _).mono ?_; rintro e w' ⟨rfl, rfl⟩)
      | (go_at_call 35; refine (HCL.out _).mono ?_; rintro e w' ⟨rfl, rfl⟩)
      | (go_at_call 34; with_reducible refine (HF.out _).mono ?_; rintro e w' ⟨rfl, rfl⟩)
      | (go_at_call 34; with_reducible refine (HG.out _).mono ?_; rintro e w' ⟨rfl, rfl⟩)
      | (go_at_call 21; with_reducible refine (HN.out _).mono ?_; rintro e w' ⟨rfl, rfl⟩))
    go_ret
    exact ⟨by first | rfl | exact congrArg (fun s => Ending.returned (Value.string s)) (by simp [ByteArray.append_assoc]), hb.2⟩
set_option maxHeartbeats 4000000 in
set_option maxRecDepth 100000 in
theorem ST_alur (op dst src off c : Int) (r : ByteArray) (w : World) (g : SGood op dst src off c r) (hj : kJump op = false) (ha : kALU op = true) (n24 : (op == 24) = false) (m : Int) (hm : bits .and .i64 op 240 = m) (nm : ¬ m = 208) (nm2 : (m == 208) = false) (hq : bits .and .i64 (op / 8) 1 = 1) :
    Calls Tryd.prog 20 #[insR op dst src off c r, fnName] w (STPost (refC (sCode op ++ (⟨#[32, 100, 115, 116, 58, 32]⟩ ++ sRegS dst) ++ (⟨#[32, 115, 114, 99, 58, 32]⟩ ++ sRegS src)) r) w) := by
  have HK := Lib.hid (fun W => Decimal_any c W g.c0 g.c1)
  have HO := Lib.hid (fun W => Decimal_any off W (by have := g.o0; omega) (by have := g.o1; omega))
  have HD := Lib.hid (fun W => sReg_any dst W g.d0 g.d1)
  have HS := Lib.hid (fun W => sReg_any src W g.s0 g.s1)
  have HC := Lib.hid (fun W => SCode_any op W g.mem)
  have zK := decS_size g.c0 g.c1
  have zO := decS_size (n := off) (by have := g.o0; omega) (by have := g.o1; omega)
  have zD := sReg_size g.d0 g.d1
  have zS := sReg_size g.s0 g.s1
  have zC := sCode_size op g.mem
  have zR := g.rs
  have p0 := (wordOps_lt op g.mem).1
  obtain ⟨K, hK⟩ : ∃ K, decS c = K := ⟨_, rfl⟩
  obtain ⟨O, hO⟩ : ∃ O, decS off = O := ⟨_, rfl⟩
  obtain ⟨D, hD⟩ : ∃ D, sRegS dst = D := ⟨_, rfl⟩
  obtain ⟨S, hS⟩ : ∃ S, sRegS src = S := ⟨_, rfl⟩
  obtain ⟨C, hC⟩ : ∃ C, sCode op = C := ⟨_, rfl⟩
  rw [hK] at HK zK
  rw [hO] at HO zO
  rw [hD] at HD zD
  rw [hS] at HS zS
  rw [hC] at HC zC
  have HJ := Lib.hid (fun W => kJump_any op false hj W)
  have HA := Lib.hid (fun W => kALU_any op true ha W)
  
  unfold STPost
  rw [hC, hD, hS]
  clear hK hO hD hS hC hj ha g 
  rcases ref_kinds r with rfl | ⟨hl, hbr, hT⟩
  · rw [show ∀ T, refC T ⟨#[]⟩ = T from fun _ => rfl]
    go_enter Tryd.func20, Tryd.ntmps20
    go_wp2_with (first
      | (go_at_call 34; with_reducible refine (HK.out _).mono ?_; rintro e w' ⟨rfl, rfl⟩)
      | (go_at_call 34; with_reducible refine (HO.out _).mono ?_; rintro e w' ⟨rfl, rfl⟩))
    refine wp_gen (SBox w op dst src off c ⟨#[]⟩) SBox.start ?_
    intro W hb
    obtain ⟨k0, k1, k2, k3, k4, k6⟩ := hb.cells
    go_region_held (fun W' => W'.cell? ⟨w.heap.size, 1, none⟩ = some (.int .i64 dst) ∧ W'.cell? ⟨w.heap.size, 2, none⟩ = some (.int .i64 src))
      (first | exact ⟨k1, k2⟩ | assumption)
      (first
        | (go_at_call 7; with_reducible refine (HD.out _).mono ?_; rintro e w' ⟨rfl, rfl⟩)
        | (go_at_call 7; with_reducible refine (HS.out _).mono ?_; rintro e w' ⟨rfl, rfl⟩))
    have hb := hb.drew
    obtain ⟨k0, k1, k2, k3, k4, k6⟩ := hb.cells
    go_wp2_with fail
    refine (HC.out _).mono ?_
    rintro e w1 ⟨rfl, hb1⟩
    have hb := hb.below hb1
    obtain ⟨k0, k1, k2, k3, k4, k6⟩ := hb.cells
    clear hb1
    go_wp2_with (first
      | (go_at_call 11; refine (HJ.out _).mono ?_; rintro e w' ⟨rfl, rfl⟩)
      | (go_at_call 9; refine (HA.out _).mono ?_; rintro e w' ⟨rfl, rfl⟩)
      | (go_at_call 35; refine (HCL.out _).mono ?_; rintro e w' ⟨rfl, rfl⟩)
      | (go_at_call 34; with_reducible refine (HF.out _).mono ?_; rintro e w' ⟨rfl, rfl⟩)
      | (go_at_call 34; with_reducible refine (HG.out _).mono ?_; rintro e w' ⟨rfl, rfl⟩)
      | (go_at_call 21; with_reducible refine (HN.out _).mono ?_; rintro e w' ⟨rfl, rfl⟩))
    go_ret
    exact ⟨by first | rfl | exact congrArg (fun s => Ending.returned (Value.string s)) (by simp [ByteArray.append_assoc]), hb.2⟩
  · rw [hT]
    clear hT
    go_enter Tryd.func20, Tryd.ntmps20
    go_wp2_with (first
      | (go_at_call 34; with_reducible refine (HK.out _).mono ?_; rintro e w' ⟨rfl, rfl⟩)
      | (go_at_call 34; with_reducible refine (HO.out _).mono ?_; rintro e w' ⟨rfl, rfl⟩))
    refine wp_gen (SBox w op dst src off c r) SBox.start ?_
    intro W hb
    obtain ⟨k0, k1, k2, k3, k4, k6⟩ := hb.cells
    go_region_held (fun W' => W'.cell? ⟨w.heap.size, 1, none⟩ = some (.int .i64 dst) ∧ W'.cell? ⟨w.heap.size, 2, none⟩ = some (.int .i64 src))
      (first | exact ⟨k1, k2⟩ | assumption)
      (first
        | (go_at_call 7; with_reducible refine (HD.out _).mono ?_; rintro e w' ⟨rfl, rfl⟩)
        | (go_at_call 7; with_reducible refine (HS.out _).mono ?_; rintro e w' ⟨rfl, rfl⟩))
    have hb := hb.drew
    obtain ⟨k0, k1, k2, k3, k4, k6⟩ := hb.cells
    go_wp2_with fail
    refine (HC.out _).mono ?_
    rintro e w1 ⟨rfl, hb1⟩
    have hb := hb.below hb1
    obtain ⟨k0, k1, k2, k3, k4, k6⟩ := hb.cells
    clear hb1
    go_wp2_with (first
      | (go_at_call 11; refine (HJ.out _).mono ?_; rintro e w' ⟨rfl, rfl⟩)
      | (go_at_call 9; refine (HA.out _).mono ?_; rintro e w' ⟨rfl, rfl⟩)
      | (go_at_call 35; refine (HCL.out _).mono ?_; rintro e w' ⟨rfl, rfl⟩)
      | (go_at_call 34; with_reducible refine (HF.out _).mono ?_; rintro e w' ⟨rfl, rfl⟩)
      | (go_at_call 34; with_reducible refine (HG.out _).mono ?_; rintro e w' ⟨rfl, rfl⟩)
      | (go_at_call 21; with_reducible refine (HN.out _).mono ?_; rintro e w' ⟨rfl, rfl⟩))
    go_ret
    exact ⟨by first | rfl | exact congrArg (fun s => Ending.returned (Value.string s)) (by simp [ByteArray.append_assoc]), hb.2⟩
end Go.Proofs.YtobgjmgepckijaaDoor
