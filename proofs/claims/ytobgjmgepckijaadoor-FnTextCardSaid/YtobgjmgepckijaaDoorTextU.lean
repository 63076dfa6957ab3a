/- spec.Text, walked: loads from maps. -/
import Derived.Test.YtobgjmgepckijaaDoorTextR
import Derived.Deep.RegionHeld
import Derived.Outline
namespace Go.Proofs.YtobgjmgepckijaaDoor
open Go.RowKit
set_option linter.unusedVariables false
set_option linter.unusedSimpArgs false
set_option maxHeartbeats 4000000 in
set_option maxRecDepth 100000 in
theorem ST_ptr (op dst src off c : Int) (r : ByteArray) (w : World) (g : SGood op dst src off c r) (hj : kJump op = false) (n24 : (op == 24) = true) (hs : (src == 1) = true) :
    Calls Tryd.prog 20 #[insR op dst src off c r, fnName] w (STPost (refC (⟨#[76, 111, 97, 100, 77, 97, 112, 80, 116, 114, 32, 100, 115, 116, 58, 32]⟩ ++ sRegS dst ++ ⟨#[32, 102, 100, 58, 32]⟩ ++ decS (IntKind.i32.wrap c)) r) w) := by
  have HK := Lib.hid (fun W => Decimal_any c W g.c0 g.c1)
  have HO := Lib.hid (fun W => Decimal_any off W (by have := g.o0; omega) (by have := g.o1; omega))
  have HD := Lib.hid (fun W => sReg_any dst W g.d0 g.d1)
  have HS := Lib.hid (fun W => sReg_any src W g.s0 g.s1)
  have HC := Lib.hid (fun W => SCode_any op W g.mem)
  have zK := decS_size g.c0 g.c1
  have zO := decS_size (n := off) (by have := g.o0; omega) (by have := g.o1; omega)
  have zD := sReg_size g.d0 g.d1
  have zS := sReg_size g.s0 g.s1
  have zC := sCode_size op g.mem
  have zR := g.rs
  have p0 := (wordOps_lt op g.mem).1
  obtain ⟨K, hK⟩ : ∃ K, decS c = K := ⟨_, rfl⟩
  obtain ⟨O, hO⟩ : ∃ O, decS off = O := ⟨_, rfl⟩
  obtain ⟨D, hD⟩ : ∃ D, sRegS dst = D := ⟨_, rfl⟩
  obtain ⟨S, hS⟩ : ∃ S, sRegS src = S := ⟨_, rfl⟩
  obtain ⟨C, hC⟩ : ∃ C, sCode op = C := ⟨_, rfl⟩
  rw [hK] at HK zK
  rw [hO] at HO zO
  rw [hD] at HD zD
  rw [hS] at HS zS
  rw [hC] at HC zC
  have HJ := Lib.hid (fun W => kJump_any op false hj W)
  obtain ⟨q, hq⟩ : ∃ q, IntKind.i32.wrap c = q := ⟨_, rfl⟩
  have q0 : -2147483648 ≤ q ∧ q ≤ 2147483647 := by rw [← hq, IntKind.wrap_i32]; omega
  have HF := Lib.hid (fun W => Decimal_any q W (by omega) (by omega))
  have zF := decS_size (n := q) (by omega) (by omega)
  have t4 : IntKind.i64.wrap q = q := by rw [IntKind.wrap_i64]; omega
  obtain ⟨F, hF⟩ : ∃ F, decS q = F := ⟨_, rfl⟩
  rw [hF] at HF zF
  unfold STPost
  rw [hD, hq, hF]
  clear hK hO hD hS hC hj g hF
  rcases ref_kinds r with rfl | ⟨hl, hbr, hT⟩
  · rw [show ∀ T, refC T ⟨#[]⟩ = T from fun _ => rfl]
    go_enter Tryd.func20, Tryd.ntmps20
    go_wp2_with (first
      | (go_at_call 34; with_reducible refine (HK.out _).mono ?_; rintro e w' ⟨rfl, rfl⟩)
      | (go_at_call 34; with_reducible refine (HO.out _).mono ?_; rintro e w' ⟨rfl, rfl⟩))
    refine wp_gen (SBox w op dst src off c ⟨#[]⟩) SBox.start ?_
    intro W hb
    obtain ⟨k0, k1, k2, k3, k4, k6⟩ := hb.cells
    go_region_held (fun W' => W'.cell? ⟨w.heap.size, 1, none⟩ = some (.int .i64 dst) ∧ W'.cell? ⟨w.heap.size, 2, none⟩ = some (.int .i64 src))
      (first | exact ⟨k1, k2⟩ | assumption)
      (first
        | (go_at_call 7; with_reducible refine (HD.out _).mono ?_; rintro e w' ⟨rfl, rfl⟩)
        | (go_at_call 7; with_reducible refine (HS.out _).mono ?_; rintro e w' ⟨rfl, rfl⟩))
    have hb := hb.drew
    obtain ⟨k0, k1, k2, k3, k4, k6⟩ := hb.cells
    go_wp2_with fail
    refine (HC.out _).mono ?_
    rintro e w1 ⟨rfl, hb1⟩
    have hb := hb.below hb1
    obtain ⟨k0, k1, k2, k3, k4, k6⟩ := hb.cells
    clear hb1
    go_wp2_with (first
      | (go_at_call 11; refine (HJ.out _).mono ?_; rintro e w' ⟨rfl, rfl⟩)
      | (go_at_call 9; refine (HA.out _).mono ?_; rintro e w' ⟨rfl, rfl⟩)
      | (go_at_call 35; refine (HCL.out _).mono ?_; rintro e w' ⟨rfl, rfl⟩)
      | (go_at_call 34; with_reducible refine (HF.out _).mono ?_; rintro e w' ⟨rfl, rfl⟩)
      | (go_at_call 34; with_reducible refine (HG.out _).mono ?_; rintro e w' ⟨rfl, rfl⟩)
      | (go_at_call 21; with_reducible refine (HN.out _).mono ?_; rintro e w' ⟨rfl, rfl⟩))
    go_ret
    exact ⟨by first | rfl | exact congrArg (fun s => Ending.returned (Value.string s)) (by simp [ByteArray.append_assoc]), hb.2⟩
  · rw [hT]
    clear hT
    go_enter Tryd.func20, Tryd.ntmps20
    go_wp2_with (first
      | (go_at_call 34; with_reducible refine (HK.out _).mono ?_; rintro e w' ⟨rfl, rfl⟩)
      | (go_at_call 34; with_reducible refine (HO.out _).mono ?_; rintro e w' ⟨rfl, rfl⟩))
    refine wp_gen (SBox w op dst src off c r) SBox.start ?_
    intro W hb
    obtain ⟨k0, k1, k2, k3, k4, k6⟩ := hb.cells
    go_region_held (fun W' => W'.cell? ⟨w.heap.size, 1, none⟩ = some (.int .i64 dst) ∧ W'.cell? ⟨w.heap.size, 2, none⟩ = some (.int .i64 src))
      (first | exact ⟨k1, k2⟩ | assumption)
      (first
        | (go_at_call 7; with_reducible refine (HD.out _).mono ?_; rintro e w' ⟨rfl, rfl⟩)
        | (go_at_call 7; with_reducible refine (HS.out _).mono ?_; rintro e w' ⟨rfl, rfl⟩))
    have hb := hb.drew
    obtain ⟨k0, k1, k2, k3, k4, k6⟩ := hb.cells
    go_wp2_with fail
    refine (HC.out _).mono ?_
    rintro e w1 ⟨rfl, hb1⟩
    have hb := hb.below hb1
    obtain ⟨k0, k1, k2, k3, k4, k6⟩ := hb.cells
    clear hb1
    go_wp2_with (first
      | (go_at_call 11; refine (HJ.out _).mono ?_; rintro e w' ⟨rfl, rfl⟩)
      | (go_at_call 9; refine (HA.out _).mono ?_; rintro e w' ⟨rfl, rfl⟩)
      | (go_at_call 35; refine (HCL.out _).mono ?_; rintro e w' ⟨rfl, rfl⟩)
      | (go_at_call 34; with_reducible refine (HF.out _).mono ?_; rintro e w' ⟨rfl, rfl⟩)
      | (go_at_call 34; with_reducible refine (HG.out _).mono ?_; rintro e w' ⟨rfl, rfl⟩)
      | (go_at_call 21; with_reducible refine (HN.out _).mono ?_; rintro e w' ⟨rfl, rfl⟩))
    go_ret
    exact ⟨by first | rfl | exact congrArg (fun s => Ending.returned (Value.string s)) (by simp [ByteArray.append_assoc]), hb.2⟩
set_option maxHeartbeats 4000000 in
set_option maxRecDepth 100000 in
theorem ST_val (op dst src off c : Int) (r : ByteArray) (w : World) (g : SGood op dst src off c r) (hj : kJump op = false) (n24 : (op == 24) = true) (hs : (src == 1) = false) (hs2 : (src == 2) = true) :
    Calls Tryd.prog 20 #[insR op dst src off c r, fnName] w (STPost (refC (⟨#[76, 111, 97, 100, 77, 97, 112, 86, 97, 108, 117, 101, 32, 100, 115, 116, 58, 32]⟩ ++ sRegS dst ++ ⟨#[44, 32, 102, 100, 58, 32]⟩ ++ decS (IntKind.i32.wrap c) ++ ⟨#[32, 111, 102, 102, 58, 32]⟩ ++ decS (IntKind.u32.wrap (IntKind.u64.wrap c / 4294967296))) r) w) := by
  have HK := Lib.hid (fun W => Decimal_any c W g.c0 g.c1)
  have HO := Lib.hid (fun W => Decimal_any off W (by have := g.o0; omega) (by have := g.o1; omega))
  have HD := Lib.hid (fun W => sReg_any dst W g.d0 g.d1)
  have HS := Lib.hid (fun W => sReg_any src W g.s0 g.s1)
  have HC := Lib.hid (fun W => SCode_any op W g.mem)
  have zK := decS_size g.c0 g.c1
  have zO := decS_size (n := off) (by have := g.o0; omega) (by have := g.o1; omega)
  have zD := sReg_size g.d0 g.d1
  have zS := sReg_size g.s0 g.s1
  have zC := sCode_size op g.mem
  have zR := g.rs
  have p0 := (wordOps_lt op g.mem).1
  obtain ⟨K, hK⟩ : ∃ K, decS c = K := ⟨_, rfl⟩
  obtain ⟨O, hO⟩ : ∃ O, decS off = O := ⟨_, rfl⟩
  obtain ⟨D, hD⟩ : ∃ D, sRegS dst = D := ⟨_, rfl⟩
  obtain ⟨S, hS⟩ : ∃ S, sRegS src = S := ⟨_, rfl⟩
  obtain ⟨C, hC⟩ : ∃ C, sCode op = C := ⟨_, rfl⟩
  rw [hK] at HK zK
  rw [hO] at HO zO
  rw [hD] at HD zD
  rw [hS] at HS zS
  rw [hC] at HC zC
  have HJ := Lib.hid (fun W => kJump_any op false hj W)
  obtain ⟨q, hq⟩ : ∃ q, IntKind.i32.wrap c = q := ⟨_, rfl⟩
  have q0 : -2147483648 ≤ q ∧ q ≤ 2147483647 := by rw [← hq, IntKind.wrap_i32]; omega
  have HF := Lib.hid (fun W => Decimal_any q W (by omega) (by omega))
  have zF := decS_size (n := q) (by omega) (by omega)
  have t4 : IntKind.i64.wrap q = q := by rw [IntKind.wrap_i64]; omega
  obtain ⟨F, hF⟩ : ∃ F, decS q = F := ⟨_, rfl⟩
  rw [hF] at HF zF
  have hv0 : IntKind.u32.wrap (IntKind.u64.wrap c / 4294967296) = IntKind.u32.wrap (c / 4294967296) := by simp only [IntKind.wrap_u64, IntKind.wrap_u32]; omega
  rw [hv0]
  obtain ⟨v, hv⟩ : ∃ v, IntKind.u32.wrap (c / 4294967296) = v := ⟨_, rfl⟩
  have v0 : 0 ≤ v ∧ v < 4294967296 := by rw [← hv, IntKind.wrap_u32]; omega
  have hv2 : c / 4294967296 % 4294967296 = v := by rw [← hv, IntKind.wrap_u32]
  have HG := Lib.hid (fun W => Decimal_any v W (by omega) (by omega))
  have zG := decS_size (n := v) (by omega) (by omega)
  have t5 : IntKind.i64.wrap v = v := by rw [IntKind.wrap_i64]; omega
  obtain ⟨G, hG⟩ : ∃ G, decS v = G := ⟨_, rfl⟩
  rw [hG] at HG zG
  unfold STPost
  rw [hD, hq, hv, hF, hG]
  clear hK hO hD hS hC hj g hF hG hv0
  have q2 : ¬ 9223372036854775807 < 18 + D.size := (by omega)
  have q3 : ¬ 9223372036854775807 < 18 + D.size + 6 := (by omega)
  have q4 : ¬ 9223372036854775807 < 18 + D.size + 6 + F.size := (by omega)
  have q5 : ¬ 9223372036854775807 < 18 + D.size + 6 + F.size + 6 := (by omega)
  have q6 : ¬ 9223372036854775807 < 18 + D.size + 6 + F.size + 6 + G.size := (by omega)
  rcases ref_kinds r with rfl | ⟨hl, hbr, hT⟩
  · rw [show ∀ T, refC T ⟨#[]⟩ = T from fun _ => rfl]
    go_enter Tryd.func20, Tryd.ntmps20
    go_wp2_with (first
      | (go_at_call 34; with_reducible refine (HK.out _).mono ?_; rintro e w' ⟨rfl, rfl⟩)
      | (go_at_call 34; with_reducible refine (HO.out _).mono ?_; rintro e w' ⟨rfl, rfl⟩))
    refine wp_gen (SBox w op dst src off c ⟨#[]⟩) SBox.start ?_
    intro W hb
    obtain ⟨k0, k1, k2, k3, k4, k6⟩ := hb.cells
    go_region_held (fun W' => W'.cell? ⟨w.heap.size, 1, none⟩ = some (.int .i64 dst) ∧ W'.cell? ⟨w.heap.size, 2, none⟩ = some (.int .i64 src))
      (first | exact ⟨k1, k2⟩ | assumption)
      (first
        | (go_at_call 7; with_reducible refine (HD.out _).mono ?_; rintro e w' ⟨rfl, rfl⟩)
        | (go_at_call 7; with_reducible refine (HS.out _).mono ?_; rintro e w' ⟨rfl, rfl⟩))
    have hb := hb.drew
    obtain ⟨k0, k1, k2, k3, k4, k6⟩ := hb.cells
    go_wp2_with fail
    refine (HC.out _).mono ?_
    rintro e w1 ⟨rfl, hb1⟩
    have hb := hb.below hb1
    obtain ⟨k0, k1, k2, k3, k4, k6⟩ := hb.cells
    clear hb1
    go_wp2_with (first
      | (go_at_call 11; refine (HJ.out _).mono ?_; rintro e w' ⟨rfl, rfl⟩))
    go_region_held (fun W' => W'.cell? ⟨w.heap.size, 4, none⟩ = some (.int .i64 c)) (first | exact k4 | assumption)
      (first
        | (go_at_call 34; with_reducible refine (HF.out _).mono ?_; rintro e w' ⟨rfl, rfl⟩)
        | (go_at_call 34; with_reducible refine (HG.out _).mono ?_; rintro e w' ⟨rfl, rfl⟩))
    have hb := hb.drew
    obtain ⟨k0, k1, k2, k3, k4, k6⟩ := hb.cells
    go_wp2_with fail
    go_ret
    exact ⟨by first | rfl | exact congrArg (fun s => Ending.returned (Value.string s)) (by simp [ByteArray.append_assoc]), hb.2⟩
  · rw [hT]
    clear hT
    go_enter Tryd.func20, Tryd.ntmps20
    go_wp2_with (first
      | (go_at_call 34; with_reducible refine (HK.out _).mono ?_; rintro e w' ⟨rfl, rfl⟩)
      | (go_at_call 34; with_reducible refine (HO.out _).mono ?_; rintro e w' ⟨rfl, rfl⟩))
    refine wp_gen (SBox w op dst src off c r) SBox.start ?_
    intro W hb
    obtain ⟨k0, k1, k2, k3, k4, k6⟩ := hb.cells
    go_region_held (fun W' => W'.cell? ⟨w.heap.size, 1, none⟩ = some (.int .i64 dst) ∧ W'.cell? ⟨w.heap.size, 2, none⟩ = some (.int .i64 src))
      (first | exact ⟨k1, k2⟩ | assumption)
      (first
        | (go_at_call 7; with_reducible refine (HD.out _).mono ?_; rintro e w' ⟨rfl, rfl⟩)
        | (go_at_call 7; with_reducible refine (HS.out _).mono ?_; rintro e w' ⟨rfl, rfl⟩))
    have hb := hb.drew
    obtain ⟨k0, k1, k2, k3, k4, k6⟩ := hb.cells
    go_wp2_with fail
    refine (HC.out _).mono ?_
    rintro e w1 ⟨rfl, hb1⟩
    have hb := hb.below hb1
    obtain ⟨k0, k1, k2, k3, k4, k6⟩ := hb.cells
    clear hb1
    go_wp2_with (first
      | (go_at_call 11; refine (HJ.out _).mono ?_; rintro e w' ⟨rfl, rfl⟩))
    go_region_held (fun W' => W'.cell? ⟨w.heap.size, 4, none⟩ = some (.int .i64 c)) (first | exact k4 | assumption)
      (first
        | (go_at_call 34; with_reducible refine (HF.out _).mono ?_; rintro e w' ⟨rfl, rfl⟩)
        | (go_at_call 34; with_reducible refine (HG.out _).mono ?_; rintro e w' ⟨rfl, rfl⟩))
    have hb := hb.drew
    obtain ⟨k0, k1, k2, k3, k4, k6⟩ := hb.cells
    go_wp2_with fail
    go_ret
    exact ⟨by first | rfl | exact congrArg (fun s => Ending.returned (Value.string s)) (by simp [ByteArray.append_assoc]), hb.2⟩
end Go.Proofs.YtobgjmgepckijaaDoor
