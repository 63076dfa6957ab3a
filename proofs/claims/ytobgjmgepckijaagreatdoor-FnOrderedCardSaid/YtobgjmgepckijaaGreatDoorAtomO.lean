/- impl.Atomic of a load that acquires and a store that releases (kinds 1, 2), walked. -/
import Derived.Test.YtobgjmgepckijaaGreatDoorAtom
import Derived.Outline
namespace Go.Proofs.YtobgjmgepckijaaGreatDoor
open Go.RowKit
set_option linter.unusedVariables false
set_option linter.unusedSimpArgs false
theorem ordMs_facts : ∀ m ∈ ([65536, 69632] : List Int), ∀ s ∈ ([0, 8, 16, 24] : List Int), bits .and .u32 m 4294836479 = 0 ∧ oSetAtomic (195 + s) m = 195 + s + m := by decide +kernel
set_option maxHeartbeats 4000000 in
set_option maxRecDepth 100000 in
theorem AOpO (m s : Int) (w : World) (hm : m = 65536 ∨ m = 69632) (hs : s = 0 ∨ s = 24 ∨ s = 8 ∨ s = 16) : Calls Tryz.prog 62 #[.int .u32 m, .int .u8 s] w fun e w' => e = .returned (.int .u32 (195 + s + m)) ∧ w = w' := by
  obtain ⟨f1, f2⟩ := ordMs_facts m (by rcases hm with rfl | rfl <;> decide) s (by rcases hs with rfl | rfl | rfl | rfl <;> decide)
  rw [← f2]
  have F1 := Lib.hid f1
  clear f1 f2
  have HS := Lib.hid hs
  clear hs
  rcases hm with rfl | rfl
  all_goals
    go_enter Tryz.func62, Tryz.ntmps62
    go_wp2_with (first | (go_at_call 107; refine (SetMode_c _).mono ?_; rintro e w' ⟨rfl, rfl⟩) | (go_at_call 108; refine (SetSize_c _ _ HS.out).mono ?_; rintro e w' ⟨rfl, rfl⟩) | (go_at_call 109; refine (SetAtomicOp_any _ _ _ F1.out).mono ?_; rintro e w' ⟨rfl, rfl⟩))
    go_ret
    exact ⟨rfl, rfl⟩
set_option maxHeartbeats 4000000 in
set_option maxRecDepth 100000 in
theorem Acq_any (d s z o : Int) (w : World) (hz : z = 0 ∨ z = 24 ∨ z = 8 ∨ z = 16) : Calls Tryz.prog 27 #[.int .u8 d, .int .u8 s, .int .u8 z, .int .i16 o] w fun e w' => e = .returned (asmV (195 + z + 65536) d s o 0) ∧
    w.alloc (.cells #[.int .u32 (195 + z + 65536), .int .u8 d, .int .u8 s, .int .i16 o, .int .i64 0, .pointer none] 79) = w' := by
  go_enter Tryz.func27, Tryz.ntmps27
  go_wp2_with (go_at_call 62; refine (AOpO _ _ _ (by decide) hz).mono ?_; rintro e w' ⟨rfl, rfl⟩)
  exact bodyPost_ret (v := asmV (195 + z + 65536) d s o 0) (by simp [results, Tryz.results27, go_sem]) rfl ⟨rfl, rfl⟩
set_option maxHeartbeats 4000000 in
set_option maxRecDepth 100000 in
theorem Atomic_Acq (d s n o z : Int) (w : World) (hn : n = 2 ∧ z = 0 ∨ n = 3 ∧ z = 24 ∨ n = 1 ∧ z = 8 ∨ n = 0 ∧ z = 16) (d0 : 0 ≤ d) (d1 : d ≤ 10) (s0 : 0 ≤ s) (s1 : s ≤ 10) (o0 : -32768 ≤ o) (o1 : o ≤ 32767) :
    Calls Tryz.prog 11 #[.int .i64 1, .int .i64 0, .int .i64 d, .int .i64 s, .int .i64 n, .int .i64 o] w fun e w' => e = .returned (.tuple #[insV (195 + z + 65536) d s o 0, .bool true]) ∧ Below w.heap.size w w' := by
  rcases hn with ⟨rfl, rfl⟩ | ⟨rfl, rfl⟩ | ⟨rfl, rfl⟩ | ⟨rfl, rfl⟩
  all_goals
    have e2 : d % 256 = d := by omega
    have e3 : s % 256 = s := by omega
    have e4 : IntKind.i16.wrap o = o := by simp [IntKind.wrap, IntKind.bits, IntKind.signed]; omega
    go_enter Tryz.func11, Tryz.ntmps11
    go_wp2_with fail
    refine calls_gen (fun W => W.heap[w.heap.size]? = some (.cells #[.int .i64 0, .int .i64 0, .int .i64 0, .int .i64 0, .int .i64 0, .string ⟨#[]⟩, .string ⟨#[]⟩] 26 (0, 0)) ∧ Below w.heap.size w W) ⟨heap_up (heap_at rfl), ((Below.refl _ _).alloc (Nat.le_refl _) _).alloc (by simp) _⟩ ?_
    rintro W ⟨hk, hb⟩
    have hz := hb.size
    refine (Acq_any d s _ o W (by simp)).mono ?_
    rintro e w' ⟨rfl, rfl⟩
    go_wp2_with fail
    refine (told_any _ _ _ _ _ _ (by omega) (by omega) d0 (by omega) s0 (by omega) o0 o1).mono ?_
    rintro e w2 ⟨rfl, hw2⟩
    have hg : W.grownBy w2 none := by
      rw [← hw2]
      exact grownBy_trans (World.grownBy_alloc W _ none) (told_Q _ _ _ _ _ _)
    have hk2 := (hg.block _ (heap_lt hk) (by simp)).trans hk
    have hb2 := hb.grown hg hz (by simp)
    clear hw2 hg hk hb
    have hk' := fun cs => setRow_heap w2 w.heap.size _ cs _ _ hk2
    go_wp2_with (refine wpList_store_row rfl _ _ _ rfl _ _ rfl rfl _ _ hk2 infoIns0 rfl (by simp [Value.oneCell']) ?_)
    refine bodyPost_ret (results_row_tmp rfl _ _ _ _ _ _ _ rfl (hk' #[.int .i64 _, .int .i64 d, .int .i64 s, .int .i64 o, .int .i64 0, .string ⟨#[]⟩, .string ⟨#[]⟩]) Tryz.underlying26 rfl infoIns0) rfl ⟨rfl, below_setRow hb2 (Nat.le_refl _) _⟩
set_option maxHeartbeats 4000000 in
set_option maxRecDepth 100000 in
theorem Rel_any (d s z o : Int) (w : World) (hz : z = 0 ∨ z = 24 ∨ z = 8 ∨ z = 16) : Calls Tryz.prog 28 #[.int .u8 d, .int .u8 s, .int .u8 z, .int .i16 o] w fun e w' => e = .returned (asmV (195 + z + 69632) d s o 0) ∧
    w.alloc (.cells #[.int .u32 (195 + z + 69632), .int .u8 d, .int .u8 s, .int .i16 o, .int .i64 0, .pointer none] 79) = w' := by
  go_enter Tryz.func28, Tryz.ntmps28
  go_wp2_with (go_at_call 62; refine (AOpO _ _ _ (by decide) hz).mono ?_; rintro e w' ⟨rfl, rfl⟩)
  exact bodyPost_ret (v := asmV (195 + z + 69632) d s o 0) (by simp [results, Tryz.results28, go_sem]) rfl ⟨rfl, rfl⟩
set_option maxHeartbeats 4000000 in
set_option maxRecDepth 100000 in
theorem Atomic_Rel (d s n o z : Int) (w : World) (hn : n = 2 ∧ z = 0 ∨ n = 3 ∧ z = 24 ∨ n = 1 ∧ z = 8 ∨ n = 0 ∧ z = 16) (d0 : 0 ≤ d) (d1 : d ≤ 10) (s0 : 0 ≤ s) (s1 : s ≤ 10) (o0 : -32768 ≤ o) (o1 : o ≤ 32767) :
    Calls Tryz.prog 11 #[.int .i64 2, .int .i64 0, .int .i64 d, .int .i64 s, .int .i64 n, .int .i64 o] w fun e w' => e = .returned (.tuple #[insV (195 + z + 69632) d s o 0, .bool true]) ∧ Below w.heap.size w w' := by
  rcases hn with ⟨rfl, rfl⟩ | ⟨rfl, rfl⟩ | ⟨rfl, rfl⟩ | ⟨rfl, rfl⟩
  all_goals
    have e2 : d % 256 = d := by omega
    have e3 : s % 256 = s := by omega
    have e4 : IntKind.i16.wrap o = o := by simp [IntKind.wrap, IntKind.bits, IntKind.signed]; omega
    go_enter Tryz.func11, Tryz.ntmps11
    go_wp2_with fail
    refine calls_gen (fun W => W.heap[w.heap.size]? = some (.cells #[.int .i64 0, .int .i64 0, .int .i64 0, .int .i64 0, .int .i64 0, .string ⟨#[]⟩, .string ⟨#[]⟩] 26 (0, 0)) ∧ Below w.heap.size w W) ⟨heap_up (heap_at rfl), ((Below.refl _ _).alloc (Nat.le_refl _) _).alloc (by simp) _⟩ ?_
    rintro W ⟨hk, hb⟩
    have hz := hb.size
    refine (Rel_any d s _ o W (by simp)).mono ?_
    rintro e w' ⟨rfl, rfl⟩
    go_wp2_with fail
    refine (told_any _ _ _ _ _ _ (by omega) (by omega) d0 (by omega) s0 (by omega) o0 o1).mono ?_
    rintro e w2 ⟨rfl, hw2⟩
    have hg : W.grownBy w2 none := by
      rw [← hw2]
      exact grownBy_trans (World.grownBy_alloc W _ none) (told_Q _ _ _ _ _ _)
    have hk2 := (hg.block _ (heap_lt hk) (by simp)).trans hk
    have hb2 := hb.grown hg hz (by simp)
    clear hw2 hg hk hb
    have hk' := fun cs => setRow_heap w2 w.heap.size _ cs _ _ hk2
    go_wp2_with (refine wpList_store_row rfl _ _ _ rfl _ _ rfl rfl _ _ hk2 infoIns0 rfl (by simp [Value.oneCell']) ?_)
    refine bodyPost_ret (results_row_tmp rfl _ _ _ _ _ _ _ rfl (hk' #[.int .i64 _, .int .i64 d, .int .i64 s, .int .i64 o, .int .i64 0, .string ⟨#[]⟩, .string ⟨#[]⟩]) Tryz.underlying26 rfl infoIns0) rfl ⟨rfl, below_setRow hb2 (Nat.le_refl _) _⟩
end Go.Proofs.YtobgjmgepckijaaGreatDoor
