/- impl.Atomic of a plain operation (kind 0), walked. -/
import Derived.Test.YtobgjmgepckijaaGreatDoorCode
import Derived.Test.YtobgjmgepckijaaGreatDoorImpl
import Derived.Test.YtobgjmgepckijaaGreatDoorBelow
import Derived.Test.YtobgjmgepckijaaGreatDoorBytes
import Derived.Laws.Rows
import Derived.Outline
namespace Go.Proofs.YtobgjmgepckijaaGreatDoor
open Go.RowKit
set_option linter.unusedVariables false
set_option linter.unusedSimpArgs false
set_option maxHeartbeats 4000000 in
set_option maxRecDepth 100000 in
theorem SetMode_c (w : World) : Calls Tryz.prog 107 #[.int .u32 3, .int .u8 192] w fun e w' => e = .returned (.int .u32 195) ∧ w = w' := by
  have e : bits .or .u32 (bits .and .u32 3 4294967071) 192 = 195 := by decide +kernel
  go_enter Tryz.func107, Tryz.ntmps107
  go_wp2
  go_ret
  exact ⟨by rw [← e]; rfl, rfl⟩
set_option maxHeartbeats 4000000 in
set_option maxRecDepth 100000 in
theorem SetSize_c (s : Int) (w : World) (hs : s = 0 ∨ s = 24 ∨ s = 8 ∨ s = 16) : Calls Tryz.prog 108 #[.int .u32 195, .int .u8 s] w fun e w' => e = .returned (.int .u32 (195 + s)) ∧ w = w' := by
  rcases hs with rfl | rfl | rfl | rfl
  · have e : bits .or .u32 (bits .and .u32 195 4294967271) 0 = 195 + 0 := by decide +kernel
    rw [← e]; clear e
    go_enter Tryz.func108, Tryz.ntmps108
    go_wp2
    go_ret
    exact ⟨rfl, rfl⟩
  · have e : bits .or .u32 (bits .and .u32 195 4294967271) 24 = 195 + 24 := by decide +kernel
    rw [← e]; clear e
    go_enter Tryz.func108, Tryz.ntmps108
    go_wp2
    go_ret
    exact ⟨rfl, rfl⟩
  · have e : bits .or .u32 (bits .and .u32 195 4294967271) 8 = 195 + 8 := by decide +kernel
    rw [← e]; clear e
    go_enter Tryz.func108, Tryz.ntmps108
    go_wp2
    go_ret
    exact ⟨rfl, rfl⟩
  · have e : bits .or .u32 (bits .and .u32 195 4294967271) 16 = 195 + 16 := by decide +kernel
    rw [← e]; clear e
    go_enter Tryz.func108, Tryz.ntmps108
    go_wp2
    go_ret
    exact ⟨rfl, rfl⟩
def atomMs : List Int := [0, 256, 16384, 16640, 20480, 20736, 40960, 41216, 57600, 61696]
theorem atomMs_facts : ∀ m ∈ atomMs, ∀ s ∈ ([0, 24] : List Int), bits .and .u32 m 4294836479 = 0 ∧ oSetAtomic (195 + s) m = 195 + s + m := by decide +kernel
set_option maxHeartbeats 4000000 in
set_option maxRecDepth 100000 in
theorem AOp (m s : Int) (w : World) (hm : m ∈ atomMs) (hs : s = 0 ∨ s = 24) : Calls Tryz.prog 62 #[.int .u32 m, .int .u8 s] w fun e w' => e = .returned (.int .u32 (195 + s + m)) ∧ w = w' := by
  obtain ⟨f1, f2⟩ := atomMs_facts m hm s (by rcases hs with rfl | rfl <;> decide)
  rw [← f2]
  have F1 := Lib.hid f1
  clear f1 f2
  have HS := Lib.hid hs
  have e1 : (s == 16) = false := by rcases hs with rfl | rfl <;> rfl
  have e2 : (s == 8) = false := by rcases hs with rfl | rfl <;> rfl
  clear hs
  simp only [atomMs, List.mem_cons, List.not_mem_nil, or_false] at hm
  rcases hm with rfl | rfl | rfl | rfl | rfl | rfl | rfl | rfl | rfl | rfl
  all_goals
    go_enter Tryz.func62, Tryz.ntmps62
    go_wp2_with (first | (go_at_call 107; refine (SetMode_c _).mono ?_; rintro e w' ⟨rfl, rfl⟩) | (go_at_call 108; refine (SetSize_c _ _ (by rcases HS.out with h | h <;> simp [h])).mono ?_; rintro e w' ⟨rfl, rfl⟩) | (go_at_call 109; refine (SetAtomicOp_any _ _ _ F1.out).mono ?_; rintro e w' ⟨rfl, rfl⟩))
    go_ret
    exact ⟨rfl, rfl⟩
set_option maxHeartbeats 4000000 in
set_option maxRecDepth 100000 in
theorem Mem_any (m d s z o : Int) (w : World) (hm : m ∈ atomMs) (hz : z = 0 ∨ z = 24) : Calls Tryz.prog 26 #[.int .u32 m, .int .u8 d, .int .u8 s, .int .u8 z, .int .i16 o] w fun e w' => e = .returned (asmV (195 + z + m) d s o 0) ∧
    w.alloc (.cells #[.int .u32 (195 + z + m), .int .u8 d, .int .u8 s, .int .i16 o, .int .i64 0, .pointer none] 79) = w' := by
  go_enter Tryz.func26, Tryz.ntmps26
  go_wp2_with (go_at_call 62; refine (AOp _ _ _ hm hz).mono ?_; rintro e w' ⟨rfl, rfl⟩)
  exact bodyPost_ret (v := asmV (195 + z + m) d s o 0) (by simp [results, Tryz.results26, go_sem]) rfl ⟨rfl, rfl⟩
theorem told_Q (op d s off c : Int) (w : World) : w.grownBy (toldW op d s off c w) none := by
  unfold toldW
  exact grownBy_drew (grownBy_up (grownBy_up (grownBy_up (grownBy_up (World.grownBy.refl w none) _) _) _) _)
theorem infoIns0 : (Tryz.prog.info? 26).map (·.size) = some 7 := by kernel_rfl
set_option maxHeartbeats 4000000 in
set_option maxRecDepth 100000 in
theorem Atomic_any (m d s n o z : Int) (w : World) (hm : m ∈ atomMs) (hn : n = 2 ∧ z = 0 ∨ n = 3 ∧ z = 24) (d0 : 0 ≤ d) (d1 : d ≤ 10) (s0 : 0 ≤ s) (s1 : s ≤ 10) (o0 : -32768 ≤ o) (o1 : o ≤ 32767) :
    Calls Tryz.prog 11 #[.int .i64 0, .int .i64 m, .int .i64 d, .int .i64 s, .int .i64 n, .int .i64 o] w fun e w' => e = .returned (.tuple #[insV (195 + z + m) d s o 0, .bool true]) ∧ Below w.heap.size w w' := by
  have hmr : 0 ≤ m ∧ m ≤ 61696 := by
    simp only [atomMs, List.mem_cons, List.not_mem_nil, or_false] at hm
    omega
  obtain ⟨m0, m1⟩ := hmr
  rcases hn with ⟨rfl, rfl⟩ | ⟨rfl, rfl⟩
  all_goals
    have e1 : m % 4294967296 = m := by omega
    have e2 : d % 256 = d := by omega
    have e3 : s % 256 = s := by omega
    have e4 : IntKind.i16.wrap o = o := by simp [IntKind.wrap, IntKind.bits, IntKind.signed]; omega
    go_enter Tryz.func11, Tryz.ntmps11
    go_wp2_with fail
    refine calls_gen (fun W => W.heap[w.heap.size]? = some (.cells #[.int .i64 0, .int .i64 0, .int .i64 0, .int .i64 0, .int .i64 0, .string ⟨#[]⟩, .string ⟨#[]⟩] 26 (0, 0)) ∧ Below w.heap.size w W) ⟨heap_up (heap_at rfl), ((Below.refl _ _).alloc (Nat.le_refl _) _).alloc (by simp) _⟩ ?_
    rintro W ⟨hk, hb⟩
    have hz := hb.size
    refine (Mem_any m d s _ o W hm (by simp)).mono ?_
    rintro e w' ⟨rfl, rfl⟩
    go_wp2_with fail
    refine (told_any _ _ _ _ _ _ (by omega) (by omega) d0 (by omega) s0 (by omega) o0 o1).mono ?_
    rintro e w2 ⟨rfl, hw2⟩
    have hg : W.grownBy w2 none := by
      rw [← hw2]
      exact grownBy_trans (World.grownBy_alloc W _ none) (told_Q _ _ _ _ _ _)
    have hk2 := (hg.block _ (heap_lt hk) (by simp)).trans hk
    have hb2 := hb.grown hg hz (by simp)
    clear hw2 hg hk hb
    have hk' := fun cs => setRow_heap w2 w.heap.size _ cs _ _ hk2
    go_wp2_with (refine wpList_store_row rfl _ _ _ rfl _ _ rfl rfl _ _ hk2 infoIns0 rfl (by simp [Value.oneCell']) ?_)
    refine bodyPost_ret (results_row_tmp rfl _ _ _ _ _ _ _ rfl (hk' #[.int .i64 _, .int .i64 d, .int .i64 s, .int .i64 o, .int .i64 0, .string ⟨#[]⟩, .string ⟨#[]⟩]) Tryz.underlying26 rfl infoIns0) rfl ⟨rfl, below_setRow hb2 (Nat.le_refl _) _⟩
end Go.Proofs.YtobgjmgepckijaaGreatDoor
