/- AppendInstructions, impl.tell and impl.Unmarshal, walked. -/
import Derived.Test.YtobgjmgepckijaaGreatDoorGoods
import Derived.Test.YtobgjmgepckijaaGreatDoorMarAll
import Derived.Deep.LoopGhost
import Derived.Deep.AppendLies
import Derived.Outline
namespace Go.Proofs.YtobgjmgepckijaaGreatDoor
open Go.RowKit
set_option linter.unusedVariables false
set_option linter.unusedSimpArgs false
set_option maxHeartbeats 4000000 in
set_option maxRecDepth 100000 in
theorem Unm_eof (big : Bool) (ib so : Nat) (a : Addr) (w : World) (hs : SrcAt w so []) (ha : EofAt w a) (hlt : 2 < w.heap.size) :
    Calls Tryz.prog 57 #[.pointer (some ⟨ib, 0, none⟩), .iface 67 (.pointer (some ⟨so, 0, none⟩)), ordV big, .string ⟨#[108, 105, 110, 117, 120]⟩] w
      fun e w' => e = .returned (.iface 180 (.pointer (some a))) ∧ ∃ n, w' = (w.alloc (.cells #[.int .u8 0, .int .u8 0, .int .u8 0, .int .u8 0, .int .u8 0, .int .u8 0, .int .u8 0, .int .u8 0] 5)).drewN n := by
  have hm := make8
  have q1 : ∀ w, Sem.run Tryz.prog (binOp .neq 59 (.iface 180 (.pointer (some a))) .nilIface) w = .ok (.bool true) w := fun w => by kernel_rfl
  have ha' : EofAt (w.alloc (.cells #[.int .u8 0, .int .u8 0, .int .u8 0, .int .u8 0, .int .u8 0, .int .u8 0, .int .u8 0, .int .u8 0] 5)) a := by
    unfold EofAt at ha ⊢
    rw [← ha]
    exact World.cell?_of_block (w := w) (Below.heap_alloc w _ _ hlt)
  go_enter Tryz.func57, Tryz.ntmps57
  go_wp2_with (go_at_call 101; refine (RF_eof so w.heap.size a _ (src_grown hs (World.grownBy_alloc w _ none)) ha').mono ?_; rintro e w1 ⟨rfl, n, rfl⟩)
  go_ret
  exact ⟨rfl, n, rfl⟩
set_option maxHeartbeats 4000000 in
set_option maxRecDepth 100000 in
theorem Size_any (op d s off c : Int) (w : World) : Calls Tryz.prog 59 #[asmV op d s off c] w fun e w' => e = .returned (.int .u64 (8 * rawN op)) ∧
    w.alloc (.cells #[.int .u32 op, .int .u8 d, .int .u8 s, .int .i16 off, .int .i64 c, .pointer none] 79) = w' := by
  have h : rawN op = 1 ∨ rawN op = 2 := by unfold rawN; split <;> simp
  rcases h with h | h
  all_goals
    rw [h]
    have hr := raw_any op
    rw [h] at hr
    go_enter Tryz.func59, Tryz.ntmps59
    go_wp2_with (go_at_call 105; refine (hr _).mono ?_; rintro e w' ⟨rfl, rfl⟩)
    go_ret
    exact ⟨rfl, rfl⟩
theorem own_at {w w' : World} {base size n : Nat} {e : TypeId} {v : Value} {xs : List Value} (h : w.ownsRow base e size v n xs) (hg : ∀ g, v.ownBlock = some g → w'.heap[g]? = w.heap[g]?) : w'.ownsRow base e size v n xs := by
  obtain ⟨h1, h2 | ⟨g, cap, cur, hv, hb, hg', hr⟩⟩ := h
  · exact ⟨h1, .inl h2⟩
  · exact ⟨h1, .inr ⟨g, cap, cur, hv, hb, (hg g (by rw [hv]; rfl)).trans hg', hr⟩⟩
theorem drop_at {xs : List Itm} {k : Nat} {x : Itm} (h : xs[k]? = some x) : xs.drop k = x :: xs.drop (k + 1) := by
  obtain ⟨hlt, rfl⟩ := List.getElem?_eq_some_iff.1 h
  exact List.drop_eq_getElem_cons hlt
theorem size_alloc' (w : World) (o : Obj) : (w.alloc o).heap.size = w.heap.size + 1 := by simp
def srcV (so : Nat) : Value := .iface 67 (.pointer (some ⟨so, 0, none⟩))
def AppPost (w : World) (so : Nat) (xs : List Itm) (e : Ending) (w' : World) : Prop :=
  ∃ v, e = .returned (.tuple #[v, .nilIface]) ∧ w'.ownsRow (so + 1) 79 6 v xs.length (rows asmRow xs) ∧ Below so w w'
set_option maxHeartbeats 4000000 in
set_option maxRecDepth 100000 in
theorem App_any (big : Bool) (so : Nat) (a : Addr) (xs : List Itm) (w : World) (hok : ∀ x ∈ xs, x.ok) (hlen : xs.length ≤ 100) (hs : SrcAt w so (encs big xs)) (ha : EofAt w a) (hso : 2 < so) :
    Calls Tryz.prog 23 #[.slice none 0 0, srcV so, ordV big, .string ⟨#[108, 105, 110, 117, 120]⟩] w (AppPost w so xs) := by
  unfold srcV
  obtain ⟨i0, hi, hz0, hz1, hz2⟩ := info_parts infoAsm
  have hsz := src_lt hs
  have hl1 : (xs.length : Int) ≤ 100 := by omega
  go_enter Tryz.func23, Tryz.ntmps23
  go_wp2_with fail
  go_loopg [0, 10] (xs.length + 1) (fun m v o wr => ∃ k : Nat, k ≤ xs.length ∧ m = xs.length + 1 - k ∧ wr.ownsRow (so + 1) 79 6 v k (rows asmRow (xs.take k)) ∧ (∃ i : Int, o = .int .u64 i) ∧ SrcAt wr so (encs big (xs.drop k)) ∧ Below so w wr)
  case atStart => exact ⟨0, by omega, by omega, World.ownsRow_nil _ _ _ _, ⟨0, rfl⟩, hs, Below.refl _ _⟩
  case round =>
    obtain ⟨k, hk, rfl, hown, ⟨i, rfl⟩, hsr, hbr⟩ := hrel
    have hzr := src_lt hsr
    by_cases hlt : k < xs.length
    · obtain ⟨x, hx⟩ : ∃ x, xs[k]? = some x := ⟨xs[k]'hlt, List.getElem?_eq_getElem hlt⟩
      rw [drop_at hx] at hsr
      obtain ⟨A2, c2, rfl, hnc, hcm⟩ := own_form hown
      go_wp2_with fail
      refine (Unm_good big x (hok x (List.mem_of_getElem? hx)) wr.heap.size so _ _ (src_grown hsr (World.grownBy_alloc wr _ none)) (heap_at rfl) hzr).mono ?_
      rintro e w2 ⟨rfl, hI2, hS2, hK2⟩
      have hb2 : Below so w w2 := (hbr.alloc (Nat.le_of_lt hzr) _).trans hK2.1
      have hy2 := hK2.1.size
      simp only [size_alloc'] at hy2
      have hown2 : w2.ownsRow (so + 1) 79 6 (.slice A2 k c2) k (rows asmRow (xs.take k)) := own_at hown (fun g hg => by
        have := hown.lt g hg
        exact (hK2.2 g (by simp; omega) (by omega) (by omega)).trans (Below.heap_alloc wr _ g this.2))
      have ha2 : w2.cell? ⟨2, 0, none⟩ = some (.iface 180 (.pointer (some a))) := (hb2.cell (p := ⟨2, 0, none⟩) hso).trans ha
      have hlo := fun g => hown.lt g
      have a0 : w2.cell? ⟨wr.heap.size, 0, none⟩ = some (.int .u32 x.op) := cell_of_row _ _ 0 _ _ _ hI2
      have a1 : w2.cell? ⟨wr.heap.size, 1, none⟩ = some (.int .u8 x.dst) := cell_of_row _ _ 1 _ _ _ hI2
      have a2 : w2.cell? ⟨wr.heap.size, 2, none⟩ = some (.int .u8 x.src) := cell_of_row _ _ 2 _ _ _ hI2
      have a3 : w2.cell? ⟨wr.heap.size, 3, none⟩ = some (.int .i16 x.off) := cell_of_row _ _ 3 _ _ _ hI2
      have a4 : w2.cell? ⟨wr.heap.size, 4, none⟩ = some (.int .i64 x.c) := cell_of_row _ _ 4 _ _ _ hI2
      have a5 : w2.cell? ⟨wr.heap.size, 5, none⟩ = some (.pointer none) := cell_of_row _ _ 5 _ _ _ hI2
      have HX := Lib.hid hx
      have HI := Lib.hid hI2
      clear hx hown hsr hK2 hbr hI2
      go_wp2_with (first
        | (go_at_call 58; refine (is_nil _ _).mono ?_; rintro e w' ⟨rfl, rfl⟩)
        | (go_at_call 59; refine (Size_any _ _ _ _ _ _).mono ?_; rintro e w' ⟨rfl, rfl⟩)
        | (
          at_builtin
          go_loud (refine wpList_append_lies _ rfl _ _ 52 rfl (so + 1) 79 i0 _ 6 24 Tryz.underlying52 hi hz0 hz1 hz2 rfl (by omega) _ k _ rfl (hown2.alloc _) ⟨w2.heap.size, 0, none⟩ 1 1 (asmRow x) rfl rfl (World.news_of_block (heap_at (by simp))) (asmRow_one x) (by omega) (by simp [maxLen]; omega) (by omega) (by simp; omega) _ rfl ?_)
          intro g2 gc w3 hown3 hgrow hat hlt3
          go_loud (have hI3 : InsAt w3 wr.heap.size x.op x.dst x.src x.off x.c := (hgrow.block _ (by simp; omega) (fun e => by have := hlo _ e.symm; omega)).trans (heap_up HI.out))
          have b0 : w3.cell? ⟨wr.heap.size, 0, none⟩ = some (.int .u32 x.op) := cell_of_row _ _ 0 _ _ _ hI3
          have b1 : w3.cell? ⟨wr.heap.size, 1, none⟩ = some (.int .u8 x.dst) := cell_of_row _ _ 1 _ _ _ hI3
          have b2 : w3.cell? ⟨wr.heap.size, 2, none⟩ = some (.int .u8 x.src) := cell_of_row _ _ 2 _ _ _ hI3
          have b3 : w3.cell? ⟨wr.heap.size, 3, none⟩ = some (.int .i16 x.off) := cell_of_row _ _ 3 _ _ _ hI3
          have b4 : w3.cell? ⟨wr.heap.size, 4, none⟩ = some (.int .i64 x.c) := cell_of_row _ _ 4 _ _ _ hI3
          have b5 : w3.cell? ⟨wr.heap.size, 5, none⟩ = some (.pointer none) := cell_of_row _ _ 5 _ _ _ hI3
          clear hI3))
      have hgr : w2.grownBy w3 (Value.slice A2 k c2).ownBlock := grownBy_trans (World.grownBy_alloc w2 _ _) hgrow
      have hb3 : Below so w w3 := hb2.grown hgr (by have := hb2.size; omega) (fun g e => by have := (hlo g e).1; omega)
      have hS3 : SrcAt w3 so (encs big (xs.drop (k + 1))) := hS2.kept ((Below.refl so w2).grown hgr (Nat.le_of_lt (src_lt hS2)) (fun g e => by have := (hlo g e).1; omega)) (hgr.block so (src_lt hS2) (fun e => by have := (hlo so e.symm).1; omega))
      go_roundg (xs.length + 1 - (k + 1))
      case measure => omega
      case rel => exact ⟨k + 1, by omega, rfl, (grown6 HX.out hown3).alloc _, ⟨_, rfl⟩, src_grown hS3 (World.grownBy_alloc w3 _ none), hb3.alloc (Nat.le_of_lt (src_lt hS3)) _⟩
    · obtain rfl : k = xs.length := by omega
      rw [List.drop_length] at hsr
      obtain ⟨A2, c2, rfl, hnc, hcm⟩ := own_form hown
      have har : EofAt wr a := (hbr.cell (p := ⟨2, 0, none⟩) hso).trans ha
      have har1 : EofAt (wr.alloc (.cells #[.int .u32 0, .int .u8 0, .int .u8 0, .int .i16 0, .int .i64 0, .pointer none] 79)) a := (((Below.refl so wr).alloc (Nat.le_of_lt hzr) _).cell (p := ⟨2, 0, none⟩) hso).trans har
      go_wp2_with fail
      refine (Unm_eof big wr.heap.size so a _ (src_grown hsr (World.grownBy_alloc wr _ none)) har1 (by simp; omega)).mono ?_
      rintro e w2 ⟨rfl, n, rfl⟩
      have ha2 : ((wr.alloc (.cells #[.int .u32 0, .int .u8 0, .int .u8 0, .int .i16 0, .int .i64 0, .pointer none] 79)).alloc (.cells #[.int .u8 0, .int .u8 0, .int .u8 0, .int .u8 0, .int .u8 0, .int .u8 0, .int .u8 0, .int .u8 0] 5)).cell? ⟨2, 0, none⟩ = some (.iface 180 (.pointer (some a))) :=
        ((((Below.refl so wr).alloc (Nat.le_of_lt hzr) _).alloc (by simp; omega) _).cell (p := ⟨2, 0, none⟩) hso).trans har
      go_wp2_with (go_at_call 58; refine (is_same _ _).mono ?_; rintro e w' ⟨rfl, rfl⟩)
      go_ret2
      rw [List.take_length] at hown
      exact ⟨_, rfl, own_drewN ((hown.alloc _).alloc _) _, below_drewN ((hbr.alloc (Nat.le_of_lt hzr) _).alloc (by simp; omega) _) _⟩
end Go.Proofs.YtobgjmgepckijaaGreatDoor
