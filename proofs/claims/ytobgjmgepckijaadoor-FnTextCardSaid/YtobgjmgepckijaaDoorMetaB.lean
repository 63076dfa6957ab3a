/- WithReference, walked; impl.insOf of an instruction with a reference. -/
import Derived.Test.YtobgjmgepckijaaDoorMeta
import Derived.Laws.Closers25b
import Derived.Outline
namespace Go.Proofs.YtobgjmgepckijaaDoor
open Go.RowKit
set_option linter.unusedVariables false
set_option linter.unusedSimpArgs false
set_option maxHeartbeats 4000000 in
set_option maxRecDepth 100000 in
theorem Set_new (a : Addr) (r : ByteArray) (w : World) (hc : w.cell? a = some (.pointer none)) (hf : w.frozen? a = false) :
    Calls Tryd.prog 76 #[.pointer (some a), refKey, .iface 9 (.string r)] w fun e w' => e = .returned (.tuple #[]) ∧ w' = (w.alloc (refObj r)).setCell a (.pointer (some ⟨w.heap.size, 0, none⟩)) := by
  have hlt := World.block_lt_of_cell? w _ hc
  have hne := Nat.ne_of_lt hlt
  have hq : ∀ W : World, (binOp .eql 20 (.iface 9 (.string r)) .nilIface).run Tryd.prog W = .ok (.bool false) W := fun _ => by kernel_rfl
  have hf2 : ∀ o, (w.alloc o).frozen? a = false := fun o => (((Below.refl w.heap.size w).alloc (Nat.le_refl _) o).frozen hlt).trans hf
  go_enter Tryd.func76, Tryd.ntmps76
  go_wp2_with (go_at_call 87; refine (find_nil _ _ _ hc).mono ?_; rintro e w' ⟨rfl, rfl⟩)
  exact bodyPost_end (v := .tuple #[]) (by simp [results, Tryd.results76, go_sem]) rfl ⟨rfl, rfl⟩
theorem below_cell {w w1 : World} {a : Addr} {u : Value} (h : Below w.heap.size w w1) (ha : w.heap.size ≤ a.block) : Below w.heap.size w (w1.setCell a u) := h.setCell ha u
set_option maxHeartbeats 4000000 in
set_option maxRecDepth 100000 in
theorem WithRef_any (op dst src off c : Int) (r : ByteArray) (w : World) : Calls Tryd.prog 62 #[asmP op dst src off c none, .string r] w fun e w' => e = .returned (asmP op dst src off c (some ⟨w.heap.size + 1 + 1, 0, none⟩)) ∧
    ((w.alloc (.cells #[.int .u32 op, .int .u8 dst, .int .u8 src, .int .i16 off, .int .i64 c, .pointer (some ⟨w.heap.size + 1 + 1, 0, none⟩)] 60)).alloc (.cells #[.int .u32 op, .int .u8 dst, .int .u8 src, .int .i16 off, .int .i64 c, .pointer (some ⟨w.heap.size + 1 + 1, 0, none⟩)] 60)).alloc (refObj r) = w' := by
  go_enter Tryd.func62, Tryd.ntmps62
  go_wp2_with (go_at_call 76; refine (Set_new _ r _ (by go_simp) (by go_simp)).mono ?_; rintro e w' ⟨rfl, rfl⟩)
  exact bodyPost_ret (v := asmP op dst src off c (some ⟨w.heap.size + 1 + 1, 0, none⟩)) (by simp [results, Tryd.results62, go_sem]) rfl ⟨rfl, rfl⟩
set_option maxHeartbeats 4000000 in
set_option maxRecDepth 100000 in
theorem InsOfRef_any (op dst src off c : Int) (r : ByteArray) (w : World) (h0 : 0 ≤ op) (h1 : op < 131072) (d0 : 0 ≤ dst) (d1 : dst ≤ 10) (s0 : 0 ≤ src) (s1 : src ≤ 10) (o0 : -32768 ≤ off) (o1 : off ≤ 32767) :
    Calls Tryd.prog 37 #[.agg #[.int .i64 op, .int .i64 dst, .int .i64 src, .int .i64 off, .int .i64 c, .string ⟨#[]⟩, .string r]] w fun e w' => ∃ p, e = .returned (asmP op dst src off c p) ∧ RefOf p r w' ∧ Below w.heap.size w w' := by
  by_cases hr : r = ⟨#[]⟩
  · subst hr
    exact (implInsOf_any op dst src off c w h0 h1 d0 d1 s0 s1 o0 o1).mono fun _ _ ⟨he, hw⟩ => ⟨none, he, .inl ⟨rfl, rfl⟩, by subst hw; (repeat (first | exact Below.refl _ _ | apply bel_al))⟩
  · have hl : (r.toList == []) = false := by
      have h : r.toList ≠ [] := fun h => hr ((toList_nil_iff_emptyBytes r).1 h)
      simpa using h
    have hb : (r == ⟨#[]⟩) = false := by rw [beq_toListBytes, ByteArray.toList_eq ⟨#[]⟩]; exact hl
    have HW := Lib.hid (fun W => WithRef_any op dst src off c r W)
    clear hr
    go_enter Tryd.func37, Tryd.ntmps37
    go_wp2_with (go_at_call 62; refine (HW.out _).mono ?_; rintro e w' ⟨rfl, rfl⟩)
    exact bodyPost_ret (v := asmP op dst src off c (some ⟨w.heap.size + 1 + 1 + 1 + 1 + 1, 0, none⟩)) (by simp [results, Tryd.results37, go_sem]) rfl ⟨_, rfl, .inr ⟨_, rfl, heap_at (by simp)⟩, by (repeat (first | exact Below.refl _ _ | apply bel_al))⟩
end Go.Proofs.YtobgjmgepckijaaDoor
