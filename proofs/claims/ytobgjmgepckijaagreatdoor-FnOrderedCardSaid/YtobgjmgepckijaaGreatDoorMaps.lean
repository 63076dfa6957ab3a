/- The two maps of words that the package builds anew at each call, and the words that it looks up in them. Printed by genmaps.py. -/
import Derived.Test.YtobgjmgepckijaaGreatDoorProg
import Derived.Test.YtobgjmgepckijaaGreatDoorFill
import Derived.WalkKit
import Derived.KernelRfl
import Derived.WalkLawsBesides
import Derived.WalkSpells
import Derived.Lib.Hide
import Derived.Carry
import Derived.Outline
namespace Go.Proofs.YtobgjmgepckijaaGreatDoor
open Go.RowKit
set_option linter.unusedVariables false
set_option linter.unusedSimpArgs false
theorem zeroStr (w : World) : (zeroValue 9).run Tryz.prog w = .ok (.string ⟨#[]⟩) w := by kernel_rfl
/-- the map in block b holds the words of a table -/
def HasTab (k : TypeId) (T : List Fil) (b : Nat) (w : World) : Prop := ∃ n, ∃ D : DataW Unit, w.ownsMap Tryz.prog k (plainElem Tryz.prog 9) b n D ∧ ∀ f ∈ T, ∀ zd, D.atKey f.kl zd = .lit (.string f.s.data.toList)
theorem HasTab.look {k t : TypeId} {T : List Fil} {b : Nat} {w : World} (h : HasTab k T b w) (K : Maps.Keyed Tryz.prog k) (ht : Tryz.prog.underlying t = some (.map k 9)) (f : Fil) (hf : f ∈ T) {key : Value} (hkey : keyOf Tryz.prog k key = some f.kl) :
    (Instr.lookup t (.map (some b)) key true).run Tryz.prog w = .ok (.tuple #[.string f.s, .bool true]) w := by
  obtain ⟨n, D, hown, hat⟩ := h
  obtain ⟨v, ps, hrun, hv⟩ := hown.look_ok K ht (zeroStr w) (plainElem_string Tryz.underlying9 (Nat.zero_le _)) hkey
  rw [hat f hf] at hv
  obtain ⟨s, rfl, hz, _⟩ := plainElem_string_inv Tryz.underlying9 hv
  rw [Maps.has_true_of_atKey (hat f hf)] at hrun
  have : s = f.s := by
    simp only [Prod.mk.injEq, DataW.lit.injEq, Lit.string.injEq] at hz
    apply ByteArray.ext
    exact (Array.toList_inj.1 hz.1.symm)
  rw [← this]; exact hrun
def MapPost (k : TypeId) (T : List Fil) (w : World) (e : Ending) (w' : World) : Prop := ∃ b, e = .returned (.map (some b)) ∧ HasTab k T b w' ∧ w.heap.size ≤ b ∧ Below w.heap.size w w'
theorem below_of_fill {w w' : World} (h : w.drew.grownBy w' (some w.heap.size)) : Below w.heap.size w w' :=
  ⟨h.os, h.tape, h.output, h.size, fun i hi => h.block i hi (by simp; omega)⟩
theorem Filled.tab {k : TypeId} {w0 w : World} {b : Nat} {T : List Fil} (h : Filled Tryz.prog k 9 w0 b T [] w) : HasTab k T b w := by
  obtain ⟨n, D, hown, _, hat, _⟩ := h
  exact ⟨n, D, hown, fun f hf zd => hat f hf (by simp) zd⟩
theorem Filled.grown {k e : TypeId} {w0 w : World} {b : Nat} {T : List Fil} {U : List Nat} (h : Filled Tryz.prog k e w0 b T U w) : w0.grownBy w (some b) := by
  obtain ⟨n, D, _, _, _, hg⟩ := h
  exact hg

def jumpTab : List Fil := [⟨2, .int .u8 0, ⟨#[74, 97]⟩⟩, ⟨4, .int .u8 16, ⟨#[74, 69, 113]⟩⟩, ⟨6, .int .u8 32, ⟨#[74, 71, 84]⟩⟩, ⟨8, .int .u8 48, ⟨#[74, 71, 69]⟩⟩, ⟨10, .int .u8 64, ⟨#[74, 83, 101, 116]⟩⟩, ⟨12, .int .u8 80, ⟨#[74, 78, 69]⟩⟩, ⟨14, .int .u8 96, ⟨#[74, 83, 71, 84]⟩⟩, ⟨16, .int .u8 112, ⟨#[74, 83, 71, 69]⟩⟩, ⟨18, .int .u8 128, ⟨#[67, 97, 108, 108]⟩⟩, ⟨20, .int .u8 144, ⟨#[69, 120, 105, 116]⟩⟩, ⟨22, .int .u8 160, ⟨#[74, 76, 84]⟩⟩, ⟨24, .int .u8 176, ⟨#[74, 76, 69]⟩⟩, ⟨26, .int .u8 192, ⟨#[74, 83, 76, 84]⟩⟩, ⟨28, .int .u8 208, ⟨#[74, 83, 76, 69]⟩⟩, ⟨30, .int .u8 224, ⟨#[74, 67, 79, 78, 68]⟩⟩, ⟨32, .int .u8 255, ⟨#[73, 110, 118, 97, 108, 105, 100, 74, 117, 109, 112, 79, 112]⟩⟩]
theorem jumpKeyed : Maps.Keyed Tryz.prog 88 := Maps.int_keyed Tryz.underlying88
set_option maxHeartbeats 8000000 in
set_option maxRecDepth 100000 in
theorem jumpMap_any (w : World) : Calls Tryz.prog 67 #[] w (MapPost 88 jumpTab w) := by
  go_enter Tryz.func67, Tryz.ntmps67
  go_wp2_with fail
  refine wp_region_any (by kernel_rfl) ?_
  change wpAny _ _ _ _ 35 (Array.replicate 35 false) _ (World.drew _)
  refine wpAny_take (i := 1) (oi := { dst := some 2, op := _, type := _, pos := _, after := _, guard := _ }) (v := .string ⟨#[74, 97]⟩) rfl (by kernel_rfl) (by kernel_rfl) (by kernel_rfl) (fun _ _ _ h => h) (Or.inl ⟨by rfl, fun w => by go_simp; kernel_rfl⟩) ?_
  refine wpAny_take (i := 3) (oi := { dst := some 3, op := _, type := _, pos := _, after := _, guard := _ }) (v := .string ⟨#[74, 69, 113]⟩) rfl (by kernel_rfl) (by kernel_rfl) (by kernel_rfl) (fun _ _ _ h => h) (Or.inl ⟨by rfl, fun w => by go_simp; kernel_rfl⟩) ?_
  refine wpAny_take (i := 5) (oi := { dst := some 4, op := _, type := _, pos := _, after := _, guard := _ }) (v := .string ⟨#[74, 71, 84]⟩) rfl (by kernel_rfl) (by kernel_rfl) (by kernel_rfl) (fun _ _ _ h => h) (Or.inl ⟨by rfl, fun w => by go_simp; kernel_rfl⟩) ?_
  refine wpAny_take (i := 7) (oi := { dst := some 5, op := _, type := _, pos := _, after := _, guard := _ }) (v := .string ⟨#[74, 71, 69]⟩) rfl (by kernel_rfl) (by kernel_rfl) (by kernel_rfl) (fun _ _ _ h => h) (Or.inl ⟨by rfl, fun w => by go_simp; kernel_rfl⟩) ?_
  refine wpAny_take (i := 9) (oi := { dst := some 6, op := _, type := _, pos := _, after := _, guard := _ }) (v := .string ⟨#[74, 83, 101, 116]⟩) rfl (by kernel_rfl) (by kernel_rfl) (by kernel_rfl) (fun _ _ _ h => h) (Or.inl ⟨by rfl, fun w => by go_simp; kernel_rfl⟩) ?_
  refine wpAny_take (i := 11) (oi := { dst := some 7, op := _, type := _, pos := _, after := _, guard := _ }) (v := .string ⟨#[74, 78, 69]⟩) rfl (by kernel_rfl) (by kernel_rfl) (by kernel_rfl) (fun _ _ _ h => h) (Or.inl ⟨by rfl, fun w => by go_simp; kernel_rfl⟩) ?_
  refine wpAny_take (i := 13) (oi := { dst := some 8, op := _, type := _, pos := _, after := _, guard := _ }) (v := .string ⟨#[74, 83, 71, 84]⟩) rfl (by kernel_rfl) (by kernel_rfl) (by kernel_rfl) (fun _ _ _ h => h) (Or.inl ⟨by rfl, fun w => by go_simp; kernel_rfl⟩) ?_
  refine wpAny_take (i := 15) (oi := { dst := some 9, op := _, type := _, pos := _, after := _, guard := _ }) (v := .string ⟨#[74, 83, 71, 69]⟩) rfl (by kernel_rfl) (by kernel_rfl) (by kernel_rfl) (fun _ _ _ h => h) (Or.inl ⟨by rfl, fun w => by go_simp; kernel_rfl⟩) ?_
  refine wpAny_take (i := 17) (oi := { dst := some 10, op := _, type := _, pos := _, after := _, guard := _ }) (v := .string ⟨#[67, 97, 108, 108]⟩) rfl (by kernel_rfl) (by kernel_rfl) (by kernel_rfl) (fun _ _ _ h => h) (Or.inl ⟨by rfl, fun w => by go_simp; kernel_rfl⟩) ?_
  refine wpAny_take (i := 19) (oi := { dst := some 11, op := _, type := _, pos := _, after := _, guard := _ }) (v := .string ⟨#[69, 120, 105, 116]⟩) rfl (by kernel_rfl) (by kernel_rfl) (by kernel_rfl) (fun _ _ _ h => h) (Or.inl ⟨by rfl, fun w => by go_simp; kernel_rfl⟩) ?_
  refine wpAny_take (i := 21) (oi := { dst := some 12, op := _, type := _, pos := _, after := _, guard := _ }) (v := .string ⟨#[74, 76, 84]⟩) rfl (by kernel_rfl) (by kernel_rfl) (by kernel_rfl) (fun _ _ _ h => h) (Or.inl ⟨by rfl, fun w => by go_simp; kernel_rfl⟩) ?_
  refine wpAny_take (i := 23) (oi := { dst := some 13, op := _, type := _, pos := _, after := _, guard := _ }) (v := .string ⟨#[74, 76, 69]⟩) rfl (by kernel_rfl) (by kernel_rfl) (by kernel_rfl) (fun _ _ _ h => h) (Or.inl ⟨by rfl, fun w => by go_simp; kernel_rfl⟩) ?_
  refine wpAny_take (i := 25) (oi := { dst := some 14, op := _, type := _, pos := _, after := _, guard := _ }) (v := .string ⟨#[74, 83, 76, 84]⟩) rfl (by kernel_rfl) (by kernel_rfl) (by kernel_rfl) (fun _ _ _ h => h) (Or.inl ⟨by rfl, fun w => by go_simp; kernel_rfl⟩) ?_
  refine wpAny_take (i := 27) (oi := { dst := some 15, op := _, type := _, pos := _, after := _, guard := _ }) (v := .string ⟨#[74, 83, 76, 69]⟩) rfl (by kernel_rfl) (by kernel_rfl) (by kernel_rfl) (fun _ _ _ h => h) (Or.inl ⟨by rfl, fun w => by go_simp; kernel_rfl⟩) ?_
  refine wpAny_take (i := 29) (oi := { dst := some 16, op := _, type := _, pos := _, after := _, guard := _ }) (v := .string ⟨#[74, 67, 79, 78, 68]⟩) rfl (by kernel_rfl) (by kernel_rfl) (by kernel_rfl) (fun _ _ _ h => h) (Or.inl ⟨by rfl, fun w => by go_simp; kernel_rfl⟩) ?_
  refine wpAny_take (i := 31) (oi := { dst := some 17, op := _, type := _, pos := _, after := _, guard := _ }) (v := .string ⟨#[73, 110, 118, 97, 108, 105, 100, 74, 117, 109, 112, 79, 112]⟩) rfl (by kernel_rfl) (by kernel_rfl) (by kernel_rfl) (fun _ _ _ h => h) (Or.inl ⟨by rfl, fun w => by go_simp; kernel_rfl⟩) ?_
  simp only [Act.put, List.setIfInBounds_toArray, List.set_cons_zero, List.set_cons_succ]
  refine wpAny_ready (rs := [0]) (by kernel_rfl) (by simp) (AllReady.cons (o := { dst := some 1, op := Op.makeMap 121 none, type := _, pos := _, after := _, guard := _ }) rfl ?_ AllReady.nil)
  intro K' hK
  rw [if_pos (by rfl)]
  refine wp_makeMap (t := 121) rfl (hK _ _ ?_)
  clear hK K'
  simp only [Act.put, List.setIfInBounds_toArray, List.set_cons_zero, List.set_cons_succ]
  refine wpAny_fill (w0 := w.drew) (b := w.heap.size) (t := 121) (e := 9) jumpKeyed Tryz.underlying121 Tryz.underlying9 jumpTab [33, 34] 2 35 ?hN ?hT ?g1 ?g2 ?htail #[true, true, true, true, true, true, true, true, true, true, true, true, true, true, true, true, true, true, true, true, true, true, true, true, true, true, true, true, true, true, true, true, true, false, false] ?g3 ?g4 ?hfin 16 [2, 4, 6, 8, 10, 12, 14, 16, 18, 20, 22, 24, 26, 28, 30, 32] _ _ ?g5 ?g6 ?g7 ?hs ?hl (filled_start (W := w.drew) ?g8 ?g9)
  case g1 => exact by decide
  case g2 => exact by simp [jumpTab]
  case g3 => exact rfl
  case g4 => exact by decide
  case g5 => exact rfl
  case g6 => exact by decide
  case g7 => exact by decide
  case g8 => exact by decide
  case g9 => exact by decide
  case hN => rfl
  case hs => rfl
  case hl => decide +kernel
  case hT =>
    intro f hf
    simp only [jumpTab, List.mem_cons, List.not_mem_nil, or_false] at hf
    rcases hf with rfl | rfl | rfl | rfl | rfl | rfl | rfl | rfl | rfl | rfl | rfl | rfl | rfl | rfl | rfl | rfl
    all_goals exact ⟨_, _, _, _, _, rfl, rfl, rfl, rfl, rfl, rfl, rfl, Maps.keyOf_int_mk Tryz.underlying88 (by decide), trivial, by decide, by kernel_rfl⟩
  case htail =>
    intro j hj i hi
    simp only [List.mem_cons, List.not_mem_nil, or_false] at hj
    simp only [jumpTab, List.map_cons, List.map_nil, List.mem_cons, List.not_mem_nil, or_false] at hi
    rcases hj with rfl | rfl
    all_goals
      rcases hi with rfl | rfl | rfl | rfl | rfl | rfl | rfl | rfl | rfl | rfl | rfl | rfl | rfl | rfl | rfl | rfl
      all_goals exact ⟨_, rfl, by kernel_rfl⟩
  case hfin =>
    intro w2 hF
    refine wpAny_take (i := 33) (oi := { dst := some 18, op := Op.move (Operand.tmp 1), type := _, pos := _, after := _, guard := _ }) (v := .map (some w.heap.size)) rfl (by kernel_rfl) (by kernel_rfl) (by kernel_rfl) (fun _ _ _ h => h) (Or.inl ⟨by rfl, fun w => by go_simp⟩) ?_
    refine wpAny_take (i := 34) (oi := { dst := some 0, op := Op.assign (Operand.tmp 18), type := _, pos := _, after := _, guard := _ }) (v := .map (some w.heap.size)) rfl (by kernel_rfl) (by kernel_rfl) (by kernel_rfl) (fun _ _ _ h => h) (Or.inl ⟨by rfl, fun w => by go_simp⟩) ?_
    refine wpAny_done (by kernel_rfl) ?_ _
    simp only [Act.put, List.setIfInBounds_toArray, List.set_cons_zero, List.set_cons_succ]
    go_wp2_with fail
    go_ret
    exact ⟨_, rfl, hF.tab, Nat.le_refl _, below_of_fill hF.grown⟩

def aluTab : List Fil := [⟨2, .int .u16 0, ⟨#[65, 100, 100]⟩⟩, ⟨4, .int .u16 16, ⟨#[83, 117, 98]⟩⟩, ⟨6, .int .u16 32, ⟨#[77, 117, 108]⟩⟩, ⟨8, .int .u16 48, ⟨#[68, 105, 118]⟩⟩, ⟨10, .int .u16 64, ⟨#[79, 114]⟩⟩, ⟨12, .int .u16 80, ⟨#[65, 110, 100]⟩⟩, ⟨14, .int .u16 96, ⟨#[76, 83, 104]⟩⟩, ⟨16, .int .u16 112, ⟨#[82, 83, 104]⟩⟩, ⟨18, .int .u16 128, ⟨#[78, 101, 103]⟩⟩, ⟨20, .int .u16 144, ⟨#[77, 111, 100]⟩⟩, ⟨22, .int .u16 160, ⟨#[88, 111, 114]⟩⟩, ⟨24, .int .u16 176, ⟨#[77, 111, 118]⟩⟩, ⟨26, .int .u16 192, ⟨#[65, 114, 83, 104]⟩⟩, ⟨28, .int .u16 208, ⟨#[83, 119, 97, 112]⟩⟩, ⟨30, .int .u16 304, ⟨#[83, 68, 105, 118]⟩⟩, ⟨32, .int .u16 400, ⟨#[83, 77, 111, 100]⟩⟩, ⟨34, .int .u16 432, ⟨#[77, 111, 118, 83, 88, 56]⟩⟩, ⟨36, .int .u16 688, ⟨#[77, 111, 118, 83, 88, 49, 54]⟩⟩, ⟨38, .int .u16 944, ⟨#[77, 111, 118, 83, 88, 51, 50]⟩⟩, ⟨40, .int .u16 65535, ⟨#[73, 110, 118, 97, 108, 105, 100, 65, 76, 85, 79, 112]⟩⟩]
theorem aluKeyed : Maps.Keyed Tryz.prog 87 := Maps.int_keyed Tryz.underlying87
set_option maxHeartbeats 8000000 in
set_option maxRecDepth 100000 in
theorem aluMap_any (w : World) : Calls Tryz.prog 66 #[] w (MapPost 87 aluTab w) := by
  go_enter Tryz.func66, Tryz.ntmps66
  go_wp2_with fail
  refine wp_region_any (by kernel_rfl) ?_
  change wpAny _ _ _ _ 43 (Array.replicate 43 false) _ (World.drew _)
  refine wpAny_take (i := 1) (oi := { dst := some 2, op := _, type := _, pos := _, after := _, guard := _ }) (v := .string ⟨#[65, 100, 100]⟩) rfl (by kernel_rfl) (by kernel_rfl) (by kernel_rfl) (fun _ _ _ h => h) (Or.inl ⟨by rfl, fun w => by go_simp; kernel_rfl⟩) ?_
  refine wpAny_take (i := 3) (oi := { dst := some 3, op := _, type := _, pos := _, after := _, guard := _ }) (v := .string ⟨#[83, 117, 98]⟩) rfl (by kernel_rfl) (by kernel_rfl) (by kernel_rfl) (fun _ _ _ h => h) (Or.inl ⟨by rfl, fun w => by go_simp; kernel_rfl⟩) ?_
  refine wpAny_take (i := 5) (oi := { dst := some 4, op := _, type := _, pos := _, after := _, guard := _ }) (v := .string ⟨#[77, 117, 108]⟩) rfl (by kernel_rfl) (by kernel_rfl) (by kernel_rfl) (fun _ _ _ h => h) (Or.inl ⟨by rfl, fun w => by go_simp; kernel_rfl⟩) ?_
  refine wpAny_take (i := 7) (oi := { dst := some 5, op := _, type := _, pos := _, after := _, guard := _ }) (v := .string ⟨#[68, 105, 118]⟩) rfl (by kernel_rfl) (by kernel_rfl) (by kernel_rfl) (fun _ _ _ h => h) (Or.inl ⟨by rfl, fun w => by go_simp; kernel_rfl⟩) ?_
  refine wpAny_take (i := 9) (oi := { dst := some 6, op := _, type := _, pos := _, after := _, guard := _ }) (v := .string ⟨#[79, 114]⟩) rfl (by kernel_rfl) (by kernel_rfl) (by kernel_rfl) (fun _ _ _ h => h) (Or.inl ⟨by rfl, fun w => by go_simp; kernel_rfl⟩) ?_
  refine wpAny_take (i := 11) (oi := { dst := some 7, op := _, type := _, pos := _, after := _, guard := _ }) (v := .string ⟨#[65, 110, 100]⟩) rfl (by kernel_rfl) (by kernel_rfl) (by kernel_rfl) (fun _ _ _ h => h) (Or.inl ⟨by rfl, fun w => by go_simp; kernel_rfl⟩) ?_
  refine wpAny_take (i := 13) (oi := { dst := some 8, op := _, type := _, pos := _, after := _, guard := _ }) (v := .string ⟨#[76, 83, 104]⟩) rfl (by kernel_rfl) (by kernel_rfl) (by kernel_rfl) (fun _ _ _ h => h) (Or.inl ⟨by rfl, fun w => by go_simp; kernel_rfl⟩) ?_
  refine wpAny_take (i := 15) (oi := { dst := some 9, op := _, type := _, pos := _, after := _, guard := _ }) (v := .string ⟨#[82, 83, 104]⟩) rfl (by kernel_rfl) (by kernel_rfl) (by kernel_rfl) (fun _ _ _ h => h) (Or.inl ⟨by rfl, fun w => by go_simp; kernel_rfl⟩) ?_
  refine wpAny_take (i := 17) (oi := { dst := some 10, op := _, type := _, pos := _, after := _, guard := _ }) (v := .string ⟨#[78, 101, 103]⟩) rfl (by kernel_rfl) (by kernel_rfl) (by kernel_rfl) (fun _ _ _ h => h) (Or.inl ⟨by rfl, fun w => by go_simp; kernel_rfl⟩) ?_
  refine wpAny_take (i := 19) (oi := { dst := some 11, op := _, type := _, pos := _, after := _, guard := _ }) (v := .string ⟨#[77, 111, 100]⟩) rfl (by kernel_rfl) (by kernel_rfl) (by kernel_rfl) (fun _ _ _ h => h) (Or.inl ⟨by rfl, fun w => by go_simp; kernel_rfl⟩) ?_
  refine wpAny_take (i := 21) (oi := { dst := some 12, op := _, type := _, pos := _, after := _, guard := _ }) (v := .string ⟨#[88, 111, 114]⟩) rfl (by kernel_rfl) (by kernel_rfl) (by kernel_rfl) (fun _ _ _ h => h) (Or.inl ⟨by rfl, fun w => by go_simp; kernel_rfl⟩) ?_
  refine wpAny_take (i := 23) (oi := { dst := some 13, op := _, type := _, pos := _, after := _, guard := _ }) (v := .string ⟨#[77, 111, 118]⟩) rfl (by kernel_rfl) (by kernel_rfl) (by kernel_rfl) (fun _ _ _ h => h) (Or.inl ⟨by rfl, fun w => by go_simp; kernel_rfl⟩) ?_
  refine wpAny_take (i := 25) (oi := { dst := some 14, op := _, type := _, pos := _, after := _, guard := _ }) (v := .string ⟨#[65, 114, 83, 104]⟩) rfl (by kernel_rfl) (by kernel_rfl) (by kernel_rfl) (fun _ _ _ h => h) (Or.inl ⟨by rfl, fun w => by go_simp; kernel_rfl⟩) ?_
  refine wpAny_take (i := 27) (oi := { dst := some 15, op := _, type := _, pos := _, after := _, guard := _ }) (v := .string ⟨#[83, 119, 97, 112]⟩) rfl (by kernel_rfl) (by kernel_rfl) (by kernel_rfl) (fun _ _ _ h => h) (Or.inl ⟨by rfl, fun w => by go_simp; kernel_rfl⟩) ?_
  refine wpAny_take (i := 29) (oi := { dst := some 16, op := _, type := _, pos := _, after := _, guard := _ }) (v := .string ⟨#[83, 68, 105, 118]⟩) rfl (by kernel_rfl) (by kernel_rfl) (by kernel_rfl) (fun _ _ _ h => h) (Or.inl ⟨by rfl, fun w => by go_simp; kernel_rfl⟩) ?_
  refine wpAny_take (i := 31) (oi := { dst := some 17, op := _, type := _, pos := _, after := _, guard := _ }) (v := .string ⟨#[83, 77, 111, 100]⟩) rfl (by kernel_rfl) (by kernel_rfl) (by kernel_rfl) (fun _ _ _ h => h) (Or.inl ⟨by rfl, fun w => by go_simp; kernel_rfl⟩) ?_
  refine wpAny_take (i := 33) (oi := { dst := some 18, op := _, type := _, pos := _, after := _, guard := _ }) (v := .string ⟨#[77, 111, 118, 83, 88, 56]⟩) rfl (by kernel_rfl) (by kernel_rfl) (by kernel_rfl) (fun _ _ _ h => h) (Or.inl ⟨by rfl, fun w => by go_simp; kernel_rfl⟩) ?_
  refine wpAny_take (i := 35) (oi := { dst := some 19, op := _, type := _, pos := _, after := _, guard := _ }) (v := .string ⟨#[77, 111, 118, 83, 88, 49, 54]⟩) rfl (by kernel_rfl) (by kernel_rfl) (by kernel_rfl) (fun _ _ _ h => h) (Or.inl ⟨by rfl, fun w => by go_simp; kernel_rfl⟩) ?_
  refine wpAny_take (i := 37) (oi := { dst := some 20, op := _, type := _, pos := _, after := _, guard := _ }) (v := .string ⟨#[77, 111, 118, 83, 88, 51, 50]⟩) rfl (by kernel_rfl) (by kernel_rfl) (by kernel_rfl) (fun _ _ _ h => h) (Or.inl ⟨by rfl, fun w => by go_simp; kernel_rfl⟩) ?_
  refine wpAny_take (i := 39) (oi := { dst := some 21, op := _, type := _, pos := _, after := _, guard := _ }) (v := .string ⟨#[73, 110, 118, 97, 108, 105, 100, 65, 76, 85, 79, 112]⟩) rfl (by kernel_rfl) (by kernel_rfl) (by kernel_rfl) (fun _ _ _ h => h) (Or.inl ⟨by rfl, fun w => by go_simp; kernel_rfl⟩) ?_
  simp only [Act.put, List.setIfInBounds_toArray, List.set_cons_zero, List.set_cons_succ]
  refine wpAny_ready (rs := [0]) (by kernel_rfl) (by simp) (AllReady.cons (o := { dst := some 1, op := Op.makeMap 119 none, type := _, pos := _, after := _, guard := _ }) rfl ?_ AllReady.nil)
  intro K' hK
  rw [if_pos (by rfl)]
  refine wp_makeMap (t := 119) rfl (hK _ _ ?_)
  clear hK K'
  simp only [Act.put, List.setIfInBounds_toArray, List.set_cons_zero, List.set_cons_succ]
  refine wpAny_fill (w0 := w.drew) (b := w.heap.size) (t := 119) (e := 9) aluKeyed Tryz.underlying119 Tryz.underlying9 aluTab [41, 42] 2 43 ?hN ?hT ?g1 ?g2 ?htail #[true, true, true, true, true, true, true, true, true, true, true, true, true, true, true, true, true, true, true, true, true, true, true, true, true, true, true, true, true, true, true, true, true, true, true, true, true, true, true, true, true, false, false] ?g3 ?g4 ?hfin 20 [2, 4, 6, 8, 10, 12, 14, 16, 18, 20, 22, 24, 26, 28, 30, 32, 34, 36, 38, 40] _ _ ?g5 ?g6 ?g7 ?hs ?hl (filled_start (W := w.drew) ?g8 ?g9)
  case g1 => exact by decide
  case g2 => exact by simp [aluTab]
  case g3 => exact rfl
  case g4 => exact by decide
  case g5 => exact rfl
  case g6 => exact by decide
  case g7 => exact by decide
  case g8 => exact by decide
  case g9 => exact by decide
  case hN => rfl
  case hs => rfl
  case hl => decide +kernel
  case hT =>
    intro f hf
    simp only [aluTab, List.mem_cons, List.not_mem_nil, or_false] at hf
    rcases hf with rfl | rfl | rfl | rfl | rfl | rfl | rfl | rfl | rfl | rfl | rfl | rfl | rfl | rfl | rfl | rfl | rfl | rfl | rfl | rfl
    all_goals exact ⟨_, _, _, _, _, rfl, rfl, rfl, rfl, rfl, rfl, rfl, Maps.keyOf_int_mk Tryz.underlying87 (by decide), trivial, by decide, by kernel_rfl⟩
  case htail =>
    intro j hj i hi
    simp only [List.mem_cons, List.not_mem_nil, or_false] at hj
    simp only [aluTab, List.map_cons, List.map_nil, List.mem_cons, List.not_mem_nil, or_false] at hi
    rcases hj with rfl | rfl
    all_goals
      rcases hi with rfl | rfl | rfl | rfl | rfl | rfl | rfl | rfl | rfl | rfl | rfl | rfl | rfl | rfl | rfl | rfl | rfl | rfl | rfl | rfl
      all_goals exact ⟨_, rfl, by kernel_rfl⟩
  case hfin =>
    intro w2 hF
    refine wpAny_take (i := 41) (oi := { dst := some 22, op := Op.move (Operand.tmp 1), type := _, pos := _, after := _, guard := _ }) (v := .map (some w.heap.size)) rfl (by kernel_rfl) (by kernel_rfl) (by kernel_rfl) (fun _ _ _ h => h) (Or.inl ⟨by rfl, fun w => by go_simp⟩) ?_
    refine wpAny_take (i := 42) (oi := { dst := some 0, op := Op.assign (Operand.tmp 22), type := _, pos := _, after := _, guard := _ }) (v := .map (some w.heap.size)) rfl (by kernel_rfl) (by kernel_rfl) (by kernel_rfl) (fun _ _ _ h => h) (Or.inl ⟨by rfl, fun w => by go_simp⟩) ?_
    refine wpAny_done (by kernel_rfl) ?_ _
    simp only [Act.put, List.setIfInBounds_toArray, List.set_cons_zero, List.set_cons_succ]
    go_wp2_with fail
    go_ret
    exact ⟨_, rfl, hF.tab, Nat.le_refl _, below_of_fill hF.grown⟩

def aluKeys : List Int := [0, 16, 32, 48, 64, 80, 96, 112, 128, 144, 160, 176, 192, 208, 304, 400, 432, 688, 944, 65535]
/-- the word of a number -/
def aluS (k : Int) : ByteArray := if k = 0 then ⟨#[65, 100, 100]⟩ else if k = 16 then ⟨#[83, 117, 98]⟩ else if k = 32 then ⟨#[77, 117, 108]⟩ else if k = 48 then ⟨#[68, 105, 118]⟩ else if k = 64 then ⟨#[79, 114]⟩ else if k = 80 then ⟨#[65, 110, 100]⟩ else if k = 96 then ⟨#[76, 83, 104]⟩ else if k = 112 then ⟨#[82, 83, 104]⟩ else if k = 128 then ⟨#[78, 101, 103]⟩ else if k = 144 then ⟨#[77, 111, 100]⟩ else if k = 160 then ⟨#[88, 111, 114]⟩ else if k = 176 then ⟨#[77, 111, 118]⟩ else if k = 192 then ⟨#[65, 114, 83, 104]⟩ else if k = 208 then ⟨#[83, 119, 97, 112]⟩ else if k = 304 then ⟨#[83, 68, 105, 118]⟩ else if k = 400 then ⟨#[83, 77, 111, 100]⟩ else if k = 432 then ⟨#[77, 111, 118, 83, 88, 56]⟩ else if k = 688 then ⟨#[77, 111, 118, 83, 88, 49, 54]⟩ else if k = 944 then ⟨#[77, 111, 118, 83, 88, 51, 50]⟩ else if k = 65535 then ⟨#[73, 110, 118, 97, 108, 105, 100, 65, 76, 85, 79, 112]⟩ else ⟨#[]⟩
theorem aluS_mem : ∀ k ∈ aluKeys, ∃ f ∈ aluTab, f.kl = .int .u16 k ∧ f.s = aluS k ∧ (Lit.int .u16 k).wf = true ∧ (aluS k).size ≤ 20 := by
  intro k hk
  simp only [aluKeys, List.mem_cons, List.not_mem_nil, or_false] at hk
  rcases hk with rfl | rfl | rfl | rfl | rfl | rfl | rfl | rfl | rfl | rfl | rfl | rfl | rfl | rfl | rfl | rfl | rfl | rfl | rfl | rfl
  · exact ⟨_, by simp only [aluTab]; exact .head _, rfl, rfl, by decide, by decide⟩
  · exact ⟨_, by simp only [aluTab]; exact .tail _ (.head _), rfl, rfl, by decide, by decide⟩
  · exact ⟨_, by simp only [aluTab]; exact .tail _ (.tail _ (.head _)), rfl, rfl, by decide, by decide⟩
  · exact ⟨_, by simp only [aluTab]; exact .tail _ (.tail _ (.tail _ (.head _))), rfl, rfl, by decide, by decide⟩
  · exact ⟨_, by simp only [aluTab]; exact .tail _ (.tail _ (.tail _ (.tail _ (.head _)))), rfl, rfl, by decide, by decide⟩
  · exact ⟨_, by simp only [aluTab]; exact .tail _ (.tail _ (.tail _ (.tail _ (.tail _ (.head _))))), rfl, rfl, by decide, by decide⟩
  · exact ⟨_, by simp only [aluTab]; exact .tail _ (.tail _ (.tail _ (.tail _ (.tail _ (.tail _ (.head _)))))), rfl, rfl, by decide, by decide⟩
  · exact ⟨_, by simp only [aluTab]; exact .tail _ (.tail _ (.tail _ (.tail _ (.tail _ (.tail _ (.tail _ (.head _))))))), rfl, rfl, by decide, by decide⟩
  · exact ⟨_, by simp only [aluTab]; exact .tail _ (.tail _ (.tail _ (.tail _ (.tail _ (.tail _ (.tail _ (.tail _ (.head _)))))))), rfl, rfl, by decide, by decide⟩
  · exact ⟨_, by simp only [aluTab]; exact .tail _ (.tail _ (.tail _ (.tail _ (.tail _ (.tail _ (.tail _ (.tail _ (.tail _ (.head _))))))))), rfl, rfl, by decide, by decide⟩
  · exact ⟨_, by simp only [aluTab]; exact .tail _ (.tail _ (.tail _ (.tail _ (.tail _ (.tail _ (.tail _ (.tail _ (.tail _ (.tail _ (.head _)))))))))), rfl, rfl, by decide, by decide⟩
  · exact ⟨_, by simp only [aluTab]; exact .tail _ (.tail _ (.tail _ (.tail _ (.tail _ (.tail _ (.tail _ (.tail _ (.tail _ (.tail _ (.tail _ (.head _))))))))))), rfl, rfl, by decide, by decide⟩
  · exact ⟨_, by simp only [aluTab]; exact .tail _ (.tail _ (.tail _ (.tail _ (.tail _ (.tail _ (.tail _ (.tail _ (.tail _ (.tail _ (.tail _ (.tail _ (.head _)))))))))))), rfl, rfl, by decide, by decide⟩
  · exact ⟨_, by simp only [aluTab]; exact .tail _ (.tail _ (.tail _ (.tail _ (.tail _ (.tail _ (.tail _ (.tail _ (.tail _ (.tail _ (.tail _ (.tail _ (.tail _ (.head _))))))))))))), rfl, rfl, by decide, by decide⟩
  · exact ⟨_, by simp only [aluTab]; exact .tail _ (.tail _ (.tail _ (.tail _ (.tail _ (.tail _ (.tail _ (.tail _ (.tail _ (.tail _ (.tail _ (.tail _ (.tail _ (.tail _ (.head _)))))))))))))), rfl, rfl, by decide, by decide⟩
  · exact ⟨_, by simp only [aluTab]; exact .tail _ (.tail _ (.tail _ (.tail _ (.tail _ (.tail _ (.tail _ (.tail _ (.tail _ (.tail _ (.tail _ (.tail _ (.tail _ (.tail _ (.tail _ (.head _))))))))))))))), rfl, rfl, by decide, by decide⟩
  · exact ⟨_, by simp only [aluTab]; exact .tail _ (.tail _ (.tail _ (.tail _ (.tail _ (.tail _ (.tail _ (.tail _ (.tail _ (.tail _ (.tail _ (.tail _ (.tail _ (.tail _ (.tail _ (.tail _ (.head _)))))))))))))))), rfl, rfl, by decide, by decide⟩
  · exact ⟨_, by simp only [aluTab]; exact .tail _ (.tail _ (.tail _ (.tail _ (.tail _ (.tail _ (.tail _ (.tail _ (.tail _ (.tail _ (.tail _ (.tail _ (.tail _ (.tail _ (.tail _ (.tail _ (.tail _ (.head _))))))))))))))))), rfl, rfl, by decide, by decide⟩
  · exact ⟨_, by simp only [aluTab]; exact .tail _ (.tail _ (.tail _ (.tail _ (.tail _ (.tail _ (.tail _ (.tail _ (.tail _ (.tail _ (.tail _ (.tail _ (.tail _ (.tail _ (.tail _ (.tail _ (.tail _ (.tail _ (.head _)))))))))))))))))), rfl, rfl, by decide, by decide⟩
  · exact ⟨_, by simp only [aluTab]; exact .tail _ (.tail _ (.tail _ (.tail _ (.tail _ (.tail _ (.tail _ (.tail _ (.tail _ (.tail _ (.tail _ (.tail _ (.tail _ (.tail _ (.tail _ (.tail _ (.tail _ (.tail _ (.tail _ (.head _))))))))))))))))))), rfl, rfl, by decide, by decide⟩
def jumpKeys : List Int := [0, 16, 32, 48, 64, 80, 96, 112, 128, 144, 160, 176, 192, 208, 224, 255]
/-- the word of a number -/
def jumpS (k : Int) : ByteArray := if k = 0 then ⟨#[74, 97]⟩ else if k = 16 then ⟨#[74, 69, 113]⟩ else if k = 32 then ⟨#[74, 71, 84]⟩ else if k = 48 then ⟨#[74, 71, 69]⟩ else if k = 64 then ⟨#[74, 83, 101, 116]⟩ else if k = 80 then ⟨#[74, 78, 69]⟩ else if k = 96 then ⟨#[74, 83, 71, 84]⟩ else if k = 112 then ⟨#[74, 83, 71, 69]⟩ else if k = 128 then ⟨#[67, 97, 108, 108]⟩ else if k = 144 then ⟨#[69, 120, 105, 116]⟩ else if k = 160 then ⟨#[74, 76, 84]⟩ else if k = 176 then ⟨#[74, 76, 69]⟩ else if k = 192 then ⟨#[74, 83, 76, 84]⟩ else if k = 208 then ⟨#[74, 83, 76, 69]⟩ else if k = 224 then ⟨#[74, 67, 79, 78, 68]⟩ else if k = 255 then ⟨#[73, 110, 118, 97, 108, 105, 100, 74, 117, 109, 112, 79, 112]⟩ else ⟨#[]⟩
theorem jumpS_mem : ∀ k ∈ jumpKeys, ∃ f ∈ jumpTab, f.kl = .int .u8 k ∧ f.s = jumpS k ∧ (Lit.int .u8 k).wf = true ∧ (jumpS k).size ≤ 20 := by
  intro k hk
  simp only [jumpKeys, List.mem_cons, List.not_mem_nil, or_false] at hk
  rcases hk with rfl | rfl | rfl | rfl | rfl | rfl | rfl | rfl | rfl | rfl | rfl | rfl | rfl | rfl | rfl | rfl
  · exact ⟨_, by simp only [jumpTab]; exact .head _, rfl, rfl, by decide, by decide⟩
  · exact ⟨_, by simp only [jumpTab]; exact .tail _ (.head _), rfl, rfl, by decide, by decide⟩
  · exact ⟨_, by simp only [jumpTab]; exact .tail _ (.tail _ (.head _)), rfl, rfl, by decide, by decide⟩
  · exact ⟨_, by simp only [jumpTab]; exact .tail _ (.tail _ (.tail _ (.head _))), rfl, rfl, by decide, by decide⟩
  · exact ⟨_, by simp only [jumpTab]; exact .tail _ (.tail _ (.tail _ (.tail _ (.head _)))), rfl, rfl, by decide, by decide⟩
  · exact ⟨_, by simp only [jumpTab]; exact .tail _ (.tail _ (.tail _ (.tail _ (.tail _ (.head _))))), rfl, rfl, by decide, by decide⟩
  · exact ⟨_, by simp only [jumpTab]; exact .tail _ (.tail _ (.tail _ (.tail _ (.tail _ (.tail _ (.head _)))))), rfl, rfl, by decide, by decide⟩
  · exact ⟨_, by simp only [jumpTab]; exact .tail _ (.tail _ (.tail _ (.tail _ (.tail _ (.tail _ (.tail _ (.head _))))))), rfl, rfl, by decide, by decide⟩
  · exact ⟨_, by simp only [jumpTab]; exact .tail _ (.tail _ (.tail _ (.tail _ (.tail _ (.tail _ (.tail _ (.tail _ (.head _)))))))), rfl, rfl, by decide, by decide⟩
  · exact ⟨_, by simp only [jumpTab]; exact .tail _ (.tail _ (.tail _ (.tail _ (.tail _ (.tail _ (.tail _ (.tail _ (.tail _ (.head _))))))))), rfl, rfl, by decide, by decide⟩
  · exact ⟨_, by simp only [jumpTab]; exact .tail _ (.tail _ (.tail _ (.tail _ (.tail _ (.tail _ (.tail _ (.tail _ (.tail _ (.tail _ (.head _)))))))))), rfl, rfl, by decide, by decide⟩
  · exact ⟨_, by simp only [jumpTab]; exact .tail _ (.tail _ (.tail _ (.tail _ (.tail _ (.tail _ (.tail _ (.tail _ (.tail _ (.tail _ (.tail _ (.head _))))))))))), rfl, rfl, by decide, by decide⟩
  · exact ⟨_, by simp only [jumpTab]; exact .tail _ (.tail _ (.tail _ (.tail _ (.tail _ (.tail _ (.tail _ (.tail _ (.tail _ (.tail _ (.tail _ (.tail _ (.head _)))))))))))), rfl, rfl, by decide, by decide⟩
  · exact ⟨_, by simp only [jumpTab]; exact .tail _ (.tail _ (.tail _ (.tail _ (.tail _ (.tail _ (.tail _ (.tail _ (.tail _ (.tail _ (.tail _ (.tail _ (.tail _ (.head _))))))))))))), rfl, rfl, by decide, by decide⟩
  · exact ⟨_, by simp only [jumpTab]; exact .tail _ (.tail _ (.tail _ (.tail _ (.tail _ (.tail _ (.tail _ (.tail _ (.tail _ (.tail _ (.tail _ (.tail _ (.tail _ (.tail _ (.head _)))))))))))))), rfl, rfl, by decide, by decide⟩
  · exact ⟨_, by simp only [jumpTab]; exact .tail _ (.tail _ (.tail _ (.tail _ (.tail _ (.tail _ (.tail _ (.tail _ (.tail _ (.tail _ (.tail _ (.tail _ (.tail _ (.tail _ (.tail _ (.head _))))))))))))))), rfl, rfl, by decide, by decide⟩
set_option maxHeartbeats 4000000 in
set_option maxRecDepth 100000 in
theorem aluString (k : Int) (w : World) (hk : k ∈ aluKeys) : Calls Tryz.prog 32 #[.int .u16 k] w fun e w' => e = .returned (.string (aluS k)) ∧ Below w.heap.size w w' := by
  obtain ⟨f, hf, e1, e2, e3, _⟩ := aluS_mem k hk
  obtain ⟨S, hS⟩ : ∃ S, aluS k = S := ⟨_, rfl⟩
  rw [hS] at e2 ⊢
  have H1 := Lib.hid e1
  have H2 := Lib.hid e2
  have H3 := Lib.hid e3
  clear hk hS e1 e2 e3
  go_enter Tryz.func32, Tryz.ntmps32
  go_wp2_with fail
  refine (aluMap_any w).mono ?_
  rintro e w1 ⟨b, rfl, htab, _, hb⟩
  have hlook := htab.look aluKeyed Tryz.underlying119 f hf (key := .int .u16 k) (by rw [H1.out]; exact Maps.keyOf_int_mk Tryz.underlying87 H3.out)
  rw [H2.out] at hlook
  clear htab
  go_wp2_with fail
  go_ret
  exact ⟨rfl, hb⟩
set_option maxHeartbeats 4000000 in
set_option maxRecDepth 100000 in
theorem jumpString (k : Int) (w : World) (hk : k ∈ jumpKeys) : Calls Tryz.prog 33 #[.int .u8 k] w fun e w' => e = .returned (.string (jumpS k)) ∧ Below w.heap.size w w' := by
  obtain ⟨f, hf, e1, e2, e3, _⟩ := jumpS_mem k hk
  obtain ⟨S, hS⟩ : ∃ S, jumpS k = S := ⟨_, rfl⟩
  rw [hS] at e2 ⊢
  have H1 := Lib.hid e1
  have H2 := Lib.hid e2
  have H3 := Lib.hid e3
  clear hk hS e1 e2 e3
  go_enter Tryz.func33, Tryz.ntmps33
  go_wp2_with fail
  refine (jumpMap_any w).mono ?_
  rintro e w1 ⟨b, rfl, htab, _, hb⟩
  have hlook := htab.look jumpKeyed Tryz.underlying121 f hf (key := .int .u8 k) (by rw [H1.out]; exact Maps.keyOf_int_mk Tryz.underlying88 H3.out)
  rw [H2.out] at hlook
  clear htab
  go_wp2_with fail
  go_ret
  exact ⟨rfl, hb⟩
end Go.Proofs.YtobgjmgepckijaaGreatDoor
