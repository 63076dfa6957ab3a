/- impl's sink: bytes written onto a slice of the call's own. -/
import Derived.Test.YtobgjmgepckijaaGreatDoorBytes
import Derived.Deep.AppendLies
import Derived.Outline
namespace Go.Proofs.YtobgjmgepckijaaGreatDoor
open Go.RowKit
set_option linter.unusedVariables false
set_option linter.unusedSimpArgs false
theorem infoByte : (Tryz.prog.info? 5).map (fun i => (i.zero, i.size, i.bytes)) = some (some (.int .u8 0), 1, 1) := by kernel_rfl
def byteRow (bs : List Int) : List Value := bs.map fun b => .int .u8 b
theorem byteRow_len (bs : List Int) : (byteRow bs).length = bs.length := by simp [byteRow]
/-- the sink at a block: what it holds -/
def SinkAt (w : World) (sk : Nat) (v : Value) (bs : List Int) : Prop := w.ownsRow (sk + 1) 5 1 v bs.length (byteRow bs) ∧ w.heap[sk]? = some (.cells #[v] 57 (0, 0))
def eight (b0 b1 b2 b3 b4 b5 b6 b7 : Int) : List Int := [b0, b1, b2, b3, b4, b5, b6, b7]
def WritePost (w : World) (sk D : Nat) (v : Value) (bs cs : List Int) (e : Ending) (w' : World) : Prop :=
  e = .returned (.tuple #[.int .i64 8, .nilIface]) ∧ (∃ v, SinkAt w' sk v (bs ++ cs) ∧ v.ownBlock ≠ some D) ∧ (∀ k, k < w.heap.size → k ≠ sk → v.ownBlock ≠ some k → w'.heap[k]? = w.heap[k]?) ∧ Below sk w w'
set_option maxHeartbeats 4000000 in
set_option maxRecDepth 100000 in
theorem Write_any (sk D : Nat) (v : Value) (bs : List Int) (b0 b1 b2 b3 b4 b5 b6 b7 : Int) (w : World) (hs : SinkAt w sk v bs) (hD : Eight w D b0 b1 b2 b3 b4 b5 b6 b7) (hsk : sk < D) (hne : v.ownBlock ≠ some D) (hl : bs.length ≤ 10000) :
    Calls Tryz.prog 161 #[.pointer (some ⟨sk, 0, none⟩), .slice (some ⟨D, 0, none⟩) 8 8] w (WritePost w sk D v bs (eight b0 b1 b2 b3 b4 b5 b6 b7)) := by
  obtain ⟨i0, hi, hz0, hz1, hz2⟩ := info_parts infoByte
  obtain ⟨hown, hk⟩ := hs
  obtain ⟨A, cap, rfl, hnc, hcm⟩ := own_form hown
  have c0 : w.cell? ⟨sk, 0, none⟩ = some (.slice A bs.length cap) := cell_of_row _ _ 0 _ _ _ hk
  have f0 := frozen_of_row _ _ 0 _ _ hk
  have hlt := heap_lt hk
  have hltD := heap_lt hD
  have HK := Lib.hid hk
  have HD := Lib.hid hD
  clear hk hD
  have hfar : (Value.slice A bs.length cap).ownBlock ≠ some sk := fun e => by have := (hown.lt _ e).1; omega
  go_enter Tryz.func161, Tryz.ntmps161
  go_wp2_with (
    at_builtin
    go_loud (refine wpList_append_lies _ rfl _ _ 28 rfl (sk + 1) 5 i0 _ 1 1 Tryz.underlying28 hi hz0 hz1 hz2 rfl (by omega) _ bs.length _ rfl hown ⟨D, 0, none⟩ 8 8 (byteRow (eight b0 b1 b2 b3 b4 b5 b6 b7)) rfl rfl (World.news_of_block HD.out) (by simp [byteRow, eight, Value.oneCell']) (by omega) (by simp [maxLen]; omega) (by omega) (by omega) _ rfl ?_)
    go_loud (intro g2 gc w2 hown2 hgrow hat hlt2)
    go_loud (have hk2 : w2.heap[sk]? = some (.cells #[.slice A bs.length cap] 57 (0, 0)) := (hgrow.block sk hlt (Ne.symm hfar)).trans HK.out)
    go_loud (have d0 : w2.cell? ⟨sk, 0, none⟩ = some (.slice A bs.length cap) := cell_of_row _ _ 0 _ _ _ hk2)
    go_loud (have e0 := frozen_of_row _ _ 0 _ _ hk2))
  go_ret2
  have hg : w.grownBy w2 (Value.slice A bs.length cap).ownBlock := hgrow
  have hat' : (Value.slice A bs.length cap).ownBlock = some g2 ∨ g2 = w.heap.size := hat
  have hsz := hg.size
  have hgD : g2 ≠ D := by
    rintro rfl
    rcases hat' with h | h
    · exact hne h
    · omega
  have hgs : sk + 1 ≤ g2 := by
    rcases hat' with h | h
    · exact (hown.lt _ h).1
    · omega
  refine ⟨rfl, ⟨_, ⟨?_, heap_setCell_same w2 sk 0 _ _ _ hk2⟩, by simp [Value.ownBlock]; omega⟩, ?_, ?_⟩
  · have hq := hown2.kept (w' := w2.setCell ⟨sk, 0, none⟩ (.slice (some ⟨g2, 0, none⟩) (bs.length + 8) gc)) (grownBy_set (World.grownBy.refl w2 (some sk)) 0 _) (.inr (by simp [Value.ownBlock]; omega))
    simpa [byteRow, eight] using hq
  · intro k hk hks hkv
    rw [heap_setCell_other w2 ⟨sk, 0, none⟩ k _ (by simp; omega)]
    exact hg.block k hk (Ne.symm hkv)
  · have hb : Below sk w w2 := (Below.refl sk w).grown hg (by omega) (fun k hk => by have := (hown.lt k hk).1; omega)
    exact hb.setCell (p := ⟨sk, 0, none⟩) (Nat.le_refl _) _
end Go.Proofs.YtobgjmgepckijaaGreatDoor
