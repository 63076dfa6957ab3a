/- Instructions.Marshal and impl.Marshal, walked. -/
import Derived.Test.YtobgjmgepckijaaGreatDoorGoods
import Derived.Test.YtobgjmgepckijaaGreatDoorRefs
import Derived.Deep.LoopGhost
import Derived.BigQuiet
import Derived.Deep.Onto
import Derived.Deep.QuietTactic
import Derived.Outline
namespace Go.Proofs.YtobgjmgepckijaaGreatDoor
open Go.RowKit
set_option linter.unusedVariables false
set_option linter.unusedSimpArgs false
def encs (big : Bool) : List Itm → List Int
  | [] => []
  | x :: r => encB big x ++ encs big r
theorem encs_snoc (big : Bool) (xs : List Itm) (x : Itm) : encs big (xs ++ [x]) = encs big xs ++ encB big x := by
  induction xs with
  | nil => simp [encs]
  | cons y r ih => simp [encs, ih]
theorem encB_len (big : Bool) (x : Itm) : (encB big x).length ≤ 16 := by
  unfold encB
  cases big <;> split <;> simp [rawB, secB, eight]
theorem encs_len (big : Bool) (xs : List Itm) : (encs big xs).length ≤ 16 * xs.length := by
  induction xs with
  | nil => simp [encs]
  | cons y r ih =>
    have := encB_len big y
    simp only [encs, List.length_append, List.length_cons]; omega
def sinkV (sk : Nat) : Value := .iface 55 (.pointer (some ⟨sk, 0, none⟩))
theorem sink_below {w w' : World} {sk : Nat} {v : Value} {bs : List Int} (h : SinkAt w sk v bs) (hb : Below w.heap.size w w') : SinkAt w' sk v bs := ⟨own_below h.1 hb, (hb.block sk (heap_lt h.2)).trans h.2⟩
def InsMarPost (w : World) (sk : Nat) (big : Bool) (xs : List Itm) (e : Ending) (w' : World) : Prop := e = .returned .nilIface ∧ (∃ v, SinkAt w' sk v (encs big xs)) ∧ Below sk w w'
set_option maxHeartbeats 4000000 in
set_option maxRecDepth 100000 in
theorem InsMarshal_any (big : Bool) (A : Option Addr) (xs : List Itm) (cap sk : Nat) (v : Value) (w : World) (hok : ∀ x ∈ xs, x.ok) (hlen : xs.length ≤ 100) (hlc : xs.length ≤ cap) (hcap : cap ≤ maxLen) (h : Asm w sk A xs) (hs : SinkAt w sk v []) :
    Calls Tryz.prog 20 #[.slice A xs.length cap, sinkV sk, ordV big] w (InsMarPost w sk big xs) := by
  unfold sinkV
  have hsz := heap_lt hs.2
  have hl1 : (xs.length : Int) ≤ 100 := by omega
  go_enter Tryz.func20, Tryz.ntmps20
  go_wp2_with fail
  refine (Refs_any A xs cap w hok hlen hlc hcap (h.more (Nat.le_of_lt hsz))).mono ?_
  rintro e w1 ⟨rfl, hb1⟩
  have hs1 := sink_below hs hb1
  have hB1 : Below sk w w1 := hb1.mono (Nat.le_of_lt hsz)
  go_wp2_with fail
  go_loopg [19] (xs.length + 1) (fun m i wr => ∃ k : Nat, k ≤ xs.length ∧ m = xs.length + 1 - k ∧ i = .int .i64 k ∧ (∃ v, SinkAt wr sk v (encs big (xs.take k))) ∧ Below sk w wr)
  case atStart => exact ⟨0, by omega, by omega, rfl, ⟨v, hs1⟩, hB1⟩
  case round =>
    obtain ⟨k, hk, rfl, rfl, ⟨v2, hs2⟩, hbr⟩ := hrel
    by_cases hlt : k < xs.length
    · obtain ⟨x, hx⟩ : ∃ x, xs[k]? = some x := ⟨xs[k]'hlt, List.getElem?_eq_getElem hlt⟩
      obtain ⟨g, rfl, hg, hat⟩ := h k x hx
      obtain ⟨c0, c1, c2, c3, c4, c5⟩ := hat.below hbr hg
      have hg' : g < wr.heap.size := Nat.lt_trans hg (heap_lt hs2.2)
      have hlt' : (k : Int) < xs.length := by omega
      have hk0 : (0 : Int) ≤ (k : Int) := by omega
      have hle := encs_len big (xs.take k)
      have hlk := List.length_take_le k xs
      have HX := Lib.hid hx
      have HL := Lib.hid hle
      have HK := Lib.hid hlk
      clear hx hat hle hlk
      go_wp2_with fail
      refine (Mar_good big x (hok x (List.mem_of_getElem? HX.out)) sk v2 _ _ (sink_up hs2 _) (by have := HL.out; have := HK.out; omega)).mono ?_
      rintro e w3 ⟨n, rfl, ⟨v3, hs3⟩, hb3⟩
      rw [← encs_snoc, ← take_snoc' HX.out] at hs3
      go_wp2_with fail
      go_roundg (xs.length + 1 - (k + 1))
      case measure => omega
      case rel => exact ⟨k + 1, by omega, rfl, by go_num, ⟨v3, hs3⟩, (hbr.alloc (Nat.le_of_lt (heap_lt hs2.2)) _).trans hb3⟩
    · obtain rfl : k = xs.length := by omega
      rw [List.take_length] at hs2
      go_wp2_with fail
      go_ret
      exact ⟨rfl, ⟨v2, hs2⟩, hbr⟩
def ImplMarPost (w : World) (big : Bool) (xs : List Itm) (e : Ending) (w' : World) : Prop :=
  ∃ v, e = .returned (.tuple #[v, .bool true]) ∧ w'.ownsRow w.heap.size 5 1 v (encs big xs).length (byteRow (encs big xs)) ∧ Below w.heap.size w w'
set_option maxHeartbeats 4000000 in
set_option maxRecDepth 100000 in
theorem ImplMarshal_any (big : Bool) (A : Option Addr) (xs : List Itm) (cap : Nat) (w : World) (hok : ∀ x ∈ xs, x.ok) (hlen : xs.length ≤ 100) (hlc : xs.length ≤ cap) (hcap : cap ≤ maxLen) (h : Ins w w.heap.size A xs) :
    Calls Tryz.prog 7 #[.slice A xs.length cap, .bool big] w (ImplMarPost w big xs) := by
  go_enter Tryz.func7, Tryz.ntmps7
  go_wp2_with fail
  refine (all_any A xs cap w hok hlen hlc hcap h).mono ?_
  rintro e w1 ⟨v, rfl, hown, hb1⟩
  obtain ⟨A2, c2, rfl, hc2, hm2⟩ := own_form hown
  have ha := asm_of_own hown
  clear hown h hlc hcap
  have hz1 : w.heap.size ≤ w1.heap.size := hb1.size
  go_wp2_with (first
    | (go_at_call 21; refine (ZZOrder_any _ _).mono ?_; rintro e w' ⟨rfl, rfl⟩)
    | (go_at_call 20
       go_loud (refine (InsMarshal_any big A2 xs c2 w1.heap.size (.slice none 0 0) _ hok hlen hc2 hm2 (ha.below ((Below.refl _ _).alloc (Nat.le_refl _) _)) ⟨World.ownsRow_nil _ _ _ _, heap_at rfl⟩).mono ?_)
       rintro e w2 ⟨rfl, ⟨v2, hs2⟩, hb2⟩))
  obtain ⟨hown2, hk2⟩ := hs2
  obtain ⟨A3, c3, rfl, _, _⟩ := own_form hown2
  have c0 : w2.cell? ⟨w1.heap.size, 0, none⟩ = some (.slice A3 (encs big xs).length c3) := cell_of_row _ _ 0 _ _ _ hk2
  go_quiet (fail)
  go_wp2_with fail
  go_ret2
  exact ⟨_, rfl, own_drewN (World.ownsRow.mono hown2 (by omega)) _, below_drewN ((hb1.alloc hb1.size _).trans (hb2.mono hz1)) _⟩
end Go.Proofs.YtobgjmgepckijaaGreatDoor
