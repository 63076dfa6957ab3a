/- A map literal: a drawn region whose last pending operations are stores of constants into a map that the region made: in whatever order they come, the map holds them all at the end. Of whatever program. -/
import Derived.Maps.Own
import Derived.Maps.OwnSet
import Derived.Maps.Views
import Derived.Maps.StringElems
import Derived.RegionTactic
import Derived.Carry
import Derived.WalkKit
import Derived.Test.YtobgjmgepckijaaGreatDoorBelow
namespace Go.Proofs.YtobgjmgepckijaaGreatDoor
open Go.RowKit
set_option linter.unusedVariables false
set_option linter.unusedSimpArgs false
/-- what one pending store writes: the key, as a literal, and the string -/
structure Fil where
  i : Nat
  kl : Lit
  s : ByteArray
/-- the map in block b holds the strings of the stores that are no longer pending -/
def Filled (P : Program) (k e : TypeId) (w0 : World) (b : Nat) (T : List Fil) (U : List Nat) (w : World) : Prop :=
  ∃ n, ∃ D : DataW Unit, w.ownsMap P k (plainElem P e) b n D ∧ n + U.length ≤ 1000 ∧ (∀ f ∈ T, f.i ∉ U → ∀ zd, D.atKey f.kl zd = .lit (.string f.s.data.toList)) ∧ w0.grownBy w (some b)
/-- an operation that stores the key and the string of f, waiting for none of the pending ones -/
def Stores (P : Program) (ops : Array Oper) (t k : TypeId) (a : Act) (b : Nat) (I tail : List Nat) (f : Fil) : Prop :=
  ∃ o m x v key, ops[f.i]? = some o ∧ o.guard = none ∧ o.dst = none ∧ o.op = .insert t m x v ∧ a.eval m = .map (some b) ∧ a.eval x = key ∧ a.eval v = .string f.s ∧ keyOf P k key = some f.kl ∧ WideAt.IsKeyLit f.kl ∧ f.s.size ≤ maxLen ∧
    (o.after.all fun e => !Region.binds .any e || (decide (e.on < ops.size) && decide (e.on ∉ I) && decide (e.on ∉ tail))) = true
theorem inj_of_nodup {α β : Type} {f : α → β} : ∀ {l : List α}, (l.map f).Nodup → ∀ x ∈ l, ∀ y ∈ l, f x = f y → x = y
  | [], _, x, hx, _, _, _ => by cases hx
  | z :: r, h, x, hx, y, hy, e => by
    rw [List.map_cons, List.nodup_cons] at h
    rcases List.mem_cons.1 hx with h1 | h1 <;> rcases List.mem_cons.1 hy with h2 | h2
    · rw [h1, h2]
    · exact absurd (by rw [← h1, e]; exact List.mem_map_of_mem h2) h.1
    · exact absurd (by rw [← h2, ← e]; exact List.mem_map_of_mem h1) h.1
    · exact inj_of_nodup h.2 x h1 y h2 e
theorem grownBy_trans' {a w w' : World} {r : Option Nat} (h : a.grownBy w r) (k : w.grownBy w' r) : a.grownBy w' r :=
  ⟨k.os.trans h.os, k.tape.trans h.tape, k.output.trans h.output, Nat.le_trans h.size k.size, fun i hi hne => (k.block i (Nat.lt_of_lt_of_le hi h.size) hne).trans (h.block i hi hne)⟩
theorem nodup_erase_mem {U : List Nat} (h : U.Nodup) {i j : Nat} : j ∈ U.erase i ↔ j ≠ i ∧ j ∈ U := h.mem_erase_iff
theorem wpAny_fill {P : Program} {ops : Array Oper} {Q : Exit → Act → World → Prop} {a : Act} {w0 : World} {b : Nat} {t k e : TypeId} (K : Maps.Keyed P k) (ht : P.underlying t = some (.map k e)) (he : P.underlying e = some .string)
    (T : List Fil) (tail : List Nat) (fuel1 N : Nat) (hN : ops.size = N)
    (hT : ∀ f ∈ T, Stores P ops t k a b (T.map (·.i)) tail f) (hnd : (T.map (·.i)).Nodup) (hkl : (T.map (·.kl)).Nodup)
    (htail : ∀ j ∈ tail, ∀ i ∈ T.map (·.i), ∃ o, ops[j]? = some o ∧ o.after.any (fun x => Region.binds .any x && x.on == i) = true)
    (L1 : Array Bool) (hL1 : L1.size = N) (hL2 : ∀ j, j < N → (L1.getD j true = false ↔ j ∈ tail))
    (hfin : ∀ w, Filled P k e w0 b T [] w → wpAny P .any ops Q fuel1 L1 a w) :
    ∀ (m : Nat) (U : List Nat) (listed : Array Bool) (w : World), U.length = m → U.Nodup → (∀ i ∈ U, i ∈ T.map (·.i)) → listed.size = N → (∀ j, j < N → (listed.getD j true = false ↔ j ∈ U ∨ j ∈ tail)) →
      Filled P k e w0 b T U w → wpAny P .any ops Q (m + fuel1) listed a w := by
  subst hN
  intro m
  induction m with
  | zero =>
    intro U listed w hU _ _ hs hl hF
    obtain rfl : U = [] := List.eq_nil_of_length_eq_zero hU
    have : listed = L1 := by
      apply Array.ext (by rw [hs, hL1])
      intro j h1 h2
      have a1 := hl j (by omega)
      have a2 := hL2 j (by omega)
      simp only [List.not_mem_nil, false_or] at a1
      have e1 : listed.getD j true = listed[j] := by simp [h1]
      have e2 : L1.getD j true = L1[j] := by simp [h2]
      rw [e1] at a1
      rw [e2] at a2
      cases hx : listed[j] <;> cases hy : L1[j] <;> simp_all
    subst this
    rw [Nat.zero_add]
    exact hfin w hF
  | succ m ih =>
    intro U listed w hU hUn hUT hs hl hF
    obtain ⟨i0, hi0⟩ : ∃ i, i ∈ U := by
      cases U with
      | nil => simp at hU
      | cons x r => exact ⟨x, List.mem_cons_self⟩
    have lt_of : ∀ f ∈ T, f.i < ops.size := fun f hf => by
      obtain ⟨o, _, _, _, _, ho, _⟩ := hT f hf
      exact (Array.getElem?_eq_some_iff.1 ho).1
    have rdy : ∀ i ∈ U, i ∈ Region.ready .any ops listed := fun i hi => by
      obtain ⟨f, hf, rfl⟩ := List.mem_map.1 (hUT i hi)
      obtain ⟨o, mm, x, v, key, ho, _, _, _, _, _, _, _, _, _, hall⟩ := hT f hf
      rw [mem_ready]
      refine ⟨(hl f.i (lt_of f hf)).2 (.inl hi), o, ho, fun y hy hb => ?_⟩
      have := Array.all_eq_true_iff_forall_mem.1 hall y hy
      simp only [hb, Bool.not_true, Bool.false_or, Bool.and_eq_true, decide_eq_true_eq] at this
      obtain ⟨⟨h1, h2⟩, h3⟩ := this
      have hn : ¬ listed.getD y.on true = false := fun hc => by
        rcases (hl y.on h1).1 hc with h | h
        · exact h2 (hUT _ h)
        · exact h3 h
      have hsz : y.on < listed.size := by omega
      simp [hsz] at hn ⊢
      exact hn
    rw [show m + 1 + fuel1 = (m + fuel1) + 1 by omega]
    refine ⟨fun h0 => ?_, fun j hj => ?_⟩
    · have := rdy i0 hi0
      rw [h0] at this
      cases this
    · have hj' := mem_ready.1 hj
      obtain ⟨hun, oj, hoj, hall⟩ := hj'
      have hjlt : j < ops.size := (Array.getElem?_eq_some_iff.1 hoj).1
      rcases (hl j hjlt).1 hun with hjU | hjt
      · obtain ⟨f, hf, rfl⟩ := List.mem_map.1 (hUT j hjU)
        obtain ⟨o, mm, x, v, key, ho, hg, hd, hop, e1, e2, e3, hkey, hlit, hsz, _⟩ := hT f hf
        obtain ⟨n, D, hown, hn, hat, hgr⟩ := hF
        have hlen : (U.erase f.i).length = m := by rw [List.length_erase_of_mem hjU]; omega
        obtain ⟨w', hrun, hown', hgr'⟩ := hown.update K ht (Nat.lt_of_le_of_lt (show n ≤ 1000 by omega) (by simp [maxLen])) (val := .string f.s) hkey (plainElem_string he hsz)
        refine wpOp_step ho fun K' hK => ?_
        rw [if_pos (by simp [Region.wanted, hg])]
        unfold Oper.wp
        have hput : a.put o.dst undef = a := by rw [hd]; rfl
        simp [execOp, hop, e1, e2, e3, hrun, Result.andThen]
        simp only [Oper.upon]
        refine hK _ _ ?_
        rw [hput]
        refine (ih (U.erase f.i) (listed.setIfInBounds f.i true) w' hlen (hUn.erase _) (fun i hi => hUT i (List.mem_of_mem_erase hi)) (by simpa using hs) (fun j hj => ?_) ⟨n + 1, _, hown', by omega, ?_, grownBy_trans' hgr hgr'⟩)
        · rw [nodup_erase_mem hUn]
          by_cases hji : f.i = j
          · subst hji
            have hjs : f.i < listed.size := by omega
            have ht' : f.i ∉ tail := fun hc => by
              obtain ⟨o', ho', hany⟩ := htail _ hc f.i (List.mem_map_of_mem hf)
              obtain ⟨y, hy, hyb⟩ := Array.any_eq_true'.1 hany
              obtain rfl : o' = o := Option.some.inj (ho'.symm.trans ho)
              have hoo : o' = oj := Option.some.inj (ho'.symm.trans hoj)
              subst hoo
              simp only [Bool.and_eq_true, beq_iff_eq] at hyb
              have h1 := hall y hy hyb.1
              rw [hyb.2] at h1
              simp [hjs] at h1 hun
              rw [hun] at h1
              cases h1
            simp [hjs, ht']
          · rw [getD_set_ne true hji, hl j hj]
            constructor
            · rintro (h | h)
              · exact .inl ⟨fun e => hji e.symm, h⟩
              · exact .inr h
            · rintro (h | h)
              · exact .inl h.2
              · exact .inr h
        · intro g hg' hgU zd
          rw [nodup_erase_mem hUn] at hgU
          by_cases hgf : g.i = f.i
          · have : g = f := by
              exact inj_of_nodup hnd g hg' f hf hgf
            subst this
            exact Maps.atKey_put_same hown.isMap hlit _ _
          · have hk : g.kl ≠ f.kl := fun ek => hgf (congrArg Fil.i (inj_of_nodup hkl g hg' f hf ek))
            rw [Maps.atKey_put_other hk]
            exact hat g hg' (fun hc => hgU ⟨hgf, hc⟩) zd
      · exfalso
        obtain ⟨o', ho', hany⟩ := htail j hjt i0 (hUT i0 hi0)
        obtain rfl : o' = oj := Option.some.inj (ho'.symm.trans hoj)
        obtain ⟨y, hy, hyb⟩ := Array.any_eq_true'.1 hany
        simp only [Bool.and_eq_true, beq_iff_eq] at hyb
        have h1 := hall y hy hyb.1
        rw [hyb.2] at h1
        have h2 := (mem_ready.1 (rdy i0 hi0)).1
        obtain ⟨f, hf, hfi⟩ := List.mem_map.1 (hUT i0 hi0)
        have hz : i0 < listed.size := by rw [hs, ← hfi]; exact lt_of f hf
        simp [hz] at h1 h2
        rw [h2] at h1
        cases h1
/-- the making of an empty map, as a step of such a region -/
theorem wpOp_makeMap {P : Program} {ops : Array Oper} {Q : Exit → Act → World → Prop} {i : Nat} {o : Oper} {t : TypeId} {K : Act → World → Prop} {a : Act} {w : World} (ho : ops[i]? = some o) (hg : o.guard = none) (hop : o.op = .makeMap t none)
    (h : K (a.put o.dst (.map (some w.heap.size))) (w.alloc (.map #[] 0))) : wpOp P ops Q i K a w := by
  refine wpOp_step ho fun K' hK => ?_
  rw [if_pos (by simp [Region.wanted, hg])]
  unfold Oper.wp
  simp [execOp, hop, run_makeMap, Result.andThen]
  simp only [Oper.upon]
  exact hK _ _ h
theorem wp_makeMap {P : Program} {Q : Exit → Act → World → Prop} {o : Oper} {t : TypeId} {K : Act → World → Prop} {a : Act} {w : World} (hop : o.op = .makeMap t none)
    (h : K (a.put o.dst (.map (some w.heap.size))) (w.alloc (.map #[] 0))) : Oper.wp P o a w K Q := by
  unfold Oper.wp
  simp [execOp, hop, run_makeMap, Result.andThen]
  simp only [Oper.upon]
  exact h
theorem filled_start {P : Program} {k e : TypeId} {T : List Fil} {U : List Nat} {W : World} (hU : U.length ≤ 1000) (h : ∀ f ∈ T, f.i ∈ U) : Filled P k e W W.heap.size T U (W.alloc (.map #[] 0)) :=
  ⟨0, .map [], World.ownsMap_made W P k _, by omega, fun f hf hn => absurd (h f hf) hn, World.grownBy_alloc W _ _⟩
end Go.Proofs.YtobgjmgepckijaaGreatDoor
