/- Lists of instructions, plain and in memory. -/
import Derived.Test.YtobgjmgepckijaaGreatDoorPlain
import Derived.Test.YtobgjmgepckijaaGreatDoorBelow
import Derived.Deep.AppendLies
namespace Go.Proofs.YtobgjmgepckijaaGreatDoor
open Go.RowKit
set_option linter.unusedVariables false
set_option linter.unusedSimpArgs false

structure Itm where
  op : Int
  dst : Int
  src : Int
  off : Int
  c : Int
def Itm.ok (x : Itm) : Prop := Good x.op x.dst x.src x.off x.c
def insRow (x : Itm) : List Value := [.int .i64 x.op, .int .i64 x.dst, .int .i64 x.src, .int .i64 x.off, .int .i64 x.c, .string ⟨#[]⟩, .string ⟨#[]⟩]
def asmRow (x : Itm) : List Value := [.int .u32 x.op, .int .u8 x.dst, .int .u8 x.src, .int .i16 x.off, .int .i64 x.c, .pointer none]
/-- rows one behind the other -/
def rows (f : Itm → List Value) : List Itm → List Value
  | [] => []
  | x :: r => f x ++ rows f r
theorem rows_snoc (f : Itm → List Value) (xs : List Itm) (x : Itm) : rows f (xs ++ [x]) = rows f xs ++ f x := by
  induction xs with
  | nil => simp [rows]
  | cons y r ih => simp [rows, ih]
theorem rows_len {f : Itm → List Value} {n : Nat} (hf : ∀ x, (f x).length = n) (xs : List Itm) : (rows f xs).length = xs.length * n := by
  induction xs with
  | nil => simp [rows]
  | cons y r ih => simp [rows, ih, hf, Nat.add_mul, Nat.add_comm]
theorem rows_at {f : Itm → List Value} {n : Nat} (hf : ∀ x, (f x).length = n) : ∀ (xs : List Itm) (k j : Nat) (x : Itm), xs[k]? = some x → j < n → (rows f xs)[k * n + j]? = (f x)[j]?
  | [], k, j, x, h, _ => by simp at h
  | y :: r, 0, j, x, h, hj => by
    simp at h
    subst h
    simp only [rows, Nat.zero_mul, Nat.zero_add]
    rw [List.getElem?_append_left (by rw [hf]; exact hj)]
  | y :: r, k + 1, j, x, h, hj => by
    simp only [rows]
    rw [List.getElem?_append_right (by rw [hf, Nat.add_mul]; omega), hf, show (k + 1) * n + j - n = k * n + j by rw [Nat.add_mul]; omega]
    exact rows_at hf r k j x (by simpa using h) hj
theorem insRow_len (x : Itm) : (insRow x).length = 7 := rfl
theorem asmRow_len (x : Itm) : (asmRow x).length = 6 := rfl
theorem insRow_one (x : Itm) : ∀ u ∈ insRow x, u.oneCell' = true := by simp [insRow, Value.oneCell']
theorem asmRow_one (x : Itm) : ∀ u ∈ asmRow x, u.oneCell' = true := by simp [asmRow, Value.oneCell']

/-- a row of seven at a place -/
def At7 (w : World) (g o : Nat) (x : Itm) : Prop :=
  w.cell? ⟨g, o, none⟩ = some (.int .i64 x.op) ∧ w.cell? ⟨g, o + 1, none⟩ = some (.int .i64 x.dst) ∧ w.cell? ⟨g, o + 2, none⟩ = some (.int .i64 x.src) ∧ w.cell? ⟨g, o + 3, none⟩ = some (.int .i64 x.off) ∧
    w.cell? ⟨g, o + 4, none⟩ = some (.int .i64 x.c) ∧ w.cell? ⟨g, o + 5, none⟩ = some (.string ⟨#[]⟩) ∧ w.cell? ⟨g, o + 6, none⟩ = some (.string ⟨#[]⟩)
def At6 (w : World) (g o : Nat) (x : Itm) : Prop :=
  w.cell? ⟨g, o, none⟩ = some (.int .u32 x.op) ∧ w.cell? ⟨g, o + 1, none⟩ = some (.int .u8 x.dst) ∧ w.cell? ⟨g, o + 2, none⟩ = some (.int .u8 x.src) ∧ w.cell? ⟨g, o + 3, none⟩ = some (.int .i16 x.off) ∧
    w.cell? ⟨g, o + 4, none⟩ = some (.int .i64 x.c) ∧ w.cell? ⟨g, o + 5, none⟩ = some (.pointer none)
theorem At7.below {B : Nat} {w w' : World} {g o : Nat} {x : Itm} (h : At7 w g o x) (hb : Below B w w') (hg : g < B) : At7 w' g o x :=
  ⟨(hb.cell (p := ⟨g, o, none⟩) hg).trans h.1, (hb.cell (p := ⟨g, o + 1, none⟩) hg).trans h.2.1, (hb.cell (p := ⟨g, o + 2, none⟩) hg).trans h.2.2.1, (hb.cell (p := ⟨g, o + 3, none⟩) hg).trans h.2.2.2.1,
    (hb.cell (p := ⟨g, o + 4, none⟩) hg).trans h.2.2.2.2.1, (hb.cell (p := ⟨g, o + 5, none⟩) hg).trans h.2.2.2.2.2.1, (hb.cell (p := ⟨g, o + 6, none⟩) hg).trans h.2.2.2.2.2.2⟩
theorem At6.below {B : Nat} {w w' : World} {g o : Nat} {x : Itm} (h : At6 w g o x) (hb : Below B w w') (hg : g < B) : At6 w' g o x :=
  ⟨(hb.cell (p := ⟨g, o, none⟩) hg).trans h.1, (hb.cell (p := ⟨g, o + 1, none⟩) hg).trans h.2.1, (hb.cell (p := ⟨g, o + 2, none⟩) hg).trans h.2.2.1, (hb.cell (p := ⟨g, o + 3, none⟩) hg).trans h.2.2.2.1,
    (hb.cell (p := ⟨g, o + 4, none⟩) hg).trans h.2.2.2.2.1, (hb.cell (p := ⟨g, o + 5, none⟩) hg).trans h.2.2.2.2.2⟩

/-- an instruction in a block of its own -/
def Blk7 (w : World) (b : Nat) (x : Itm) : Prop :=
  w.cell? ⟨b, 0, none⟩ = some (.int .i64 x.op) ∧ w.cell? ⟨b, 1, none⟩ = some (.int .i64 x.dst) ∧ w.cell? ⟨b, 2, none⟩ = some (.int .i64 x.src) ∧ w.cell? ⟨b, 3, none⟩ = some (.int .i64 x.off) ∧
    w.cell? ⟨b, 4, none⟩ = some (.int .i64 x.c) ∧ w.cell? ⟨b, 5, none⟩ = some (.string ⟨#[]⟩) ∧ w.cell? ⟨b, 6, none⟩ = some (.string ⟨#[]⟩)
theorem blk7_of {w : World} {b : Nat} {x : Itm} {t : TypeId} (h : w.heap[b]? = some (.cells #[.int .i64 x.op, .int .i64 x.dst, .int .i64 x.src, .int .i64 x.off, .int .i64 x.c, .string ⟨#[]⟩, .string ⟨#[]⟩] t (0, 0))) : Blk7 w b x :=
  ⟨cell_of_row _ _ 0 _ _ _ h, cell_of_row _ _ 1 _ _ _ h, cell_of_row _ _ 2 _ _ _ h, cell_of_row _ _ 3 _ _ _ h, cell_of_row _ _ 4 _ _ _ h, cell_of_row _ _ 5 _ _ _ h, cell_of_row _ _ 6 _ _ _ h⟩
/-- a block made since is none that an owned row lies in -/
theorem grown_new {w w' : World} {B : Nat} {v : Value} {o : Obj} (hg : ∀ k, v.ownBlock = some k → k < B) (hgrow : w.grownBy w' v.ownBlock) (h : w.heap[B]? = some o) : w'.heap[B]? = some o :=
  (hgrow.block B (heap_lt h) (fun e => absurd (hg _ e.symm) (Nat.lt_irrefl _))).trans h
/-- a slice of instructions that reads as a list: below block B -/
def Ins (w : World) (B : Nat) (A : Option Addr) (xs : List Itm) : Prop := ∀ k x, xs[k]? = some x → ∃ g, A = some ⟨g, 0, none⟩ ∧ g < B ∧ At7 w g (k * 7) x
def Asm (w : World) (B : Nat) (A : Option Addr) (xs : List Itm) : Prop := ∀ k x, xs[k]? = some x → ∃ g, A = some ⟨g, 0, none⟩ ∧ g < B ∧ At6 w g (k * 6) x
theorem Ins.below {w w' : World} {B : Nat} {A : Option Addr} {xs : List Itm} (h : Ins w B A xs) (hb : Below B w w') : Ins w' B A xs := fun k x hx => by
  obtain ⟨g, e, hg, ha⟩ := h k x hx
  exact ⟨g, e, hg, ha.below hb hg⟩
theorem Asm.below {w w' : World} {B : Nat} {A : Option Addr} {xs : List Itm} (h : Asm w B A xs) (hb : Below B w w') : Asm w' B A xs := fun k x hx => by
  obtain ⟨g, e, hg, ha⟩ := h k x hx
  exact ⟨g, e, hg, ha.below hb hg⟩
theorem Ins.more {w : World} {B B' : Nat} {A : Option Addr} {xs : List Itm} (h : Ins w B A xs) (hB : B ≤ B') : Ins w B' A xs := fun k x hx => by
  obtain ⟨g, e, hg, ha⟩ := h k x hx
  exact ⟨g, e, by omega, ha⟩
theorem Asm.more {w : World} {B B' : Nat} {A : Option Addr} {xs : List Itm} (h : Asm w B A xs) (hB : B ≤ B') : Asm w B' A xs := fun k x hx => by
  obtain ⟨g, e, hg, ha⟩ := h k x hx
  exact ⟨g, e, by omega, ha⟩
/-- what a slice looks like that owns a row -/
theorem own_form {w : World} {base size n : Nat} {e : TypeId} {v : Value} {xs : List Value} (h : w.ownsRow base e size v n xs) : ∃ A cap, v = .slice A n cap ∧ n ≤ cap ∧ cap ≤ maxLen := by
  rcases h.2 with ⟨rfl, rfl⟩ | ⟨g, cap, cur, hv, hb, hg, hn, hc, _⟩
  · exact ⟨none, 0, rfl, Nat.le_refl _, by simp [maxLen]⟩
  · exact ⟨_, cap, hv, hn, hc⟩
theorem ins_of_own {w : World} {base n cap : Nat} {e : TypeId} {A : Option Addr} {xs : List Itm} (h : w.ownsRow base e 7 (.slice A n cap) n (rows insRow xs)) : Ins w w.heap.size A xs := fun k x hx => by
  have hl : xs.length = n := by
    have := h.1
    rw [rows_len insRow_len] at this
    omega
  have hk : k < xs.length := (List.getElem?_eq_some_iff.1 hx).1
  obtain ⟨g, cap', hv, _, hlt⟩ := h.form (by omega)
  obtain ⟨rfl, rfl⟩ : A = some ⟨g, 0, none⟩ ∧ cap = cap' := by simpa using hv
  have at_ : ∀ j u, j < 7 → (insRow x)[j]? = some u → w.cell? ⟨g, k * 7 + j, none⟩ = some u := fun j u hj hu => by
    rw [h.cellAt (k * 7 + j) (by omega), rows_at insRow_len xs k j x hx hj, hu]
  exact ⟨g, rfl, hlt, at_ 0 _ (by omega) rfl, at_ 1 _ (by omega) rfl, at_ 2 _ (by omega) rfl, at_ 3 _ (by omega) rfl, at_ 4 _ (by omega) rfl, at_ 5 _ (by omega) rfl, at_ 6 _ (by omega) rfl⟩
theorem asm_of_own {w : World} {base n cap : Nat} {e : TypeId} {A : Option Addr} {xs : List Itm} (h : w.ownsRow base e 6 (.slice A n cap) n (rows asmRow xs)) : Asm w w.heap.size A xs := fun k x hx => by
  have hl : xs.length = n := by
    have := h.1
    rw [rows_len asmRow_len] at this
    omega
  have hk : k < xs.length := (List.getElem?_eq_some_iff.1 hx).1
  obtain ⟨g, cap', hv, _, hlt⟩ := h.form (by omega)
  obtain ⟨rfl, rfl⟩ : A = some ⟨g, 0, none⟩ ∧ cap = cap' := by simpa using hv
  have at_ : ∀ j u, j < 6 → (asmRow x)[j]? = some u → w.cell? ⟨g, k * 6 + j, none⟩ = some u := fun j u hj hu => by
    rw [h.cellAt (k * 6 + j) (by omega), rows_at asmRow_len xs k j x hx hj, hu]
  exact ⟨g, rfl, hlt, at_ 0 _ (by omega) rfl, at_ 1 _ (by omega) rfl, at_ 2 _ (by omega) rfl, at_ 3 _ (by omega) rfl, at_ 4 _ (by omega) rfl, at_ 5 _ (by omega) rfl⟩

theorem grownBy_below {a w : World} (h : Below a.heap.size a w) (row : Option Nat) : a.grownBy w row := ⟨h.os, h.tape, h.output, h.size, fun i hi _ => h.block i hi⟩
theorem own_below {w w' : World} {base size n : Nat} {e : TypeId} {v : Value} {xs : List Value} (h : w.ownsRow base e size v n xs) (hb : Below w.heap.size w w') : w'.ownsRow base e size v n xs :=
  h.kept (grownBy_below hb none) (by cases hv : v.ownBlock <;> simp)
theorem own_drewN {w : World} {base size n : Nat} {e : TypeId} {v : Value} {xs : List Value} (h : w.ownsRow base e size v n xs) (k : Nat) : (w.drewN k).ownsRow base e size v n xs := h
/-- an append onto a row of the call's own leaves all below as it was -/
theorem below_append {B : Nat} {a w w' : World} {base size n : Nat} {e : TypeId} {v : Value} {xs : List Value} (h : Below B a w) (hown : w.ownsRow base e size v n xs) (hbase : B ≤ base) (hB : B ≤ w.heap.size) (hg : w.grownBy w' v.ownBlock) : Below B a w' :=
  h.grown hg hB (fun k hk => Nat.le_trans hbase (hown.lt k hk).1)

theorem all_snoc {xs : List Itm} {y : Itm} (h : ∀ x ∈ xs, x.ok) (hy : y.ok) : ∀ x ∈ xs ++ [y], x.ok := fun x hx => by
  rcases List.mem_append.1 hx with hx | hx
  · exact h x hx
  · simp at hx; subst hx; exact hy
theorem grownBy_set {w w' : World} {b : Nat} (h : w.grownBy w' (some b)) (i : Nat) (v : Value) : w.grownBy (w'.setCell ⟨b, i, none⟩ v) (some b) :=
  ⟨h.os, h.tape, h.output, by simpa [World.setCell] using h.size, fun k hk hne => (heap_setCell_other w' ⟨b, i, none⟩ k v (fun e => hne (by rw [e]))).trans (h.block k hk hne)⟩
theorem grownBy_drew {w w' : World} {r : Option Nat} (h : w.grownBy w' r) : w.grownBy w'.drew r := ⟨h.os, h.tape, h.output, h.size, h.block⟩
theorem grownBy_trans {a w w' : World} {r : Option Nat} (h : a.grownBy w r) (k : w.grownBy w' r) : a.grownBy w' r :=
  ⟨k.os.trans h.os, k.tape.trans h.tape, k.output.trans h.output, Nat.le_trans h.size k.size, fun i hi hne => (k.block i (Nat.lt_of_lt_of_le hi h.size) hne).trans (h.block i hi hne)⟩
/-- a list below a block stays where that block alone turns -/
theorem asm_kept {w w' : World} {b : Nat} {A : Option Addr} {xs : List Itm} (h : Asm w b A xs) (hg : w.grownBy w' (some b)) : Asm w' b A xs := fun k x hx => by
  obtain ⟨g, e, hlt, ha⟩ := h k x hx
  have hb := block_lt_of_cell ha.1
  have far : ∀ o, w'.cell? ⟨g, o, none⟩ = w.cell? ⟨g, o, none⟩ := fun o => hg.cell_far ⟨g, o, none⟩ hb (by simp; omega)
  exact ⟨g, e, hlt, (far _).trans ha.1, (far _).trans ha.2.1, (far _).trans ha.2.2.1, (far _).trans ha.2.2.2.1, (far _).trans ha.2.2.2.2.1, (far _).trans ha.2.2.2.2.2⟩
theorem asm_grown {w w' : World} {b : Nat} {r : Option Nat} {A : Option Addr} {xs : List Itm} (h : Asm w b A xs) (hg : w.grownBy w' r) (hr : ∀ k, r = some k → b ≤ k) : Asm w' b A xs := fun k x hx => by
  obtain ⟨g, e, hlt, ha⟩ := h k x hx
  have hb := block_lt_of_cell ha.1
  have far : ∀ o, w'.cell? ⟨g, o, none⟩ = w.cell? ⟨g, o, none⟩ := fun o => hg.cell_far ⟨g, o, none⟩ hb (fun e => by have := hr g e.symm; omega)
  exact ⟨g, e, hlt, (far _).trans ha.1, (far _).trans ha.2.1, (far _).trans ha.2.2.1, (far _).trans ha.2.2.2.1, (far _).trans ha.2.2.2.2.1, (far _).trans ha.2.2.2.2.2⟩
/-- where instructions begin -/
def places (x : Itm) : Int := if x.op = 24 then 2 else 1
def start : List Itm → Int
  | [] => 0
  | x :: r => places x + start r
theorem start_snoc (xs : List Itm) (x : Itm) : start (xs ++ [x]) = start xs + places x := by
  induction xs with
  | nil => simp [start]
  | cons y r ih => simp [start, ih]; omega
theorem start_range (xs : List Itm) : 0 ≤ start xs ∧ start xs ≤ 2 * xs.length := by
  induction xs with
  | nil => simp [start]
  | cons y r ih =>
    simp only [start, List.length_cons, places]
    split <;> omega
theorem take_snoc' {xs : List Itm} {k : Nat} {x : Itm} (h : xs[k]? = some x) : xs.take (k + 1) = xs.take k ++ [x] := by
  rw [List.take_add_one, h]; rfl
theorem wrap_start {xs : List Itm} {k : Nat} {x : Itm} (h : xs[k]? = some x) (hk : k ≤ 100) : wrap64 (start (xs.take k) + places x) = start (xs.take (k + 1)) := by
  rw [take_snoc' h, start_snoc]
  have h1 := start_range (xs.take k)
  have h2 : (xs.take k).length ≤ k := List.length_take_le _ _
  have h3 : places x = 1 ∨ places x = 2 := by unfold places; split <;> simp
  unfold wrap64
  omega
/-- the first k places, as a row of numbers -/
def startRow (xs : List Itm) (k : Nat) : List Value := (List.range k).map fun j => .int .i64 (start (xs.take j))
theorem startRow_succ (xs : List Itm) (k : Nat) : startRow xs (k + 1) = startRow xs k ++ [.int .i64 (start (xs.take k))] := by
  simp [startRow, List.range_succ]
theorem startRow_at {xs : List Itm} {n k : Nat} (h : k < n) : (startRow xs n)[k]? = some (.int .i64 (start (xs.take k))) := by
  simp [startRow, h]
/-- the first k pairs -/
def pairRow (xs : List Itm) : Nat → List Value
  | 0 => []
  | k + 1 => pairRow xs k ++ [.int .i64 k, .int .i64 (start (xs.take k))]
theorem pairRow_len (xs : List Itm) (k : Nat) : (pairRow xs k).length = k * 2 := by
  induction k with
  | zero => rfl
  | succ k ih => simp [pairRow, ih]; omega
theorem pairRow_at (xs : List Itm) : ∀ n k, k < n → (pairRow xs n)[k * 2]? = some (.int .i64 k) ∧ (pairRow xs n)[k * 2 + 1]? = some (.int .i64 (start (xs.take k)))
  | 0, k, h => by omega
  | n + 1, k, h => by
    by_cases e : k = n
    · subst e
      simp [pairRow, List.getElem?_append_right, pairRow_len, show k * 2 + 1 - k * 2 = 1 by omega]
    · have ih := pairRow_at xs n k (by omega)
      simp only [pairRow]
      rw [List.getElem?_append_left (by rw [pairRow_len]; omega), List.getElem?_append_left (by rw [pairRow_len]; omega)]
      exact ih
end Go.Proofs.YtobgjmgepckijaaGreatDoor
