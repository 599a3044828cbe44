import Derived.Test.Qxb6630316aSizes
namespace Go.Proofs.Qxb6630316a
open Go.RowKit Go.Lib

theorem Try.info28 : (Try.prog.info? 28).map (fun i => (i.zero, i.size, i.bytes)) = some (some (.pointer none), 1, 8) := by kernel_rfl
theorem Try.info33 : (Try.prog.info? 33).map (fun i => (i.zero, i.size, i.bytes)) = some (some (.agg #[.string ByteArray.empty, .int .i64 0, .pointer none, .bool false]), 4, 40) := by kernel_rfl
theorem info28_parts : ∃ i, Try.prog.info? 28 = some i ∧ i.zero = some (.pointer none) ∧ i.size = 1 ∧ i.bytes = 8 := info_parts Try.info28
theorem info33_parts : ∃ i, Try.prog.info? 33 = some i ∧ i.zero = some (.agg #[.string ByteArray.empty, .int .i64 0, .pointer none, .bool false]) ∧ i.size = 4 ∧ i.bytes = 40 := info_parts Try.info33

/-- A row of pointers in the block 'g': the first 'k' are there. -/
def Ptrs (w : World) (g n : Nat) (V : Nat → Option Addr) (k : Nat) : Prop :=
  ∃ cv : Array Value, w.heap[g]? = some (.cells cv 28 (0, 0)) ∧ cv.size = n ∧ ∀ j, j < k → cv[j]? = some (.pointer (V j))
/-- A row of members in the block 'g': the first 'k' are there. -/
def Mems (w : World) (g n : Nat) (K : Nat → ByteArray) (O : Nat → Int) (V : Nat → Option Addr) (U : Nat → Bool) (k : Nat) : Prop :=
  ∃ cm : Array Value, w.heap[g]? = some (.cells cm 33 (0, 0)) ∧ cm.size = n * 4 ∧ ∀ j, j < k → cm[j * 4]? = some (.string (K j)) ∧ cm[j * 4 + 1]? = some (.int .i64 (O j)) ∧ cm[j * 4 + 2]? = some (.pointer (V j)) ∧ cm[j * 4 + 3]? = some (.bool (U j))

/-- 'F' with the value 'x' at 'k'. -/
def at' {α : Type} (F : Nat → α) (k : Nat) (x : α) : Nat → α := fun j => if j = k then x else F j
theorem at_self {α : Type} (F : Nat → α) (k : Nat) (x : α) : at' F k x k = x := if_pos rfl
theorem at_other {α : Type} (F : Nat → α) (k : Nat) (x : α) (j : Nat) (h : j ≠ k) : at' F k x j = F j := if_neg h

section
variable {w w' : World} {g n : Nat} {K : Nat → ByteArray} {O : Nat → Int} {V : Nat → Option Addr} {U : Nat → Bool} {k : Nat}

theorem Ptrs.of_block (h : Ptrs w g n V k) (hb : w'.heap[g]? = w.heap[g]?) : Ptrs w' g n V k := by
  obtain ⟨cv, h1, h2⟩ := h
  exact ⟨cv, hb.trans h1, h2⟩
theorem Mems.of_block (h : Mems w g n K O V U k) (hb : w'.heap[g]? = w.heap[g]?) : Mems w' g n K O V U k := by
  obtain ⟨cv, h1, h2⟩ := h
  exact ⟨cv, hb.trans h1, h2⟩
theorem Ptrs.lt (h : Ptrs w g n V k) : g < w.heap.size := by
  obtain ⟨cv, h1, _⟩ := h
  exact (Array.getElem?_eq_some_iff.1 h1).1
theorem Mems.lt (h : Mems w g n K O V U k) : g < w.heap.size := by
  obtain ⟨cv, h1, _⟩ := h
  exact (Array.getElem?_eq_some_iff.1 h1).1
theorem Ptrs.cell (h : Ptrs w g n V k) (hk : k < n) : ∃ u, w.cell? ⟨g, k, none⟩ = some u ∧ w.frozen? ⟨g, k, none⟩ = false := by
  obtain ⟨cv, h1, h2, _⟩ := h
  refine ⟨cv[k], ?_, frozen_of_row w g k cv 28 h1⟩
  rw [cell_of_row w g k cv 28 (0, 0) h1]; simp [h2, hk]
theorem Ptrs.read (h : Ptrs w g n V k) (j : Nat) (hj : j < k) : w.cell? ⟨g, j, none⟩ = some (.pointer (V j)) := by
  obtain ⟨cv, h1, _, h3⟩ := h
  rw [cell_of_row w g j cv 28 (0, 0) h1]; exact h3 j hj
theorem Ptrs.set (h : Ptrs w g n V k) (hk : k < n) (p : Option Addr) : Ptrs (w.setCell ⟨g, k, none⟩ (.pointer p)) g n (at' V k p) (k + 1) := by
  obtain ⟨cv, h1, h2, h3⟩ := h
  refine ⟨cv.setIfInBounds k (.pointer p), heap_setCell_same w g k cv 28 _ h1, by simpa using h2, fun j hj => ?_⟩
  by_cases e : j = k
  · subst e; rw [at_self]; simp [h2, hk]
  · rw [at_other _ _ _ _ e, Array.getElem?_setIfInBounds_ne (by omega)]; exact h3 j (by omega)
theorem Mems.cells (h : Mems w g n K O V U k) (hk : k < n) : ∀ i, i < 4 → ∃ u, w.cell? ⟨g, k * 4 + i, none⟩ = some u ∧ w.frozen? ⟨g, k * 4 + i, none⟩ = false := by
  intro i hi
  obtain ⟨cm, h1, h2, _⟩ := h
  have hlt : k * 4 + i < cm.size := by omega
  refine ⟨cm[k * 4 + i], ?_, frozen_of_row w g _ cm 33 h1⟩
  rw [cell_of_row w g _ cm 33 (0, 0) h1]; simp [hlt]
theorem Mems.read (h : Mems w g n K O V U k) (j : Nat) (hj : j < k) : w.cell? ⟨g, j * 4, none⟩ = some (.string (K j)) ∧ w.cell? ⟨g, j * 4 + 1, none⟩ = some (.int .i64 (O j)) ∧ w.cell? ⟨g, j * 4 + 2, none⟩ = some (.pointer (V j)) ∧ w.cell? ⟨g, j * 4 + 3, none⟩ = some (.bool (U j)) := by
  obtain ⟨cm, h1, _, h3⟩ := h
  obtain ⟨a, b, c, d⟩ := h3 j hj
  exact ⟨(cell_of_row w g _ cm 33 (0, 0) h1).trans a, (cell_of_row w g _ cm 33 (0, 0) h1).trans b, (cell_of_row w g _ cm 33 (0, 0) h1).trans c, (cell_of_row w g _ cm 33 (0, 0) h1).trans d⟩
theorem Mems.set (h : Mems w g n K O V U k) (hk : k < n) (o : Int) (p : Option Addr) (u : Bool) :
    Mems ((((w.setCell ⟨g, k * 4, none⟩ (.string (K k))).setCell ⟨g, k * 4 + 1, none⟩ (.int .i64 o)).setCell ⟨g, k * 4 + 2, none⟩ (.pointer p)).setCell ⟨g, k * 4 + 3, none⟩ (.bool u)) g n K (at' O k o) (at' V k p) (at' U k u) (k + 1) := by
  obtain ⟨cm, h1, h2, h3⟩ := h
  have s1 := heap_setCell_same w g (k * 4) cm 33 (.string (K k)) h1
  have s2 := heap_setCell_same _ g (k * 4 + 1) _ 33 (.int .i64 o) s1
  have s3 := heap_setCell_same _ g (k * 4 + 2) _ 33 (.pointer p) s2
  have s4 := heap_setCell_same _ g (k * 4 + 3) _ 33 (.bool u) s3
  refine ⟨_, s4, by simpa using h2, fun j hj => ?_⟩
  by_cases e : j = k
  · subst e
    rw [at_self, at_self, at_self]
    refine ⟨?_, ?_, ?_, ?_⟩
    · rw [Array.getElem?_setIfInBounds_ne (by omega), Array.getElem?_setIfInBounds_ne (by omega), Array.getElem?_setIfInBounds_ne (by omega), Array.getElem?_setIfInBounds_self_of_lt (by omega)]
    · rw [Array.getElem?_setIfInBounds_ne (by omega), Array.getElem?_setIfInBounds_ne (by omega), Array.getElem?_setIfInBounds_self_of_lt (by simp; omega)]
    · rw [Array.getElem?_setIfInBounds_ne (by omega), Array.getElem?_setIfInBounds_self_of_lt (by simp; omega)]
    · rw [Array.getElem?_setIfInBounds_self_of_lt (by simp; omega)]
  · rw [at_other _ _ _ _ e, at_other _ _ _ _ e, at_other _ _ _ _ e]
    obtain ⟨a, b, c, d⟩ := h3 j (by omega)
    have ne : ∀ x y, x < 4 → y < 4 → k * 4 + x ≠ j * 4 + y := fun x y hx hy h => e (by omega)
    refine ⟨?_, ?_, ?_, ?_⟩ <;> (rw [Array.getElem?_setIfInBounds_ne (by omega), Array.getElem?_setIfInBounds_ne (by omega), Array.getElem?_setIfInBounds_ne (by omega), Array.getElem?_setIfInBounds_ne (by omega)]; assumption)
end

theorem one_new (w : World) (o : Obj) : Below w.heap.size w (w.alloc o) := (Below.refl _ _).alloc (Nat.le_refl _) o
theorem below_step {B : Nat} {a b c : World} (h : Below B a b) (hB : B ≤ a.heap.size) (k : Below b.heap.size b c) : Below B a c :=
  h.trans (k.mono (Nat.le_trans hB h.size))
end Go.Proofs.Qxb6630316a
