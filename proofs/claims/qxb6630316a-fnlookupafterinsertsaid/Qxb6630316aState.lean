import Derived.Test.Qxb6630316aBuild
import Derived.LaidEqlPtr
import Derived.Laws.Pointers
namespace Go.Proofs.Qxb6630316a
open Go.RowKit Go.Lib

/-- The two rows that the law fills: the values, and the members that bear them. -/
def Bd (w wr : World) (n gv gm : Nat) (K : Nat → ByteArray) (k : Nat) : Prop :=
  ∃ V O U, Ptrs wr gv n V k ∧ Mems wr gm n K O V U k ∧ Below w.heap.size w wr ∧ w.heap.size ≤ gv ∧ w.heap.size ≤ gm ∧ gv ≠ gm

section
variable {w wr : World} {n gv gm : Nat} {K : Nat → ByteArray} {k : Nat}

theorem Bd.below {w' : World} (h : Bd w wr n gv gm K k) (hb : Below wr.heap.size wr w') : Bd w w' n gv gm K k := by
  obtain ⟨V, O, U, h1, h2, h3, h4⟩ := h
  exact ⟨V, O, U, h1.of_block (hb.block gv h1.lt), h2.of_block (hb.block gm h2.lt), below_step h3 (Nat.le_refl _) hb, h4⟩
theorem Bd.alloc (h : Bd w wr n gv gm K k) (o : Obj) : Bd w (wr.alloc o) n gv gm K k := h.below (one_new wr o)
theorem Bd.step (h : Bd w wr n gv gm K k) (hk : k < n) (p : Option Addr) (o : Int) (u : Bool) :
    Bd w (((((wr.setCell ⟨gv, k, none⟩ (.pointer p)).setCell ⟨gm, k * 4, none⟩ (.string (K k))).setCell ⟨gm, k * 4 + 1, none⟩ (.int .i64 o)).setCell ⟨gm, k * 4 + 2, none⟩ (.pointer p)).setCell ⟨gm, k * 4 + 3, none⟩ (.bool u)) n gv gm K (k + 1) := by
  obtain ⟨V, O, U, h1, h2, h3, h4, h5, h6⟩ := h
  have q1 := h1.set hk p
  have q2 : Mems (wr.setCell ⟨gv, k, none⟩ (.pointer p)) gm n K O V U k := h2.of_block (heap_setCell_other wr _ gm _ (Ne.symm h6))
  refine ⟨at' V k p, at' O k o, at' U k u, ?_, q2.set hk o p u, ((((h3.setCell h4 _).setCell h5 _).setCell h5 _).setCell h5 _).setCell h5 _, h4, h5, h6⟩
  refine q1.of_block ?_
  rw [heap_setCell_other _ _ gv _ h6, heap_setCell_other _ _ gv _ h6, heap_setCell_other _ _ gv _ h6, heap_setCell_other _ _ gv _ h6]
theorem Bd.valCell (h : Bd w wr n gv gm K k) (hk : k < n) : ∃ u, wr.cell? ⟨gv, k, none⟩ = some u ∧ wr.frozen? ⟨gv, k, none⟩ = false := by
  obtain ⟨V, O, U, h1, _⟩ := h
  exact h1.cell hk
theorem Bd.memCells (h : Bd w wr n gv gm K k) (hk : k < n) (p : Value) : ∃ u0 u1 u2 u3, (wr.setCell ⟨gv, k, none⟩ p).cell? ⟨gm, k * 4, none⟩ = some u0 ∧ (wr.setCell ⟨gv, k, none⟩ p).cell? ⟨gm, k * 4 + 1, none⟩ = some u1 ∧ (wr.setCell ⟨gv, k, none⟩ p).cell? ⟨gm, k * 4 + 2, none⟩ = some u2 ∧ (wr.setCell ⟨gv, k, none⟩ p).cell? ⟨gm, k * 4 + 3, none⟩ = some u3 ∧
    (wr.setCell ⟨gv, k, none⟩ p).frozen? ⟨gm, k * 4, none⟩ = false ∧ (wr.setCell ⟨gv, k, none⟩ p).frozen? ⟨gm, k * 4 + 1, none⟩ = false ∧ (wr.setCell ⟨gv, k, none⟩ p).frozen? ⟨gm, k * 4 + 2, none⟩ = false ∧ (wr.setCell ⟨gv, k, none⟩ p).frozen? ⟨gm, k * 4 + 3, none⟩ = false := by
  obtain ⟨V, O, U, _, h2, _, _, _, h6⟩ := h
  have q2 : Mems (wr.setCell ⟨gv, k, none⟩ p) gm n K O V U k := h2.of_block (heap_setCell_other wr _ gm _ (Ne.symm h6))
  obtain ⟨u0, a0, b0⟩ := q2.cells hk 0 (by omega)
  obtain ⟨u1, a1, b1⟩ := q2.cells hk 1 (by omega)
  obtain ⟨u2, a2, b2⟩ := q2.cells hk 2 (by omega)
  obtain ⟨u3, a3, b3⟩ := q2.cells hk 3 (by omega)
  exact ⟨u0, u1, u2, u3, a0, a1, a2, a3, b0, b1, b2, b3⟩
theorem Bd.start {w1 w2 : World} {xs ys : List Value} (h1 : w1.ownsRow w.heap.size 28 1 (.slice (some ⟨w.heap.size, 0, none⟩) n n) n xs) (g1 : w.grownBy w1 none) (h2 : w2.ownsRow w1.heap.size 33 4 (.slice (some ⟨w1.heap.size, 0, none⟩) n n) n ys) (g2 : w1.grownBy w2 none) :
    Bd w w2 n w.heap.size w1.heap.size K 0 := by
  have B1 : Below w.heap.size w w1 := (Below.refl _ _).grown g1 (Nat.le_refl _) (by simp)
  have B2 : Below w1.heap.size w1 w2 := (Below.refl _ _).grown g2 (Nat.le_refl _) (by simp)
  have hlt := (h1.lt w.heap.size rfl).2
  refine ⟨fun _ => none, fun _ => 0, fun _ => false, ?_, ?_, below_step B1 (Nat.le_refl _) B2, Nat.le_refl _, B1.size, by omega⟩
  · rcases h1.2 with ⟨e, _⟩ | ⟨g, cap, cur, e, _, hg, _, _, hs, _⟩
    · simp at e
    · simp at e
      obtain ⟨rfl, rfl⟩ := e
      exact ⟨cur, (B2.block _ hlt).trans hg, by simpa using hs, fun j hj => absurd hj (Nat.not_lt_zero j)⟩
  · rcases h2.2 with ⟨e, _⟩ | ⟨g, cap, cur, e, _, hg, _, _, hs, _⟩
    · simp at e
    · simp at e
      obtain ⟨rfl, rfl⟩ := e
      exact ⟨cur, hg, hs, fun j hj => absurd hj (Nat.not_lt_zero j)⟩
end

theorem Try.info31 : (Try.prog.info? 31).isSome = true := by kernel_rfl
/-- A pointer is equal to itself. -/
theorem eqlP (p : Option Addr) (w : World) : (binOp .eql 28 (.pointer p) (.pointer p)).run Try.prog w = .ok (.bool true) w := by
  cases p with
  | none => simpa using run_eql_pointer_nil (P := Try.prog) w 28 none (by kernel_rfl)
  | some a =>
    obtain ⟨j, hj⟩ := Option.isSome_iff_exists.1 Try.info31
    exact run_eql_ptr_same (P := Try.prog) w a Try.underlying28 hj

/-- The row of the other values: it lies in the block that was new at 'wr'. -/
def El (wr wx : World) (g n : Nat) (k : Nat) : Prop := (∃ V, Ptrs wx g n V k) ∧ Below wr.heap.size wr wx ∧ wr.heap.size ≤ g
theorem El.start {wr w1 : World} {n : Nat} {xs : List Value} (h1 : w1.ownsRow wr.heap.size 28 1 (.slice (some ⟨wr.heap.size, 0, none⟩) n n) n xs) (g1 : wr.grownBy w1 none) : El wr w1 wr.heap.size n 0 := by
  refine ⟨⟨fun _ => none, ?_⟩, (Below.refl _ _).grown g1 (Nat.le_refl _) (by simp), Nat.le_refl _⟩
  rcases h1.2 with ⟨e, _⟩ | ⟨g, cap, cur, e, _, hg, _, _, hs, _⟩
  · simp at e
  · simp at e
    obtain ⟨rfl, rfl⟩ := e
    exact ⟨cur, hg, by simpa using hs, fun j hj => absurd hj (Nat.not_lt_zero j)⟩
theorem El.step {wr wx : World} {g n k : Nat} (h : El wr wx g n k) (hk : k < n) (p : Option Addr) (o : Obj) : El wr ((wx.setCell ⟨g, k, none⟩ (.pointer p)).alloc o) g n (k + 1) := by
  obtain ⟨⟨V, h1⟩, h2, h3⟩ := h
  have h4 := h1.set hk p
  have h5 : Below wr.heap.size wr (wx.setCell ⟨g, k, none⟩ (.pointer p)) := h2.setCell h3 _
  exact ⟨⟨_, h4.of_block (Below.heap_alloc _ o g h4.lt)⟩, h5.alloc h5.size o, h3⟩
theorem El.cell {wr wx : World} {g n k : Nat} (h : El wr wx g n k) (hk : k < n) : (∃ u, wx.cell? ⟨g, k, none⟩ = some u ∧ wx.frozen? ⟨g, k, none⟩ = false) ∧ g < wx.heap.size := by
  obtain ⟨⟨V, h1⟩, _⟩ := h
  exact ⟨h1.cell hk, h1.lt⟩

/-- The place of the last key that is the one sought; -1 where there is none. -/
def lastIx (K : Nat → ByteArray) (key : ByteArray) : Nat → Int
  | 0 => -1
  | k + 1 => if ((K k).toList == key.toList) = true then (k : Int) else lastIx K key k
theorem lastIx_bd (K : Nat → ByteArray) (key : ByteArray) (k : Nat) : -1 ≤ lastIx K key k ∧ lastIx K key k < (k : Int) := by
  induction k with
  | zero => simp [lastIx]
  | succ k ih => simp only [lastIx]; split <;> omega
theorem lastIx_at (K : Nat → ByteArray) (V : Nat → Option Addr) (key : ByteArray) (k : Nat) : (lastIx K key k = -1 ∧ lastAt K V key k = none) ∨ ∃ j : Nat, j < k ∧ lastIx K key k = (j : Int) ∧ lastAt K V key k = V j := by
  induction k with
  | zero => exact .inl ⟨rfl, rfl⟩
  | succ k ih =>
    simp only [lastIx, lastAt_succ]
    split
    · exact .inr ⟨k, by omega, rfl, rfl⟩
    · rcases ih with ih | ⟨j, h1, h2, h3⟩
      · exact .inl ih
      · exact .inr ⟨j, by omega, h2, h3⟩
end Go.Proofs.Qxb6630316a
