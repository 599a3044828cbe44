import Derived.Test.Qxb6630316aState
namespace Go.Proofs.Qxb6630316a
open Go.RowKit Go.Lib

/-! ### PLAIN LISTS -/
/-- The members pp .. pp + m - 1. -/
def restOf (K : Nat → ByteArray) (V : Nat → Option Addr) (pp m : Nat) : List (ByteArray × Option Addr) := (List.range m).map fun i => (K (pp + i), V (pp + i))
theorem restOf_succ (K : Nat → ByteArray) (V : Nat → Option Addr) (pp m : Nat) : restOf K V pp (m + 1) = restOf K V pp m ++ [(K (pp + m), V (pp + m))] := by simp [restOf, List.range_succ]
theorem memsOf_split (K : Nat → ByteArray) (V : Nat → Option Addr) (pp n : Nat) (h : pp ≤ n) : memsOf K V n = memsOf K V pp ++ restOf K V pp (n - pp) := by
  simp only [memsOf, restOf]
  rw [show n = pp + (n - pp) from by omega, List.range_add, List.map_append, List.map_map]
  simp [Function.comp_def]
theorem memsOf_length (K : Nat → ByteArray) (V : Nat → Option Addr) (n : Nat) : (memsOf K V n).length = n := by simp [memsOf]
theorem restOf_length (K : Nat → ByteArray) (V : Nat → Option Addr) (pp m : Nat) : (restOf K V pp m).length = m := by simp [restOf]

/-- One step of the search. -/
def pick (key : ByteArray) (acc : Option Addr) (m : ByteArray × Option Addr) : Option Addr := if (m.1.toList == key.toList) = true then m.2 else acc
theorem lastF_eq (key : ByteArray) (ms : List (ByteArray × Option Addr)) : lastF key ms = ms.foldl (pick key) none := rfl
/-- Is one of the members pp .. pp + m - 1 named k? -/
def shad (K : Nat → ByteArray) (k : ByteArray) (pp : Nat) : Nat → Bool
  | 0 => false
  | m + 1 => if ((K (pp + m)).toList == k.toList) = true then true else shad K k pp m
theorem fold_clear (K : Nat → ByteArray) (V : Nat → Option Addr) (key : ByteArray) (pp m : Nat) (h : shad K key pp m = false) (acc : Option Addr) : (restOf K V pp m).foldl (pick key) acc = acc := by
  induction m with
  | zero => rfl
  | succ m ih =>
    simp only [shad] at h
    split at h
    · cases h
    · rename_i hm
      rw [restOf_succ, List.foldl_append, ih h]
      simp [pick, hm]
theorem fold_shad (K : Nat → ByteArray) (V : Nat → Option Addr) (key : ByteArray) (pp m : Nat) (h : shad K key pp m = true) (acc acc' : Option Addr) : (restOf K V pp m).foldl (pick key) acc = (restOf K V pp m).foldl (pick key) acc' := by
  induction m with
  | zero => simp [shad] at h
  | succ m ih =>
    rw [restOf_succ, List.foldl_append, List.foldl_append]
    simp only [List.foldl_cons, List.foldl_nil, pick]
    simp only [shad] at h
    split at h
    · rename_i hm
      simp [hm]
    · rename_i hm
      simp only [hm, if_false, Bool.false_eq_true]
      exact ih h
theorem shad_congr (K : Nat → ByteArray) (k key : ByteArray) (pp m : Nat) (h : key.toList = k.toList) : shad K key pp m = shad K k pp m := by
  induction m with
  | zero => rfl
  | succ m ih => simp only [shad, h, ih]

/-- The look-up behind the insertion. -/
theorem after_new (K : Nat → ByteArray) (V : Nat → Option Addr) (k key : ByteArray) (new : Option Addr) (pp n : Nat) (hk : (key.toList == k.toList) = true) (hs : shad K k pp (n - pp) = false) :
    lastF key (memsOf K V pp ++ [(k, new)] ++ restOf K V pp (n - pp)) = new := by
  have e : key.toList = k.toList := by simpa using hk
  rw [lastF_eq, List.foldl_append, fold_clear K V key pp (n - pp) (by rw [shad_congr K k key pp _ e]; exact hs), List.foldl_append]
  simp [pick, e]
theorem after_old (K : Nat → ByteArray) (V : Nat → Option Addr) (k key : ByteArray) (new : Option Addr) (pp n : Nat) (hp : pp ≤ n) (h : (key.toList == k.toList) = false ∨ shad K k pp (n - pp) = true) :
    lastF key (memsOf K V pp ++ [(k, new)] ++ restOf K V pp (n - pp)) = lastAt K V key n := by
  rw [lastAt, memsOf_split K V pp n hp, lastF_eq, lastF_eq]
  simp only [List.foldl_append, List.foldl_cons, List.foldl_nil]
  by_cases hk : (key.toList == k.toList) = true
  · have e : key.toList = k.toList := by simpa using hk
    rcases h with h | h
    · rw [hk] at h; cases h
    · exact fold_shad K V key pp (n - pp) (by rw [shad_congr K k key pp _ e]; exact h) _ _
  · have e : (k.toList == key.toList) = false := by
      have h1 : key.toList ≠ k.toList := by simpa using hk
      simpa using fun h2 => h1 h2.symm
    have e' : ∀ acc, pick key acc (k, new) = acc := fun acc => by simp [pick, e]
    rw [e']

/-! ### THE SECOND ROW OF MEMBERS -/
def cellsM (ms : List (ByteArray × Option Addr)) : List Value := ms.flatMap fun m => [.string m.1, .int .i64 0, .pointer m.2, .bool false]
theorem cellsM_snoc (ms : List (ByteArray × Option Addr)) (m : ByteArray × Option Addr) : cellsM (ms ++ [m]) = cellsM ms ++ [.string m.1, .int .i64 0, .pointer m.2, .bool false] := by simp [cellsM]
theorem cellsM_at (ms : List (ByteArray × Option Addr)) (k : Nat) (hk : k < ms.length) : (cellsM ms)[k * 4]? = some (.string ms[k].1) ∧ (cellsM ms)[k * 4 + 2]? = some (.pointer ms[k].2) := by
  induction ms generalizing k with
  | nil => simp at hk
  | cons p ms ih =>
    cases k with
    | zero => simp [cellsM]
    | succ k =>
      have h := ih k (by simpa using hk)
      have e : ∀ j, (cellsM (p :: ms))[4 + j]? = (cellsM ms)[j]? := by
        intro j
        simp only [cellsM, List.flatMap_cons]
        rw [List.getElem?_append_right (by simp)]
        simp
      refine ⟨?_, ?_⟩
      · rw [show (k + 1) * 4 = 4 + k * 4 from by omega, e]; exact h.1
      · rw [show (k + 1) * 4 + 2 = 4 + (k * 4 + 2) from by omega, e]; exact h.2

/-- The second row: new since 'w3'. -/
def Own (w3 wr : World) (v : Value) (ms : List (ByteArray × Option Addr)) : Prop := wr.ownsRow w3.heap.size 33 4 v ms.length (cellsM ms) ∧ Below w3.heap.size w3 wr
theorem Own.alloc {w3 wr : World} {v : Value} {ms : List (ByteArray × Option Addr)} (h : Own w3 wr v ms) (o : Obj) : Own w3 (wr.alloc o) v ms := ⟨h.1.alloc o, h.2.alloc h.2.size o⟩

theorem wpList_own {w3 w : World} {v : Value} {ms : List (ByteArray × Option Addr)} (h : Own w3 w v ms) (k : ByteArray) (p : Option Addr) {ops : Array Oper} {rest : List Oper} {o : Oper} {a : Act} {Q : Exit → Act → World → Prop} (hgd : o.guard = none) (sl x : Operand)
    (ho : o.op = .call { callee := .builtin .append, args := #[sl, x], argTypes := #[27, 27] }) (hs : a.eval sl = v) (hx : a.eval x = .slice (some ⟨w.heap.size, 0, none⟩) 1 1) (hb : ms.length + 1 ≤ 16777216)
    (hK : ∀ v' w', Own w3 w' v' (ms ++ [(k, p)]) → wpList Try.prog ops Q rest (a.put o.dst v') w') : wpList Try.prog ops Q (o :: rest) a (w.alloc (.cells #[.string k, .int .i64 0, .pointer p, .bool false] 33)) := by
  obtain ⟨i, hi, hz, hz1, hz2⟩ := info33_parts
  have h' := h.alloc (.cells #[.string k, .int .i64 0, .pointer p, .bool false] 33)
  refine wpList_append_own _ hgd sl x 27 ho w3.heap.size 33 i (.agg #[.string ByteArray.empty, .int .i64 0, .pointer none, .bool false]) 4 40 Try.underlying27 hi hz hz1 hz2 rfl (by decide) v ms.length (cellsM ms) hs h'.1 ⟨w.heap.size, 0, none⟩ 1 1 [.string k, .int .i64 0, .pointer p, .bool false] hx rfl ?_ ?_ (by unfold maxLen; omega) (by omega) h'.2.size ?_
  · intro j u hj
    match j, hj with
    | 0, hj => simp at hj; subst hj; simp [Addr.add]
    | 1, hj => simp at hj; subst hj; simp [Addr.add]
    | 2, hj => simp at hj; subst hj; simp [Addr.add]
    | 3, hj => simp at hj; subst hj; simp [Addr.add]
  · intro u hu
    simp at hu
    rcases hu with rfl | rfl | rfl | rfl <;> rfl
  · intro v' w' hown hgrow _
    refine hK v' w' ⟨?_, h'.2.grown hgrow h'.2.size fun q hq => (h'.1.lt q hq).1⟩
    rw [cellsM_snoc]; simpa using hown

theorem Own.form {w3 wr : World} {v : Value} {ms : List (ByteArray × Option Addr)} (h : Own w3 wr v ms) (hp : 0 < ms.length) :
    ∃ g c, v = .slice (some ⟨g, 0, none⟩) ms.length c ∧ ∀ i, i < ms.length → wr.cell? ⟨g, i * 4, none⟩ = some (.string (ms.getD i (ByteArray.empty, none)).1) ∧ wr.cell? ⟨g, i * 4 + 2, none⟩ = some (.pointer (ms.getD i (ByteArray.empty, none)).2) := by
  rcases h.1.2 with ⟨_, h2⟩ | ⟨g, cap, cur, h2, _⟩
  · omega
  · subst h2
    refine ⟨g, cap, rfl, fun i hi => ?_⟩
    obtain ⟨c1, c2⟩ := cellsM_at ms i hi
    have e1 := h.1.cellAt (i * 4) (by omega)
    have e2 := h.1.cellAt (i * 4 + 2) (by omega)
    have e : ms.getD i (ByteArray.empty, none) = ms[i] := by simp [List.getD, hi]
    rw [e]
    exact ⟨e1.trans c1, e2.trans c2⟩
theorem lastAt_getD (ms : List (ByteArray × Option Addr)) (key : ByteArray) : lastAt (fun i => (ms.getD i (ByteArray.empty, none)).1) (fun i => (ms.getD i (ByteArray.empty, none)).2) key ms.length = lastF key ms := by
  have e : memsOf (fun i => (ms.getD i (ByteArray.empty, none)).1) (fun i => (ms.getD i (ByteArray.empty, none)).2) ms.length = ms := by
    apply List.ext_getElem
    · simp [memsOf]
    · intro i h1 h2
      simp [memsOf, List.getD, h2]
  rw [lastAt, e]

/-! ### THE FIRST ROW OF MEMBERS -/
def Bm (w wr : World) (n gm : Nat) (K : Nat → ByteArray) (k : Nat) : Prop := ∃ V, Mems wr gm n K (fun _ => 0) V (fun _ => false) k ∧ Below w.heap.size w wr ∧ w.heap.size ≤ gm
theorem at_const {α : Type} (k : Nat) (x : α) : at' (fun _ => x) k x = fun _ => x := by funext j; simp [at']
theorem Bm.step {w wr : World} {n gm : Nat} {K : Nat → ByteArray} {k : Nat} (h : Bm w wr n gm K k) (hk : k < n) (p : Option Addr) :
    Bm w ((((wr.setCell ⟨gm, k * 4, none⟩ (.string (K k))).setCell ⟨gm, k * 4 + 1, none⟩ (.int .i64 0)).setCell ⟨gm, k * 4 + 2, none⟩ (.pointer p)).setCell ⟨gm, k * 4 + 3, none⟩ (.bool false)) n gm K (k + 1) := by
  obtain ⟨V, h1, h2, h3⟩ := h
  have := h1.set hk 0 p false
  rw [at_const, at_const] at this
  exact ⟨_, this, (((h2.setCell h3 _).setCell h3 _).setCell h3 _).setCell h3 _, h3⟩
theorem Bm.below {w wr w' : World} {n gm : Nat} {K : Nat → ByteArray} {k : Nat} (h : Bm w wr n gm K k) (hb : Below wr.heap.size wr w') : Bm w w' n gm K k := by
  obtain ⟨V, h1, h2, h3⟩ := h
  exact ⟨V, h1.of_block (hb.block gm h1.lt), below_step h2 (Nat.le_refl _) hb, h3⟩
theorem Bm.alloc {w wr : World} {n gm : Nat} {K : Nat → ByteArray} {k : Nat} (h : Bm w wr n gm K k) (o : Obj) : Bm w (wr.alloc o) n gm K k := h.below (one_new wr o)
theorem Bm.cells {w wr : World} {n gm : Nat} {K : Nat → ByteArray} {k : Nat} (h : Bm w wr n gm K k) (hk : k < n) : (∃ u0 u1 u2 u3, wr.cell? ⟨gm, k * 4, none⟩ = some u0 ∧ wr.cell? ⟨gm, k * 4 + 1, none⟩ = some u1 ∧ wr.cell? ⟨gm, k * 4 + 2, none⟩ = some u2 ∧ wr.cell? ⟨gm, k * 4 + 3, none⟩ = some u3 ∧
    wr.frozen? ⟨gm, k * 4, none⟩ = false ∧ wr.frozen? ⟨gm, k * 4 + 1, none⟩ = false ∧ wr.frozen? ⟨gm, k * 4 + 2, none⟩ = false ∧ wr.frozen? ⟨gm, k * 4 + 3, none⟩ = false) ∧ gm < wr.heap.size := by
  obtain ⟨V, q2, _⟩ := h
  obtain ⟨u0, a0, b0⟩ := q2.cells hk 0 (by omega)
  obtain ⟨u1, a1, b1⟩ := q2.cells hk 1 (by omega)
  obtain ⟨u2, a2, b2⟩ := q2.cells hk 2 (by omega)
  obtain ⟨u3, a3, b3⟩ := q2.cells hk 3 (by omega)
  exact ⟨⟨u0, u1, u2, u3, a0, a1, a2, a3, b0, b1, b2, b3⟩, q2.lt⟩
theorem Bm.start {w w1 : World} {n : Nat} {K : Nat → ByteArray} {ys : List Value} (h2 : w1.ownsRow w.heap.size 33 4 (.slice (some ⟨w.heap.size, 0, none⟩) n n) n ys) (g2 : w.grownBy w1 none) : Bm w w1 n w.heap.size K 0 := by
  have B1 : Below w.heap.size w w1 := (Below.refl _ _).grown g2 (Nat.le_refl _) (by simp)
  refine ⟨fun _ => none, ?_, B1, Nat.le_refl _⟩
  rcases h2.2 with ⟨e, _⟩ | ⟨g, cap, cur, e, _, hg, _, _, hs, _⟩
  · simp at e
  · simp at e
    obtain ⟨rfl, rfl⟩ := e
    exact ⟨cur, hg, hs, fun j hj => absurd hj (Nat.not_lt_zero j)⟩
end Go.Proofs.Qxb6630316a
