import Derived.Test.Qxb6630221aRows
import Derived.WalkKit
import Derived.WalkSpells
import Derived.Outline
import Derived.Below
import Derived.ArgAppend
import Derived.Lib.AppendStr
import Derived.Deep.RegionHeld3
namespace Go.Proofs.Qxb6630221a
open Go.RowKit Go.Lib

theorem Try.info5 : (Try.prog.info? 5).map (fun i => (i.zero, i.size, i.bytes)) = some (some (.int .u8 0), 1, 1) := by kernel_rfl

theorem info5_parts : ∃ i, Try.prog.info? 5 = some i ∧ i.zero = some (.int .u8 0) ∧ i.size = 1 ∧ i.bytes = 1 := info_parts Try.info5

/-- A slice of bytes without spare room: nil, or a whole row. -/
def Full (w : World) (v : Value) (xs : List Value) : Prop :=
  (v = .slice none 0 0 ∧ xs = []) ∨ ∃ g, v = .slice (some ⟨g, 0, none⟩) xs.length xs.length ∧ w.heap[g]? = some (.cells xs.toArray 5 (0, 0))

theorem Full.keep {w w' : World} {v : Value} {xs : List Value} (h : Full w v xs) (hb : Below w.heap.size w w') : Full w' v xs := by
  rcases h with h | ⟨g, h1, h2⟩
  · exact .inl h
  · exact .inr ⟨g, h1, (hb.block g (Array.getElem?_eq_some_iff.1 h2).1).trans h2⟩
theorem own_keep {w w' : World} {base n : Nat} {v : Value} {xs : List Value} (h : w.ownsRow base 5 1 v n xs) (hb : Below w.heap.size w w') : w'.ownsRow base 5 1 v n xs := by
  refine ⟨h.1, ?_⟩
  rcases h.2 with h2 | ⟨g, cap, cur, h1, h3, h4, h5⟩
  · exact .inl h2
  · exact .inr ⟨g, cap, cur, h1, h3, (hb.block g (Array.getElem?_eq_some_iff.1 h4).1).trans h4, h5⟩
theorem below_step {B : Nat} {a b c : World} (h : Below B a b) (hB : B ≤ a.heap.size) (k : Below b.heap.size b c) : Below B a c :=
  h.trans (k.mono (Nat.le_trans hB h.size))

/-- A slice that is appended to again and again: all that lay in 'W' lies there as it did; it is still the first one, 'v0', which has no spare room; or it owns a row that is new since 'W'. -/
def Ap (W : World) (v0 : Value) (xs0 : List Value) (w : World) (v : Value) (xs : List Value) : Prop :=
  Full W v0 xs0 ∧ Below W.heap.size W w ∧ ((v = v0 ∧ xs = xs0) ∨ w.ownsRow W.heap.size 5 1 v xs.length xs)

theorem Ap.alloc {W : World} {v0 : Value} {xs0 : List Value} {w : World} {v : Value} {xs : List Value} (h : Ap W v0 xs0 w v xs) (o : Obj) : Ap W v0 xs0 (w.alloc o) v xs :=
  ⟨h.1, h.2.1.alloc h.2.1.size o, h.2.2.elim .inl fun h => .inr (h.alloc o)⟩
theorem Ap.drew {W : World} {v0 : Value} {xs0 : List Value} {w : World} {v : Value} {xs : List Value} (h : Ap W v0 xs0 w v xs) : Ap W v0 xs0 w.drew v xs :=
  ⟨h.1, h.2.1.drew, h.2.2.elim .inl fun h => .inr h⟩
theorem Ap.own {W : World} {v0 : Value} {xs0 : List Value} {w : World} {v : Value} {xs : List Value} (h1 : Full W v0 xs0) {n : Nat} (hb : Below W.heap.size W w) (h : w.ownsRow W.heap.size 5 1 v n xs) : Ap W v0 xs0 w v xs := by
  have hl : xs.length = n := by simpa using h.1
  exact ⟨h1, hb, .inr (by rw [hl]; exact h)⟩

/-- append(v, s...), s a string. -/
theorem run_ap_string {W : World} {v0 : Value} {xs0 : List Value} {w : World} {v : Value} {xs : List Value} (h : Ap W v0 xs0 w v xs) (u ty : TypeId) (hu : Try.prog.underlying u = some .string) (s : ByteArray) (hb : xs.length + s.size ≤ 140737488355328) :
    ∃ v' w', (Builtin.append_ #[22, u] ty #[v, .string s]).run Try.prog w = .ok v' w' ∧ Ap W v0 xs0 w' v' (xs ++ strCells s) := by
  obtain ⟨i, hi, hz, hz1, hz2⟩ := info5_parts
  have h63 : xs.length + s.size ≤ maxLen := by unfold maxLen; omega
  have owned : w.ownsRow W.heap.size 5 1 v xs.length xs → ∃ v' w', (Builtin.append_ #[22, u] ty #[v, .string s]).run Try.prog w = .ok v' w' ∧ Ap W v0 xs0 w' v' (xs ++ strCells s) := by
    intro hown
    obtain ⟨v', w', hr, h2, h3, _⟩ := run_append_own_string (P := Try.prog) w W.heap.size 22 u ty 5 i Try.underlying22 hu hi hz hz1 hz2 v xs.length xs hown s h63 hb h.2.1.size
    exact ⟨v', w', hr, Ap.own h.1 (h.2.1.grown h3 h.2.1.size fun k hk => (hown.lt k hk).1) h2⟩
  rcases h.2.2 with ⟨rfl, rfl⟩ | hown
  · rcases h.1 with ⟨rfl, rfl⟩ | ⟨g, hv, hg⟩
    · exact owned (World.ownsRow_nil _ _ _ _)
    · have hgw : w.heap[g]? = some (.cells xs.toArray 5 (0, 0)) := (h.2.1.block g (Array.getElem?_eq_some_iff.1 hg).1).trans hg
      by_cases hs : s.size = 0
      · have hr := run_append_room_string (P := Try.prog) w 22 u ty 5 i Try.underlying22 hu hi hz1 g xs.length xs.length xs.toArray hgw s (by omega) (by simp; omega)
        have e1 : strCells s = [] := List.eq_nil_of_length_eq_zero (by rw [strCells_length]; exact hs)
        have e2 : w.setRow g xs.toArray = w := setRow_self w g xs.toArray 5 (0, 0) hgw
        simp only [hs, e1, Nat.add_zero, List.append_nil, List.take_append_drop] at hr
        rw [← hv] at hr
        refine ⟨v, w, ?_, ?_⟩
        · rw [hr, e2]
        · rw [e1, List.append_nil]; exact h
      · have hc : ∀ j u, xs[j]? = some u → w.cell? ((⟨g, 0, none⟩ : Addr).add j) = some u := by
          intro j u hj
          have hadd : (⟨g, 0, none⟩ : Addr).add j = ⟨g, j, none⟩ := by unfold Addr.add; split <;> simp_all
          rw [hadd, cell_of_row w g j xs.toArray 5 (0, 0) hgw]
          simpa using hj
        have hr := run_append_grow_string (P := Try.prog) w 22 u ty 5 i (.int .u8 0) Try.underlying22 hu hi hz ⟨g, 0, none⟩ xs.length xs.length xs (by rw [hz1]; simp) hc s (by omega) (by omega) (by rw [hz2]; exact growslice_fits (by omega) (by omega))
        rw [← hv] at hr
        have hge := grownCap_ge w (xs.length + s.size) xs.length 5
        have hcm : grownCap w (xs.length + s.size) xs.length 5 ≤ maxLen := grownCap_le_maxLen w (xs.length + s.size) xs.length 5 h63
        refine ⟨_, _, hr, Ap.own h.1 (n := xs.length + s.size) (h.2.1.drew.alloc h.2.1.size _) ⟨by simp [strCells_length], .inr ⟨w.heap.size, _, _, rfl, h.2.1.size, heap_alloc_new w.drew _, hge, hcm, ?_, ?_⟩⟩⟩
        · have hz1 : (Value.int IntKind.u8 0).cells.size = 1 := rfl
          simp only [Array.size_append, List.size_toArray, size_zeroCells, hz1, strCells_length]
          omega
        · simp only [Array.toList_append, List.append_assoc]
          rw [← List.append_assoc, show (xs.length + s.size) * 1 = (xs ++ strCells s).length from by simp [strCells_length]]
          exact List.take_left
  · exact owned hown

/-- append(v, c), c one byte that lies in a block of its own. -/
theorem run_ap_slice {W : World} {v0 : Value} {xs0 : List Value} {w : World} {v : Value} {xs : List Value} (h : Ap W v0 xs0 w v xs) (ty : TypeId) (a : Addr) (c : Nat) (x : Value) (hx : w.cell? a = some x) (h1 : x.oneCell' = true) (hb : xs.length + 1 ≤ 140737488355328) :
    ∃ v' w', (Builtin.append_ #[22, 22] ty #[v, .slice (some a) 1 c]).run Try.prog w = .ok v' w' ∧ Ap W v0 xs0 w' v' (xs ++ [x]) := by
  obtain ⟨i, hi, hz, hz1, hz2⟩ := info5_parts
  have h63 : xs.length + 1 ≤ maxLen := by unfold maxLen; omega
  have hnews : ∀ j u, [x][j]? = some u → w.cell? (a.add j) = some u := by
    intro j u hj
    match j, hj with
    | 0, hj => simp at hj; subst hj; simpa [Addr.add] using hx
  have hone : ∀ u ∈ [x], u.oneCell' = true := by intro u hu; simp at hu; subst hu; exact h1
  have owned : w.ownsRow W.heap.size 5 1 v xs.length xs → ∃ v' w', (Builtin.append_ #[22, 22] ty #[v, .slice (some a) 1 c]).run Try.prog w = .ok v' w' ∧ Ap W v0 xs0 w' v' (xs ++ [x]) := by
    intro hown
    obtain ⟨v', w', hr, h2, h3, _⟩ := run_append_own (P := Try.prog) w W.heap.size 22 ty 5 i (.int .u8 0) 1 1 Try.underlying22 hi hz hz1 hz2 rfl (by decide) v xs.length xs hown a 1 c [x] rfl hnews hone h63 (by omega) h.2.1.size
    exact ⟨v', w', hr, Ap.own h.1 (h.2.1.grown h3 h.2.1.size fun k hk => (hown.lt k hk).1) h2⟩
  rcases h.2.2 with ⟨rfl, rfl⟩ | hown
  · rcases h.1 with ⟨rfl, rfl⟩ | ⟨g, hv, hg⟩
    · exact owned (World.ownsRow_nil _ _ _ _)
    · have hgw : w.heap[g]? = some (.cells xs.toArray 5 (0, 0)) := (h.2.1.block g (Array.getElem?_eq_some_iff.1 hg).1).trans hg
      have hc : ∀ j u, xs[j]? = some u → w.cell? ((⟨g, 0, none⟩ : Addr).add j) = some u := by
        intro j u hj
        have hadd : (⟨g, 0, none⟩ : Addr).add j = ⟨g, j, none⟩ := by unfold Addr.add; split <;> simp_all
        rw [hadd, cell_of_row w g j xs.toArray 5 (0, 0) hgw]
        simpa using hj
      obtain ⟨v', w', hr, h2, h3⟩ := run_append_arg_grows (P := Try.prog) w 22 ty 5 i (.int .u8 0) 1 1 Try.underlying22 hi hz hz1 hz2 rfl (by decide) ⟨g, 0, none⟩ xs.length xs.length xs (by simp) hc a 1 c [x] rfl hnews (by omega) h63 (by omega)
      rw [← hv] at hr
      refine ⟨v', w', hr, Ap.own h.1 (n := xs.length + 1) (h.2.1.grown h3 h.2.1.size (by simp)) ?_⟩
      refine ⟨h2.1, ?_⟩
      rcases h2.2 with h4 | ⟨g', cap, cur, a1, a2, a3⟩
      · exact .inl h4
      · exact .inr ⟨g', cap, cur, a1, Nat.le_trans h.2.1.size a2, a3⟩
  · exact owned hown

/-! ### THE SAME AT THE OPERATION: of a plain region, of a region that draws -/
theorem wpList_ap_string {W : World} {v0 : Value} {xs0 : List Value} {w : World} {v : Value} {xs : List Value} (h : Ap W v0 xs0 w v xs) {ops : Array Oper} {rest : List Oper} {o : Oper} {a : Act} {Q : Exit → Act → World → Prop} (hgd : o.guard = none) (sl x : Operand) (u : TypeId)
    (ho : o.op = .call { callee := .builtin .append, args := #[sl, x], argTypes := #[22, u] }) (hu : Try.prog.underlying u = some .string) (s : ByteArray) (hs : a.eval sl = v) (hx : a.eval x = .string s) (hb : xs.length + s.size ≤ 140737488355328)
    (hK : ∀ v' w', Ap W v0 xs0 w' v' (xs ++ strCells s) → wpList Try.prog ops Q rest (a.put o.dst v') w') : wpList Try.prog ops Q (o :: rest) a w := by
  refine wpList_plain hgd fun K hK' => ?_
  obtain ⟨v', w', hr, h2⟩ := run_ap_string h u o.type hu s hb
  unfold Oper.wp execOp
  simp only [ho, resolve, invoke, builtin, Sem.run_bind, Sem.run_pure, Result.andThen_ok, List.map_toArray, List.map_cons, List.map_nil, hs, hx, hr]
  exact hK' _ _ (hK v' w' h2)
theorem wpList_ap_byte {W : World} {v0 : Value} {xs0 : List Value} {w : World} {v : Value} {xs : List Value} (h : Ap W v0 xs0 w v xs) {ops : Array Oper} {rest : List Oper} {o : Oper} {a : Act} {Q : Exit → Act → World → Prop} (hgd : o.guard = none) (sl x : Operand)
    (ho : o.op = .call { callee := .builtin .append, args := #[sl, x], argTypes := #[22, 22] }) (ad : Addr) (c : Nat) (y : Value) (hs : a.eval sl = v) (hx : a.eval x = .slice (some ad) 1 c) (hc : w.cell? ad = some y) (h1 : y.oneCell' = true) (hb : xs.length + 1 ≤ 140737488355328)
    (hK : ∀ v' w', Ap W v0 xs0 w' v' (xs ++ [y]) → wpList Try.prog ops Q rest (a.put o.dst v') w') : wpList Try.prog ops Q (o :: rest) a w := by
  refine wpList_plain hgd fun K hK' => ?_
  obtain ⟨v', w', hr, h2⟩ := run_ap_slice h o.type ad c y hc h1 hb
  unfold Oper.wp execOp
  simp only [ho, resolve, invoke, builtin, Sem.run_bind, Sem.run_pure, Result.andThen_ok, List.map_toArray, List.map_cons, List.map_nil, hs, hx, hr]
  exact hK' _ _ (hK v' w' h2)
theorem step_ap_string {W : World} {v0 : Value} {xs0 : List Value} {w : World} {v : Value} {xs : List Value} (h : Ap W v0 xs0 w v xs) {ops : Array Oper} {o : Oper} {a : Act} {K : Act → World → Prop} {Q : Exit → Act → World → Prop} {E : Prop} (hgd : o.guard = none) (sl x : Operand) (u : TypeId)
    (ho : o.op = .call { callee := .builtin .append, args := #[sl, x], argTypes := #[22, u] }) (hu : Try.prog.underlying u = some .string) (s : ByteArray) (hs : a.eval sl = v) (hx : a.eval x = .string s) (hb : xs.length + s.size ≤ 140737488355328)
    (hK : ∀ v' w', Ap W v0 xs0 w' v' (xs ++ strCells s) → K (a.put o.dst v') w') : if Region.wanted o (yielded ops a.tmps) = true then Oper.wp Try.prog o a w K Q else E := by
  have hw : Region.wanted o (yielded ops a.tmps) = true := by simp [Region.wanted, hgd]
  rw [if_pos hw]
  obtain ⟨v', w', hr, h2⟩ := run_ap_string h u o.type hu s hb
  unfold Oper.wp execOp
  simp only [ho, resolve, invoke, builtin, Sem.run_bind, Sem.run_pure, Result.andThen_ok, List.map_toArray, List.map_cons, List.map_nil, hs, hx, hr]
  exact hK v' w' h2
theorem step_ap_byte {W : World} {v0 : Value} {xs0 : List Value} {w : World} {v : Value} {xs : List Value} (h : Ap W v0 xs0 w v xs) {ops : Array Oper} {o : Oper} {a : Act} {K : Act → World → Prop} {Q : Exit → Act → World → Prop} {E : Prop} (hgd : o.guard = none) (sl x : Operand)
    (ho : o.op = .call { callee := .builtin .append, args := #[sl, x], argTypes := #[22, 22] }) (ad : Addr) (c : Nat) (y : Value) (hs : a.eval sl = v) (hx : a.eval x = .slice (some ad) 1 c) (hc : w.cell? ad = some y) (h1 : y.oneCell' = true) (hb : xs.length + 1 ≤ 140737488355328)
    (hK : ∀ v' w', Ap W v0 xs0 w' v' (xs ++ [y]) → K (a.put o.dst v') w') : if Region.wanted o (yielded ops a.tmps) = true then Oper.wp Try.prog o a w K Q else E := by
  have hw : Region.wanted o (yielded ops a.tmps) = true := by simp [Region.wanted, hgd]
  rw [if_pos hw]
  obtain ⟨v', w', hr, h2⟩ := run_ap_slice h o.type ad c y hc h1 hb
  unfold Oper.wp execOp
  simp only [ho, resolve, invoke, builtin, Sem.run_bind, Sem.run_pure, Result.andThen_ok, List.map_toArray, List.map_cons, List.map_nil, hs, hx, hr]
  exact hK v' w' h2

theorem Ap.weaken {w : World} {o : Obj} {v0 : Value} {xs0 : List Value} {w' : World} {v : Value} {xs : List Value} (h : Ap (w.alloc o) v0 xs0 w' v xs) (hne : xs ≠ xs0) : w'.ownsRow w.heap.size 5 1 v xs.length xs ∧ Below w.heap.size w w' := by
  obtain ⟨_, h2, h3⟩ := h
  refine ⟨?_, ((Below.refl _ _).alloc (Nat.le_refl _) o).trans (h2.mono (by simp))⟩
  rcases h3 with ⟨_, h3⟩ | h3
  · exact absurd h3 hne
  · refine ⟨h3.1, ?_⟩
    rcases h3.2 with h4 | ⟨g', cap, cur, a1, a2, a3⟩
    · exact .inl h4
    · exact .inr ⟨g', cap, cur, a1, by simp at a2; omega, a3⟩
theorem Ap.cell {W : World} {v0 : Value} {xs0 : List Value} {w : World} {v : Value} {xs : List Value} (h : Ap W v0 xs0 w v xs) {a : Addr} {x : Value} (hc : W.cell? a = some x) : w.cell? a = some x :=
  (h.2.1.cell (World.block_lt_of_cell? W a hc)).trans hc
/-- A slice without spare room in 'w' is one behind a new block. -/
theorem Ap.begin {w : World} {v : Value} {xs : List Value} (h : Full w v xs) (o : Obj) : Ap (w.alloc o) v xs (w.alloc o) v xs :=
  ⟨h.keep ((Below.refl _ _).alloc (Nat.le_refl _) o), Below.refl _ _, .inl ⟨rfl, rfl⟩⟩
end Go.Proofs.Qxb6630221a
