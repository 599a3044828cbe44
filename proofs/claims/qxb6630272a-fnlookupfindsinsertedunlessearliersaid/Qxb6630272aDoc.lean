import Derived.Test.Qxb6630272aSmall
namespace Go.Proofs.Qxb6630272a
open Go.RowKit Go.Lib

/-- One element of a document, as data. -/
structure Val where
  name : ByteArray
  typ : Int
  nl : Bool
  data : List Int

def cellsV (ps : List (Val × Value)) : List Value := ps.flatMap fun p => [.string p.1.name, .int .u8 p.1.typ, p.2]
theorem cellsV_length (ps : List (Val × Value)) : (cellsV ps).length = ps.length * 3 := by
  induction ps with
  | nil => rfl
  | cons p ps ih => simp only [cellsV, List.flatMap_cons, List.length_append, List.length_cons, List.length_nil] at ih ⊢; omega
theorem cellsV_snoc (ps : List (Val × Value)) (p : Val × Value) : cellsV (ps ++ [p]) = cellsV ps ++ [.string p.1.name, .int .u8 p.1.typ, p.2] := by
  simp [cellsV]

/-- A slice of values that the call owns. -/
def Doc (w : World) (base : Nat) (v : Value) (ps : List (Val × Value)) : Prop :=
  w.ownsRow base 33 3 v ps.length (cellsV ps) ∧ ∀ p ∈ ps, Bytes w v.ownBlock p.2 p.1.nl p.1.data

theorem own_below {w w' : World} {base e size n : Nat} {v : Value} {xs : List Value} (h : w.ownsRow base e size v n xs) (hb : Below w.heap.size w w') : w'.ownsRow base e size v n xs := by
  refine ⟨h.1, ?_⟩
  rcases h.2 with h2 | ⟨g, cap, cur, h1, h3, h4, h5⟩
  · exact .inl h2
  · exact .inr ⟨g, cap, cur, h1, h3, (hb.block g (Array.getElem?_eq_some_iff.1 h4).1).trans h4, h5⟩
theorem Doc.below {w w' : World} {base : Nat} {v : Value} {ps : List (Val × Value)} (h : Doc w base v ps) (hb : Below w.heap.size w w') : Doc w' base v ps :=
  ⟨own_below h.1 hb, fun p hp => (h.2 p hp).below hb⟩
theorem below_step {B : Nat} {a b c : World} (h : Below B a b) (hB : B ≤ a.heap.size) (k : Below b.heap.size b c) : Below B a c :=
  h.trans (k.mono (Nat.le_trans hB h.size))

theorem info33_parts : ∃ i, Try.prog.info? 33 = some i ∧ i.zero = some (.agg #[.string ByteArray.empty, .int .u8 0, .slice none 0 0]) ∧ i.size = 3 ∧ i.bytes = 48 := info_parts Try.info33

/-- append(v, x), x a value that lies in a block of its own. -/
theorem run_doc {w : World} {base : Nat} {v : Value} {ps : List (Val × Value)} (h : Doc w base v ps) (val : Val) (dv : Value) (hd : Bytes w v.ownBlock dv val.nl val.data) (ty : TypeId) (a : Addr) (c : Nat)
    (hnews : ∀ j u, [Value.string val.name, .int .u8 val.typ, dv][j]? = some u → w.cell? (a.add j) = some u) (hb : ps.length + 1 ≤ 16777216) (hbase : base ≤ w.heap.size) :
    ∃ v' w', (Builtin.append_ #[26, 26] ty #[v, .slice (some a) 1 c]).run Try.prog w = .ok v' w' ∧ Doc w' base v' (ps ++ [(val, dv)]) ∧ w.grownBy w' v.ownBlock ∧ (v'.ownBlock = v.ownBlock ∨ v'.ownBlock = some w.heap.size) := by
  obtain ⟨i, hi, hz, hz1, hz2⟩ := info33_parts
  have hone : ∀ u ∈ [Value.string val.name, .int .u8 val.typ, dv], u.oneCell' = true := by
    obtain ⟨_, _, rfl, _⟩ := hd
    intro u hu
    simp at hu
    rcases hu with rfl | rfl | rfl <;> rfl
  obtain ⟨v', w', hr, h2, h3, _, h5⟩ := run_append_own_at (P := Try.prog) w base 26 ty 33 i (.agg #[.string ByteArray.empty, .int .u8 0, .slice none 0 0]) 3 48 Try.underlying26 hi hz hz1 hz2 rfl (by decide) v ps.length (cellsV ps) h.1 a 1 c _ rfl hnews hone
    (by unfold maxLen; omega) (by omega) hbase
  refine ⟨v', w', hr, ⟨?_, ?_⟩, h3, h5⟩
  · rw [cellsV_snoc]; simpa using h2
  · intro p hp
    simp only [List.mem_append, List.mem_singleton] at hp
    rcases hp with hp | rfl
    · exact (h.2 p hp).grown h3 h5
    · exact hd.grown h3 h5

theorem step_doc {w : World} {base : Nat} {v : Value} {ps : List (Val × Value)} (h : Doc w base v ps) (val : Val) (dv : Value) (hd : Bytes w v.ownBlock dv val.nl val.data) {ops : Array Oper} {o : Oper} {a : Act} {K : Act → World → Prop} {Q : Exit → Act → World → Prop} {E : Prop} (hgd : o.guard = none) (sl x : Operand)
    (ho : o.op = .call { callee := .builtin .append, args := #[sl, x], argTypes := #[26, 26] }) (ad : Addr) (c : Nat) (hs : a.eval sl = v) (hx : a.eval x = .slice (some ad) 1 c)
    (hnews : ∀ j u, [Value.string val.name, .int .u8 val.typ, dv][j]? = some u → w.cell? (ad.add j) = some u) (hb : ps.length + 1 ≤ 16777216) (hbase : base ≤ w.heap.size)
    (hK : ∀ v' w', Doc w' base v' (ps ++ [(val, dv)]) → w.grownBy w' v.ownBlock → K (a.put o.dst v') w') : if Region.wanted o (yielded ops a.tmps) = true then Oper.wp Try.prog o a w K Q else E := by
  have hw : Region.wanted o (yielded ops a.tmps) = true := by simp [Region.wanted, hgd]
  rw [if_pos hw]
  obtain ⟨v', w', hr, h2, h3, h4⟩ := run_doc h val dv hd o.type ad c hnews hb hbase
  unfold Oper.wp execOp
  simp only [ho, resolve, invoke, builtin, Sem.run_bind, Sem.run_pure, Result.andThen_ok, List.map_toArray, List.map_cons, List.map_nil, hs, hx, hr]
  exact hK v' w' h2 h3
theorem wpList_doc {w : World} {base : Nat} {v : Value} {ps : List (Val × Value)} (h : Doc w base v ps) (val : Val) (dv : Value) (hd : Bytes w v.ownBlock dv val.nl val.data) {ops : Array Oper} {rest : List Oper} {o : Oper} {a : Act} {Q : Exit → Act → World → Prop} (hgd : o.guard = none) (sl x : Operand)
    (ho : o.op = .call { callee := .builtin .append, args := #[sl, x], argTypes := #[26, 26] }) (ad : Addr) (c : Nat) (hs : a.eval sl = v) (hx : a.eval x = .slice (some ad) 1 c)
    (hnews : ∀ j u, [Value.string val.name, .int .u8 val.typ, dv][j]? = some u → w.cell? (ad.add j) = some u) (hb : ps.length + 1 ≤ 16777216) (hbase : base ≤ w.heap.size)
    (hK : ∀ v' w', Doc w' base v' (ps ++ [(val, dv)]) → w.grownBy w' v.ownBlock → (v'.ownBlock = v.ownBlock ∨ v'.ownBlock = some w.heap.size) → wpList Try.prog ops Q rest (a.put o.dst v') w') : wpList Try.prog ops Q (o :: rest) a w := by
  refine wpList_plain hgd fun K hK' => ?_
  obtain ⟨v', w', hr, h2, h3, h4⟩ := run_doc h val dv hd o.type ad c hnews hb hbase
  unfold Oper.wp execOp
  simp only [ho, resolve, invoke, builtin, Sem.run_bind, Sem.run_pure, Result.andThen_ok, List.map_toArray, List.map_cons, List.map_nil, hs, hx, hr]
  exact hK' _ _ (hK v' w' h2 h3 h4)

/-- The element that was just laid in a block of its own. -/
theorem news_at {w : World} {n : ByteArray} {t : Int} {o : Option Addr} {l c : Nat} (ty : TypeId) :
    ∀ j u, [Value.string n, .int .u8 t, .slice o l c][j]? = some u → (w.alloc (.cells #[.string n, .int .u8 t, .slice o l c] ty)).cell? ((⟨w.heap.size, 0, none⟩ : Addr).add j) = some u := by
  intro j u hj
  match j, hj with
  | 0, hj => simp at hj; subst hj; simp [Addr.add]
  | 1, hj => simp at hj; subst hj; simp [Addr.add]
  | 2, hj => simp at hj; subst hj; simp [Addr.add]

/-- A slice whose cells lie in the block 'B' or above. -/
def Over (B : Nat) (v : Value) : Prop := ∀ g off l c, v = .slice (some ⟨g, off, none⟩) l c → B ≤ g
theorem Bytes.row {w : World} {row row' : Option Nat} {v : Value} {nl : Bool} {D : List Int} {B : Nat} (h : Bytes w row v nl D) (ho : Over B v) (hr : ∀ k, row' = some k → k < B) : Bytes w row' v nl D := by
  obtain ⟨ao, cap, h1, h2, h3⟩ := h
  refine ⟨ao, cap, h1, h2, fun hp => ?_⟩
  obtain ⟨g, off, rfl, h5, h6⟩ := h3 hp
  have hg := ho g off _ _ h1
  exact ⟨g, off, rfl, fun e => by have := hr g e.symm; omega, h6⟩
theorem Over.mono {B B' : Nat} {v : Value} (h : Over B v) (hb : B' ≤ B) : Over B' v := fun g off l c e => Nat.le_trans hb (h g off l c e)

theorem clone_sl {w : World} {row : Option Nat} {v : Value} {nl : Bool} {D : List Int} (h : Bytes w row v nl D) (hb : D.length ≤ 1048576) (row' : Option Nat) (hr : ∀ k, row' = some k → k < w.heap.size) :
    Calls Try.prog 16 #[v] w fun e w' => ∃ o l c, e = .returned (.slice o l c) ∧ Bytes w' row' (.slice o l c) nl D ∧ Below w.heap.size w w' ∧ Over w.heap.size (.slice o l c) := by
  obtain ⟨ao, cap, rfl, rfl, h3⟩ := h
  cases ao with
  | none =>
    have h0 : D.length = 0 := by
      by_cases hp : 0 < D.length
      · obtain ⟨g, off, h4, _⟩ := h3 hp
        cases h4
      · omega
    rw [h0]
    refine (clone_nil cap w).mono ?_
    rintro e w' ⟨rfl, rfl⟩
    exact ⟨_, _, _, rfl, ⟨none, 0, by rw [h0], rfl, fun hp => absurd hp (by omega)⟩, Below.refl _ _, fun g off l c e => by simp at e⟩
  | some x =>
    refine (clone_some x cap D w hb fun hp => ?_).mono ?_
    · obtain ⟨g, off, h4, _, h6⟩ := h3 hp
      cases h4
      exact ⟨g, off, rfl, h6⟩
    · rintro e w' ⟨rfl, hC⟩
      obtain ⟨r1, r2⟩ := hC.bytes row' hr
      exact ⟨_, _, _, rfl, r1, r2, fun g off l c e => by simp at e; omega⟩
end Go.Proofs.Qxb6630272a
