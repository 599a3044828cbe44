import Derived.Test.Qxb6630272aSame
namespace Go.Proofs.Qxb6630272a
open Go.RowKit Go.Lib

/-- The test that Lookup makes, over plain values. -/
def named (name : ByteArray) (v : Val) : Bool := v.name.toList == name.toList

/-- A document that lies in the block 'p': its elements read as 'vals'. -/
def DocAt (X : World) (p : Nat) (vals : List Val) : Prop := ∃ o l c base ps, X.cell? ⟨p, 0, none⟩ = some (.slice o l c) ∧ Doc X base (.slice o l c) ps ∧ ps.map Prod.fst = vals
theorem DocAt.below {X Y : World} {p : Nat} {vals : List Val} (h : DocAt X p vals) (hb : Below X.heap.size X Y) : DocAt Y p vals := by
  obtain ⟨o, l, c, base, ps, h1, h2, h3⟩ := h
  exact ⟨o, l, c, base, ps, (hb.cell (World.block_lt_of_cell? X _ h1)).trans h1, h2.below hb, h3⟩

/-- What Lookup has found lies here. -/
def Res (w : World) (n : ByteArray) (t : Int) (v : Value) (b : Bool) : Option Val → Prop
  | some val => n = val.name ∧ t = val.typ ∧ b = true ∧ Bytes w none v val.nl val.data
  | none => n = ByteArray.empty ∧ t = 0 ∧ v = .slice none 0 0 ∧ b = false
theorem Res.below {X Y : World} {n : ByteArray} {t : Int} {v : Value} {b : Bool} {r : Option Val} (h : Res X n t v b r) (hb : Below X.heap.size X Y) : Res Y n t v b r := by
  cases r with
  | some val => exact ⟨h.1, h.2.1, h.2.2.1, h.2.2.2.below hb⟩
  | none => exact h

/-- A value lies in the block 'r'. -/
def ValAt (X : World) (r : Nat) (n : ByteArray) (t : Int) (v : Value) : Prop := X.cell? ⟨r, 0, none⟩ = some (.string n) ∧ X.cell? ⟨r, 1, none⟩ = some (.int .u8 t) ∧ X.cell? ⟨r, 2, none⟩ = some v
theorem ValAt.below {X Y : World} {r : Nat} {n : ByteArray} {t : Int} {v : Value} (h : ValAt X r n t v) (hb : Below X.heap.size X Y) : ValAt Y r n t v :=
  ⟨(hb.cell (World.block_lt_of_cell? X _ h.1)).trans h.1, (hb.cell (World.block_lt_of_cell? X _ h.2.1)).trans h.2.1, (hb.cell (World.block_lt_of_cell? X _ h.2.2)).trans h.2.2⟩
theorem ValAt.new (X : World) (n : ByteArray) (t : Int) (v : Value) : ValAt (X.alloc (.cells #[.string n, .int .u8 t, v] 33)) X.heap.size n t v := by
  refine ⟨?_, ?_, ?_⟩ <;> simp
theorem one_new (w : World) (o : Obj) : Below w.heap.size w (w.alloc o) := (Below.refl _ _).alloc (Nat.le_refl _) o

theorem find_map (ps : List (Val × Value)) (name : ByteArray) : (ps.find? fun p => p.1.name.toList == name.toList).map Prod.fst = (ps.map Prod.fst).find? (named name) := by
  rw [List.find?_map]; rfl

theorem values_int (a : Option Addr) (len cap b off : Nat) (N : Nat → ByteArray) (T : Nat → Int) (A : Nat → Option Addr) (L C : Nat → Nat) (D : Nat → List Int) (w : World) (h : Elems w a len b off N T A L C D) (hs : Small len L) (LO HI : Int) (lo hi : Nat) (h1 : LO = (lo : Int)) (h2 : HI = (hi : Int)) (h3 : lo ≤ hi) (h4 : hi ≤ len) :
    Calls Try.prog 9 #[.slice a len cap, .int .i64 LO, .int .i64 HI] w fun e w' => ∃ v base ps, e = .returned v ∧ Doc w' base v ps ∧ ps.map Prod.fst = valsOf N T A D lo (hi - lo) ∧ Below w.heap.size w w' := by
  subst h1 h2
  refine (values_any a len cap b off N T A L C D w h hs lo hi h3 h4).mono ?_
  rintro e w' ⟨v, rfl, ps, h5, h6, h7, _⟩
  exact ⟨v, _, ps, rfl, h5, h6, h7⟩

theorem values_full (a : Option Addr) (len cap b off : Nat) (N : Nat → ByteArray) (T : Nat → Int) (A : Nat → Option Addr) (L C : Nat → Nat) (D : Nat → List Int) (w : World) (h : Elems w a len b off N T A L C D) (hs : Small len L) (LO HI : Int) (lo hi : Nat) (h1 : LO = (lo : Int)) (h2 : HI = (hi : Int)) (h3 : lo ≤ hi) (h4 : hi ≤ len) :
    Calls Try.prog 9 #[.slice a len cap, .int .i64 LO, .int .i64 HI] w fun e w' => ∃ v ps, e = .returned v ∧ Doc w' w.heap.size v ps ∧ ps.map Prod.fst = valsOf N T A D lo (hi - lo) ∧ Below w.heap.size w w' ∧ ∀ p ∈ ps, Over w.heap.size p.2 := by
  subst h1 h2
  refine (values_any a len cap b off N T A L C D w h hs lo hi h3 h4).mono ?_
  rintro e w' ⟨v, rfl, ps, h5, h6, h7, h8⟩
  exact ⟨v, ps, rfl, h5, h6, h7, h8⟩

theorem newDoc_doc {w : World} {base : Nat} {v : Value} {ps : List (Val × Value)} (h : Doc w base v ps) :
    Calls Try.prog 8 #[v] w fun e w' => ∃ o l c, v = .slice o l c ∧ e = .returned (.agg #[.slice o l c]) ∧ ∃ x, w' = w.alloc x := by
  obtain ⟨o, g, c, rfl, _⟩ := h.form
  refine (newDoc_any o ps.length c w).mono ?_
  rintro e w' ⟨rfl, x, rfl⟩
  exact ⟨_, _, _, rfl, rfl, _, rfl⟩

/-- A document laid in a variable of its own. -/
theorem docAt_new {w : World} {base o l c} {ps : List (Val × Value)} (h : Doc w base (.slice o l c) ps) (x : Obj) : DocAt ((w.alloc x).alloc (.cells #[.slice o l c] 28)) (w.heap.size + 1) (ps.map Prod.fst) :=
  ⟨o, l, c, base, ps, by simp, h.below (two_new w _ _), rfl⟩

theorem look_at {X : World} {o : Option Addr} {l c base : Nat} {ps : List (Val × Value)} {vals : List Val} (name : ByteArray) (h : Doc X base (.slice o l c) ps) (hv : ps.map Prod.fst = vals) (hn : vals.length ≤ 16777216) :
    Calls Try.prog 10 #[.agg #[.slice o l c], .string name] X fun e w' => ∃ n t o l c b, e = .returned (.tuple #[.agg #[.string n, .int .u8 t, .slice o l c], .bool b]) ∧ Res w' n t (.slice o l c) b (vals.find? (named name)) ∧ Below X.heap.size X w' := by
  subst hv
  refine (lookup_doc name h (by simpa using hn)).mono ?_
  rintro e w' ⟨rfl, hb⟩
  rw [← find_map]
  cases hf : ps.find? (fun p => p.1.name.toList == name.toList) with
  | none => exact ⟨_, _, _, _, _, _, rfl, ⟨rfl, rfl, rfl, rfl⟩, hb⟩
  | some p =>
    have hm : p ∈ ps := List.mem_of_find?_eq_some hf
    have hB := (h.2 p hm).any.below hb
    obtain ⟨val, v⟩ := p
    obtain ⟨o', c', e, _⟩ := id hB
    simp only at e
    subst e
    exact ⟨_, _, _, _, _, _, rfl, ⟨rfl, rfl, rfl, hB⟩, hb⟩

theorem valsOf_split (N : Nat → ByteArray) (T : Nat → Int) (A : Nat → Option Addr) (D : Nat → List Int) (q len : Nat) (h : q ≤ len) : valsOf N T A D 0 len = valsOf N T A D 0 q ++ valsOf N T A D q (len - q) := by
  simp only [valsOf]
  rw [show len = q + (len - q) from by omega, List.range_add, List.map_append, List.map_map]
  simp [Function.comp_def]
theorem find_valsOf_none (N : Nat → ByteArray) (T : Nat → Int) (A : Nat → Option Addr) (D : Nat → List Int) (name : ByteArray) (len : Nat) : (valsOf N T A D 0 len).find? (named name) = none ↔ ∀ j, j < len → ((N j).toList == name.toList) = false := by
  rw [List.find?_eq_none]
  constructor
  · intro h j hj
    have := h ⟨N j, T j, (A j).isNone, D j⟩ (by simp only [valsOf, List.mem_map, List.mem_range]; exact ⟨j, hj, by simp⟩)
    simpa [named] using this
  · intro h v hv
    simp only [valsOf, List.mem_map, List.mem_range] at hv
    obtain ⟨j, hj, rfl⟩ := hv
    have := h j hj
    simpa [named] using this

/-- None of the first 'k' elements bears the name. -/
def NoName (N : Nat → ByteArray) (name : ByteArray) (k : Nat) : Prop := ∀ j, j < k → ((N j).toList == name.toList) = false
theorem NoName.next {N : Nat → ByteArray} {name : ByteArray} {k : Nat} (h : NoName N name k) (hm : ((N k).toList == name.toList) = false) : NoName N name (k + 1) := by
  intro j hj
  by_cases e : j = k
  · subst e; exact hm
  · exact h j (by omega)

theorem data_len {w : World} {a : Option Addr} {len b off : Nat} {N : Nat → ByteArray} {T : Nat → Int} {A : Nat → Option Addr} {L C : Nat → Nat} {D : Nat → List Int} (h : Elems w a len b off N T A L C D) (hS : Small len L) (j : Nat) (hj : j < len) : (D j).length ≤ 1048576 := by
  obtain ⟨_, _, e, _⟩ := h.bytes j hj
  simp at e
  have := hS.2 j hj
  omega
theorem val_len {N : Nat → ByteArray} {T : Nat → Int} {A : Nat → Option Addr} {D : Nat → List Int} {len lo n : Nat} (hD : ∀ j, j < len → (D j).length ≤ 1048576) (hl : lo + n ≤ len) {v : Val} (hv : v ∈ valsOf N T A D lo n) : v.data.length ≤ 1048576 := by
  simp only [valsOf, List.mem_map, List.mem_range] at hv
  obtain ⟨j, hj, rfl⟩ := hv
  exact hD _ (by omega)

/-- Two values that are the same. -/
def Twin (Z : World) (v1 v2 : Value) : Prop := ∃ nl D', Bytes Z none v1 nl D' ∧ Bytes Z none v2 nl D' ∧ D'.length ≤ 1048576

theorem three {Z : World} {N : Nat → ByteArray} {T : Nat → Int} {A : Nat → Option Addr} {D : Nat → List Int} {len q : Nat} {name : ByteArray} (hq : q ≤ len) (hD : ∀ j, j < len → (D j).length ≤ 1048576) {n1 n2 n3 : ByteArray} {t1 t2 t3 : Int} {v1 v2 v3 : Value} {bw bf bb : Bool}
    (R1 : Res Z n1 t1 v1 bw ((valsOf N T A D 0 (len - 0)).find? (named name))) (R2 : Res Z n2 t2 v2 bf ((valsOf N T A D 0 (q - 0)).find? (named name))) (R3 : Res Z n3 t3 v3 bb ((valsOf N T A D q (len - q)).find? (named name))) :
    (bw = true ∧ bf = true ∧ n2 = n1 ∧ t2 = t1 ∧ (n1.toList == name.toList) = true ∧ Twin Z v1 v2 ∧ ¬ NoName N name len) ∨
    (bw = true ∧ bf = false ∧ bb = true ∧ n3 = n1 ∧ t3 = t1 ∧ (n1.toList == name.toList) = true ∧ Twin Z v1 v3 ∧ ¬ NoName N name len) ∨
    (bw = false ∧ bf = false ∧ bb = false ∧ n1 = ByteArray.empty ∧ t1 = 0 ∧ v1 = .slice none 0 0 ∧ NoName N name len) := by
  rw [Nat.sub_zero] at R1 R2
  have hnn := find_valsOf_none N T A D name len
  rw [valsOf_split N T A D q len hq, List.find?_append] at R1 hnn
  cases hf : (valsOf N T A D 0 q).find? (named name) with
  | some val =>
    rw [hf] at R1 R2 hnn
    simp only [Option.some_or] at R1 hnn
    obtain ⟨rfl, rfl, rfl, b1⟩ := R1
    obtain ⟨rfl, rfl, rfl, b2⟩ := R2
    have hm := List.find?_some hf
    have hl := val_len hD (by omega : 0 + q ≤ len) (List.mem_of_find?_eq_some hf)
    exact .inl ⟨rfl, rfl, rfl, rfl, hm, ⟨_, _, b1, b2, hl⟩, fun h => by have := hnn.2 h; cases this⟩
  | none =>
    rw [hf] at R1 R2 hnn
    simp only [Option.none_or] at R1 hnn
    obtain ⟨rfl, rfl, rfl, rfl⟩ := R2
    cases hb : (valsOf N T A D q (len - q)).find? (named name) with
    | some val =>
      rw [hb] at R1 R3 hnn
      obtain ⟨rfl, rfl, rfl, b1⟩ := R1
      obtain ⟨rfl, rfl, rfl, b2⟩ := R3
      have hm := List.find?_some hb
      have hl := val_len hD (by omega : q + (len - q) ≤ len) (List.mem_of_find?_eq_some hb)
      exact .inr (.inl ⟨rfl, rfl, rfl, rfl, rfl, hm, ⟨_, _, b1, b2, hl⟩, fun h => by have := hnn.2 h; cases this⟩)
    | none =>
      rw [hb] at R1 R3 hnn
      obtain ⟨rfl, rfl, rfl, rfl⟩ := R1
      obtain ⟨rfl, rfl, rfl, rfl⟩ := R3
      exact .inr (.inr ⟨rfl, rfl, rfl, rfl, rfl, rfl, hnn.1 rfl⟩)
end Go.Proofs.Qxb6630272a
