import Derived.Test.Qxb6630272aVals
namespace Go.Proofs.Qxb6630272a
open Go.RowKit Go.Lib

theorem cellsV_at (ps : List (Val × Value)) (k : Nat) (hk : k < ps.length) :
    (cellsV ps)[k * 3]? = some (.string ps[k].1.name) ∧ (cellsV ps)[k * 3 + 1]? = some (.int .u8 ps[k].1.typ) ∧ (cellsV ps)[k * 3 + 2]? = some ps[k].2 := by
  induction ps generalizing k with
  | nil => simp at hk
  | cons p ps ih =>
    cases k with
    | zero => simp [cellsV]
    | succ k =>
      have h := ih k (by simpa using hk)
      have e : ∀ j, (cellsV (p :: ps))[3 + j]? = (cellsV ps)[j]? := by
        intro j
        simp only [cellsV, List.flatMap_cons]
        rw [List.getElem?_append_right (by simp)]
        simp
      refine ⟨?_, ?_, ?_⟩
      · rw [show (k + 1) * 3 = 3 + k * 3 from by omega, e]; exact h.1
      · rw [show (k + 1) * 3 + 1 = 3 + (k * 3 + 1) from by omega, e]; exact h.2.1
      · rw [show (k + 1) * 3 + 2 = 3 + (k * 3 + 2) from by omega, e]; exact h.2.2

/-- A document's slice, as the walk sees it. -/
theorem Doc.form {w : World} {base : Nat} {v : Value} {ps : List (Val × Value)} (h : Doc w base v ps) :
    ∃ o g c, v = .slice o ps.length c ∧ (0 < ps.length → o = some ⟨g, 0, none⟩) ∧ ∀ k (hk : k < ps.length), g < w.heap.size ∧ w.cell? ⟨g, k * 3, none⟩ = some (.string ps[k].1.name) ∧ w.cell? ⟨g, k * 3 + 1, none⟩ = some (.int .u8 ps[k].1.typ) ∧ w.cell? ⟨g, k * 3 + 2, none⟩ = some ps[k].2 ∧ ∃ o' l' c', ps[k].2 = .slice o' l' c' := by
  rcases h.1.2 with ⟨rfl, h2⟩ | ⟨g, cap, cur, h2, _⟩
  · exact ⟨none, 0, 0, by rw [h2], fun hp => absurd hp (by omega), fun k hk => absurd hk (by omega)⟩
  · subst h2
    refine ⟨_, g, cap, rfl, fun _ => rfl, fun k hk => ?_⟩
    obtain ⟨c1, c2, c3⟩ := cellsV_at ps k hk
    have e1 := h.1.cellAt (k * 3) (by omega)
    have e2 := h.1.cellAt (k * 3 + 1) (by omega)
    have e3 := h.1.cellAt (k * 3 + 2) (by omega)
    obtain ⟨o', c', e, _⟩ := h.2 ps[k] (List.getElem_mem hk)
    exact ⟨(h.1.lt g rfl).2, e1.trans c1, e2.trans c2, e3.trans c3, _, _, _, e⟩

/-- The world inside Lookup's loop: the result's own block is as it was laid. -/
def Lk (w wr : World) : Prop := Below w.heap.size w wr ∧ w.heap.size + 2 ≤ wr.heap.size ∧ wr.heap[w.heap.size + 1]? = some (.cells #[.string ByteArray.empty, .int .u8 0, .slice none 0 0] 33 (0, 0))
theorem Lk.start (w : World) (o : Obj) : Lk w ((w.alloc o).alloc (.cells #[.string ByteArray.empty, .int .u8 0, .slice none 0 0] 33)) := by
  refine ⟨two_new w _ _, by simp, ?_⟩
  have := heap_alloc_new (w.alloc o) (.cells #[.string ByteArray.empty, .int .u8 0, .slice none 0 0] 33)
  simpa using this
theorem Lk.alloc {w wr : World} (h : Lk w wr) (o : Obj) : Lk w (wr.alloc o) := by
  have hs := h.2.1
  refine ⟨h.1.alloc h.1.size o, by simp; omega, ?_⟩
  rw [Below.heap_alloc wr o _ (by omega)]; exact h.2.2
theorem Lk.cells {w wr : World} (h : Lk w wr) : wr.cell? ⟨w.heap.size + 1, 0, none⟩ = some (.string ByteArray.empty) ∧ wr.cell? ⟨w.heap.size + 1, 1, none⟩ = some (.int .u8 0) ∧ wr.cell? ⟨w.heap.size + 1, 2, none⟩ = some (.slice none 0 0) ∧
    wr.frozen? ⟨w.heap.size + 1, 0, none⟩ = false ∧ wr.frozen? ⟨w.heap.size + 1, 1, none⟩ = false ∧ wr.frozen? ⟨w.heap.size + 1, 2, none⟩ = false := by
  have hc := fun j => cell_of_row wr (w.heap.size + 1) j _ 33 (0, 0) h.2.2
  have hf := fun j => frozen_of_row wr (w.heap.size + 1) j _ 33 h.2.2
  exact ⟨hc 0, hc 1, hc 2, hf 0, hf 1, hf 2⟩

/-- What Lookup hands back. -/
def outV : Option (Val × Value) → Value
  | some p => .tuple #[.agg #[.string p.1.name, .int .u8 p.1.typ, p.2], .bool true]
  | none => .tuple #[.agg #[.string ByteArray.empty, .int .u8 0, .slice none 0 0], .bool false]

/-- None of the first 'k' bears the name. -/
def NotYet (ps : List (Val × Value)) (name : ByteArray) (k : Nat) : Prop := ∀ j (h : j < ps.length), j < k → (ps[j].1.name.toList == name.toList) = false
theorem NotYet.next {ps : List (Val × Value)} {name : ByteArray} {k : Nat} (h : NotYet ps name k) (hk : k < ps.length) (hm : (ps[k].1.name.toList == name.toList) = false) : NotYet ps name (k + 1) := by
  intro j hj hjk
  by_cases e : j = k
  · subst e; exact hm
  · exact h j hj (by omega)
theorem find_none (ps : List (Val × Value)) (name : ByteArray) (h : NotYet ps name ps.length) : ps.find? (fun p => p.1.name.toList == name.toList) = none := by
  rw [List.find?_eq_none]
  intro p hp
  obtain ⟨j, hj, rfl⟩ := List.mem_iff_getElem.1 hp
  simp only [h j hj hj, Bool.false_eq_true, not_false_eq_true]
theorem find_at (ps : List (Val × Value)) (name : ByteArray) (k : Nat) (hk : k < ps.length) (h : NotYet ps name k) (hm : (ps[k].1.name.toList == name.toList) = true) : ps.find? (fun p => p.1.name.toList == name.toList) = some ps[k] := by
  rw [List.find?_eq_some_iff_getElem]
  refine ⟨hm, k, hk, rfl, fun j hj => ?_⟩
  simp only [h j (by omega) hj, Bool.not_false]

set_option maxHeartbeats 1000000 in
theorem lookup_any (name : ByteArray) (ps : List (Val × Value)) (o : Option Addr) (g c : Nat) (w : World) (hn : ps.length ≤ 16777216) (ho : 0 < ps.length → o = some ⟨g, 0, none⟩)
    (hc : ∀ k (hk : k < ps.length), g < w.heap.size ∧ w.cell? ⟨g, k * 3, none⟩ = some (.string ps[k].1.name) ∧ w.cell? ⟨g, k * 3 + 1, none⟩ = some (.int .u8 ps[k].1.typ) ∧ w.cell? ⟨g, k * 3 + 2, none⟩ = some ps[k].2 ∧ ∃ o' l' c', ps[k].2 = .slice o' l' c') :
    Calls Try.prog 10 #[.agg #[.slice o ps.length c], .string name] w fun e w' => e = .returned (outV (ps.find? fun p => p.1.name.toList == name.toList)) ∧ Below w.heap.size w w' := by
  obtain ⟨n, hnn⟩ : ∃ n, n = ps.length := ⟨_, rfl⟩
  rw [← hnn] at hn ho ⊢
  have HN : Hid (n = ps.length) := hnn
  clear hnn
  go_enter Try.func10, Try.ntmps10
  go_wp2
  go_loopw [11] (fun i wr => ∃ k : Nat, k ≤ n ∧ i = .int .i64 k ∧ Lk w wr ∧ NotYet ps name k) (fun i _ => n - (intOf i).toNat)
  case atStart => exact ⟨0, Nat.zero_le _, rfl, Lk.start _ _, fun j h hj => absurd hj (Nat.not_lt_zero j)⟩
  case round =>
    obtain ⟨k, hk, rfl, hB, hny⟩ := hrel
    by_cases hlt : k < n
    · obtain rfl := ho (by omega)
      have hk' : k < ps.length := by rw [← HN.out]; exact hlt
      obtain ⟨hg, c1, c2, c3, o', l', c', ev⟩ := hc k hk'
      rw [ev] at c3
      have HF : Hid ((ps[k].1.name.toList == name.toList) = true → ps.find? (fun p => p.1.name.toList == name.toList) = some ps[k]) := fun hm => find_at ps name k hk' hny hm
      have HY : Hid ((ps[k].1.name.toList == name.toList) = false → NotYet ps name (k + 1)) := fun hm => hny.next hk' hm
      have HP : Hid (outV (some ps[k]) = .tuple #[.agg #[.string ps[k].1.name, .int .u8 ps[k].1.typ, .slice o' l' c'], .bool true]) := by show _ = _; rw [← ev]; rfl
      clear hny ev
      generalize ps[k] = p at *
      generalize p.1.name = nm at *
      generalize p.1.typ = ty at *
      obtain ⟨r0, r1, r2, f0, f1, f2⟩ := (hB.alloc (.cells #[.string nm, .int .u8 ty, .slice o' l' c'] 33)).cells
      have s0 := hB.2.1
      have e1 : wr.cell? ⟨g, k * 3, none⟩ = some (.string nm) := (hB.1.cell hg).trans c1
      have e2 : wr.cell? ⟨g, k * 3 + 1, none⟩ = some (.int .u8 ty) := (hB.1.cell hg).trans c2
      have e3 : wr.cell? ⟨g, k * 3 + 2, none⟩ = some (.slice o' l' c') := (hB.1.cell hg).trans c3
      clear c1 c2 c3
      by_cases hm : (nm.toList == name.toList) = true
      · go_wp2
        refine bodyPost_ret (v := .tuple #[.agg #[.string nm, .int .u8 ty, .slice o' l' c'], .bool true]) (by simp [results, Try.results10, go_sem, r0, r1, r2]) rfl ⟨?_, ?_⟩
        · rw [HF.out hm, HP.out]
        · exact (((hB.alloc (.cells #[.string nm, .int .u8 ty, .slice o' l' c'] 33)).1.setCell (by simp) _).setCell (by simp) _).setCell (by simp) _
      · have hm' : (nm.toList == name.toList) = false := by simpa using hm
        clear hm
        go_wp2
        go_roundw
        case rel => exact ⟨k + 1, by omega, by go_num, hB.alloc _, HY.out hm'⟩
        case measure => simp [intOf]; omega
    · obtain ⟨r0, r1, r2, f0, f1, f2⟩ := hB.cells
      have s0 := hB.2.1
      have HF : Hid (ps.find? (fun p => p.1.name.toList == name.toList) = none) := find_none ps name (by have := HN.out; rw [← this, show n = k from by omega]; exact hny)
      clear hny
      go_wp2
      refine bodyPost_ret (v := .tuple #[.agg #[.string ByteArray.empty, .int .u8 0, .slice none 0 0], .bool false]) (by simp [results, Try.results10, go_sem, r0, r1, r2]; rfl) rfl ⟨?_, ?_⟩
      · rw [HF.out]; rfl
      · exact ((hB.1.setCell (by simp) _).setCell (by simp) _).setCell (by simp) _

theorem lookup_doc {w : World} {base : Nat} {v : Value} {ps : List (Val × Value)} (name : ByteArray) (h : Doc w base v ps) (hn : ps.length ≤ 16777216) :
    Calls Try.prog 10 #[.agg #[v], .string name] w fun e w' => e = .returned (outV (ps.find? fun p => p.1.name.toList == name.toList)) ∧ Below w.heap.size w w' := by
  obtain ⟨o, g, c, rfl, h1, h2⟩ := h.form
  exact lookup_any name ps o g c w hn h1 h2
end Go.Proofs.Qxb6630272a
