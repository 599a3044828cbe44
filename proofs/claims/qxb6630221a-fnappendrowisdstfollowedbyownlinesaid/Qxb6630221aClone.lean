import Derived.Test.Qxb6630221aParts
import Derived.Laws.CopyOwn
import Derived.Lib.SliceRun
namespace Go.Proofs.Qxb6630221a
open Go.RowKit Go.Lib

/-- Bytes as cells. -/
def u8s (zs : List Int) : List Value := zs.map (Value.int .u8)

theorem own_form {w : World} {base n : Nat} {g : Nat} {c : Nat} {xs : List Value} (h : w.ownsRow base 5 1 (.slice (some ⟨g, 0, none⟩) n c) n xs) :
    ∃ cur : Array Value, w.heap[g]? = some (.cells cur 5 (0, 0)) ∧ n ≤ c ∧ c ≤ maxLen ∧ cur.size = c ∧ cur.toList.take n = xs ∧ base ≤ g := by
  rcases h.2 with ⟨h2, _⟩ | ⟨g', c', cur, h2, hb, hg, h3, h4, h5, h6⟩
  · simp at h2
  · simp at h2
    obtain ⟨rfl, rfl⟩ := h2
    exact ⟨cur, hg, h3, h4, by simpa using h5, by simpa using h6, hb⟩

theorem clone_nil (w : World) : Calls Try.prog 6 #[.slice none 0 0] w fun e w' => e = .returned (.slice none 0 0) ∧ w' = w := by
  have hn := fun w a l c => Lib.run_eql_slice_nil (P := Try.prog) w 22 5 a l c 0 0 Try.underlying22
  go_enter Try.func6, Try.ntmps6
  go_wp2_with fail
  go_ret
  exact ⟨rfl, rfl⟩

theorem u8s_one (zs : List Int) : ∀ v ∈ u8s zs, v.oneCell' = true := by
  intro v hv
  simp only [u8s, List.mem_map] at hv
  obtain ⟨_, _, rfl⟩ := hv
  rfl
theorem u8s_length (zs : List Int) : (u8s zs).length = zs.length := by simp [u8s]

/-- What 'make' and 'copy' leave. -/
theorem clone_parts (x : Addr) (len cap : Nat) (zs : List Int) (w : World) (hl : len ≤ cap) (hz : zs.length = cap) (hc : ∀ i, i < zs.length → w.cell? (x.add i) = some (.int .u8 (zs.getD i 0)))
    (w1 : World) (xs : List Value) (hown : w1.ownsRow w.heap.size 5 1 (.slice (some ⟨w.heap.size, 0, none⟩) len len) len xs) (hgrow : w.grownBy w1 none) :
    ∃ cur : Array Value, w1.heap[w.heap.size]? = some (.cells cur 5 (0, 0)) ∧ cur.size = len ∧ (u8s (zs.take len)).length = len ∧ (∀ j v, (u8s (zs.take len))[j]? = some v → w1.cell? (x.add j) = some v) ∧
      Full (w1.setRow w.heap.size (cur.toList.take 0 ++ u8s (zs.take len) ++ cur.toList.drop (0 + (u8s (zs.take len)).length)).toArray) (.slice (some ⟨w.heap.size, 0, none⟩) len len) (u8s (zs.take len)) ∧
      Below w.heap.size w (w1.setRow w.heap.size (cur.toList.take 0 ++ u8s (zs.take len) ++ cur.toList.drop (0 + (u8s (zs.take len)).length)).toArray) := by
  obtain ⟨cur, hg, _, _, hcs, _, _⟩ := own_form hown
  have hB : Below w.heap.size w w1 := (Below.refl _ _).grown hgrow (Nat.le_refl _) (by simp)
  have hlen : (u8s (zs.take len)).length = len := by simp [u8s]; omega
  refine ⟨cur, hg, hcs, hlen, ?_, ?_, below_setRow hB (Nat.le_refl _) _⟩
  · intro j v hv
    have hj : j < len := by
      have h := (List.getElem?_eq_some_iff.1 hv).1
      omega
    have hcj := hc j (by omega)
    have h1 : w1.cell? (x.add j) = w.cell? (x.add j) := hB.cell (World.block_lt_of_cell? w _ hcj)
    rw [h1, hcj]
    have h2 : zs[j]? = some zs[j] := List.getElem?_eq_getElem (by omega)
    simp [u8s, hj, h2] at hv
    subst hv
    simp [List.getD, h2]
  · refine .inr ⟨w.heap.size, by rw [hlen], ?_⟩
    have e : (cur.toList.take 0 ++ u8s (zs.take len) ++ cur.toList.drop (0 + (u8s (zs.take len)).length)) = u8s (zs.take len) := by
      rw [hlen, List.drop_of_length_le (by simp; omega)]; simp
    rw [e]
    exact setRow_heap w1 w.heap.size cur _ 5 _ hg

set_option maxHeartbeats 400000 in
theorem clone_some (x : Addr) (len cap : Nat) (zs : List Int) (w : World) (hl : len ≤ cap) (hz : zs.length = cap) (hb : len ≤ 1048576) (hc : ∀ i, i < zs.length → w.cell? (x.add i) = some (.int .u8 (zs.getD i 0))) :
    Calls Try.prog 6 #[.slice (some x) len cap] w fun e w' => ∃ v, e = .returned v ∧ Full w' v (u8s (zs.take len)) ∧ Below w.heap.size w w' := by
  obtain ⟨i, hi, hz0, hz1, hz2⟩ := info5_parts
  have hn := fun w a l c => Lib.run_eql_slice_nil (P := Try.prog) w 22 5 a l c 0 0 Try.underlying22
  have hsz : (Try.prog.info? 5).map (·.size) = some 1 := by rw [hi]; simp [hz1]
  go_enter Try.func6, Try.ntmps6
  go_wp2_with (first | (at_make; refine wpList_make_full _ rfl _ _ 22 rfl w.heap.size 5 i (.int .u8 0) 1 Try.underlying22 hi hz0 hz1 _ _ _ _ len rfl rfl rfl rfl (by rw [hz2]; omega) (by unfold maxLen; omega) (Nat.le_refl _) ?_; intro w1 hown hgrow; obtain ⟨cur, p1, p2, p3, p4, p5, p6⟩ := clone_parts x len cap zs w hl hz hc w1 _ hown hgrow; clear hown hgrow))
  have hr := run_copy_row (P := Try.prog) w1 22 22 3 5 w.heap.size 0 len len x len cap cur 5 (u8s (zs.take len)) Try.underlying22 hsz p1 (by rw [p3]; simp) p4 (by omega) (u8s_one _)
  rw [hr]
  clear hr
  generalize w1.setRow w.heap.size _ = w2 at *
  clear p4 p1
  go_wp2_with fail
  go_ret
  exact ⟨_, rfl, p5, p6⟩

/-- A slice of bytes that came in. -/
def Came (w : World) (a : Option Addr) (len cap : Nat) (zs : List Int) : Prop :=
  (a = none ∧ len = 0 ∧ cap = 0 ∧ zs = []) ∨
  ∃ x, a = some x ∧ len ≤ cap ∧ cap ≤ maxLen ∧ zs.length = cap ∧ (∀ i, i < zs.length → w.cell? (x.add i) = some (.int .u8 (zs.getD i 0))) ∧ ∀ n ∈ zs, (Lit.int .u8 n).wf = true
theorem Came.keep {w w' : World} {a : Option Addr} {len cap : Nat} {zs : List Int} (h : Came w a len cap zs) (hb : Below w.heap.size w w') : Came w' a len cap zs := by
  rcases h with h | ⟨x, h1, h2, h3, h4, h5, h6⟩
  · exact .inl h
  · exact .inr ⟨x, h1, h2, h3, h4, fun i hi => (hb.cell (World.block_lt_of_cell? w _ (h5 i hi))).trans (h5 i hi), h6⟩
theorem Came.len {w : World} {a : Option Addr} {len cap : Nat} {zs : List Int} (h : Came w a len cap zs) : (zs.take len).length = len := by
  rcases h with ⟨_, rfl, _, rfl⟩ | ⟨x, _, h2, _, h4, _⟩
  · rfl
  · simp; omega

theorem clone_any (a : Option Addr) (len cap : Nat) (zs : List Int) (w : World) (h : Came w a len cap zs) (hb : len ≤ 1048576) :
    Calls Try.prog 6 #[.slice a len cap] w fun e w' => ∃ v, e = .returned v ∧ Full w' v (u8s (zs.take len)) ∧ Below w.heap.size w w' := by
  rcases h with ⟨rfl, rfl, rfl, rfl⟩ | ⟨x, rfl, h2, _, h4, h5, _⟩
  · refine (clone_nil w).mono ?_
    rintro e w' ⟨rfl, rfl⟩
    exact ⟨_, rfl, .inl ⟨rfl, rfl⟩, Below.refl _ _⟩
  · exact clone_some x len cap zs w h2 h4 hb h5
end Go.Proofs.Qxb6630221a
