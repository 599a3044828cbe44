import Derived.Test.Qxb6630272aSizes
import Derived.Lib.SliceRun
namespace Go.Proofs.Qxb6630272a
open Go.RowKit Go.Lib

theorem info5_parts : ∃ i, Try.prog.info? 5 = some i ∧ i.zero = some (.int .u8 0) ∧ i.size = 1 ∧ i.bytes = 1 := info_parts Try.info5

theorem Bytes.below {w w' : World} {row : Option Nat} {v : Value} {nl : Bool} {D : List Int} (h : Bytes w row v nl D) (hb : Below w.heap.size w w') : Bytes w' row v nl D := by
  obtain ⟨ao, cap, h1, h2, h3⟩ := h
  refine ⟨ao, cap, h1, h2, fun hp => ?_⟩
  obtain ⟨g, off, h4, h5, h6⟩ := h3 hp
  exact ⟨g, off, h4, h5, fun i hi => (hb.cell (World.block_lt_of_cell? w _ (h6 i hi))).trans (h6 i hi)⟩
theorem Bytes.any {w : World} {row : Option Nat} {v : Value} {nl : Bool} {D : List Int} (h : Bytes w row v nl D) : Bytes w none v nl D := by
  obtain ⟨ao, cap, h1, h2, h3⟩ := h
  refine ⟨ao, cap, h1, h2, fun hp => ?_⟩
  obtain ⟨g, off, h4, h5, h6⟩ := h3 hp
  exact ⟨g, off, h4, by simp, h6⟩
/-- Behind a write to the block 'row', or to new ones. -/
theorem Bytes.grown {w w' : World} {row row' : Option Nat} {v : Value} {nl : Bool} {D : List Int} (h : Bytes w row v nl D) (hg : w.grownBy w' row) (hr : row' = row ∨ row' = some w.heap.size) : Bytes w' row' v nl D := by
  obtain ⟨ao, cap, h1, h2, h3⟩ := h
  refine ⟨ao, cap, h1, h2, fun hp => ?_⟩
  obtain ⟨g, off, h4, h5, h6⟩ := h3 hp
  refine ⟨g, off, h4, ?_, fun i hi => hg.cell (h6 i hi) h5⟩
  rcases hr with rfl | rfl
  · exact h5
  · have := World.block_lt_of_cell? w _ (h6 0 hp)
    intro e; simp at e; simp only at this; omega

/-- The copy's row: the first 'k' bytes are there. -/
def Cp (w wr : World) (n : Nat) (D : List Int) (k : Nat) : Prop :=
  ∃ xs, wr.ownsRow w.heap.size 5 1 (.slice (some ⟨w.heap.size, 0, none⟩) n n) n xs ∧ (∀ j, j < k → xs[j]? = some (.int .u8 (D.getD j 0))) ∧ Below w.heap.size w wr
theorem Cp.step {w wr : World} {n : Nat} {D : List Int} {k : Nat} (h : Cp w wr n D k) (hk : k < n) (d : Int) (hd : d = D.getD k 0) : Cp w (wr.setCell ⟨w.heap.size, k, none⟩ (.int .u8 d)) n D (k + 1) := by
  obtain ⟨xs, h1, h2, h3⟩ := h
  have hl : xs.length = n := by simpa using h1.1
  obtain ⟨r1, r2⟩ := h1.stored k (.int .u8 d)
  refine ⟨_, r1, fun j hj => ?_, h3.grown r2 h3.size (by intro q hq; simp at hq; omega)⟩
  by_cases e : j = k
  · subst e; rw [List.getElem?_set_self (by omega), hd]
  · rw [List.getElem?_set_ne (by omega)]; exact h2 j (by omega)
theorem Cp.cell {w wr : World} {n : Nat} {D : List Int} {k : Nat} (h : Cp w wr n D k) (hk : k < n) : ∃ u, wr.cell? ⟨w.heap.size, k, none⟩ = some u ∧ wr.frozen? ⟨w.heap.size, k, none⟩ = false := by
  obtain ⟨xs, h1, _, _⟩ := h
  have hl : xs.length = n := by simpa using h1.1
  refine ⟨xs[k], ?_, h1.frozenAt k⟩
  rw [h1.cellAt k (by omega)]; simp [hl, hk]
theorem Cp.bytes {w wr : World} {D : List Int} (h : Cp w wr D.length D D.length) (row : Option Nat) (hr : ∀ k, row = some k → k < w.heap.size) : Bytes wr row (.slice (some ⟨w.heap.size, 0, none⟩) D.length D.length) false D ∧ Below w.heap.size w wr := by
  obtain ⟨xs, h1, h2, h3⟩ := h
  refine ⟨⟨_, _, rfl, rfl, fun _ => ⟨w.heap.size, 0, rfl, ?_, fun i hi => ?_⟩⟩, h3⟩
  · intro e; have := hr _ e.symm; omega
  · rw [Nat.zero_add, h1.cellAt i (by omega)]; exact h2 i hi

theorem clone_nil (c : Nat) (w : World) : Calls Try.prog 16 #[.slice none 0 c] w fun e w' => e = .returned (.slice none 0 0) ∧ w' = w := by
  have hn := fun w a l c => Lib.run_eql_slice_nil (P := Try.prog) w 31 5 a l c 0 0 Try.underlying31
  go_enter Try.func16, Try.ntmps16
  go_wp2
  go_ret
  exact ⟨rfl, rfl⟩

set_option maxHeartbeats 1000000 in
theorem clone_some (x : Addr) (cap : Nat) (D : List Int) (w : World) (hb : D.length ≤ 1048576) (h : 0 < D.length → ∃ g off, x = ⟨g, off, none⟩ ∧ ∀ i, i < D.length → w.cell? ⟨g, off + i, none⟩ = some (.int .u8 (D.getD i 0))) :
    Calls Try.prog 16 #[.slice (some x) D.length cap] w fun e w' => e = .returned (.slice (some ⟨w.heap.size, 0, none⟩) D.length D.length) ∧ Cp w w' D.length D D.length := by
  obtain ⟨i, hi, hz0, hz1, hz2⟩ := info5_parts
  have hn := fun w a l c => Lib.run_eql_slice_nil (P := Try.prog) w 31 5 a l c 0 0 Try.underlying31
  obtain ⟨n, hnd⟩ : ∃ n, n = D.length := ⟨_, rfl⟩
  rw [← hnd] at hb h ⊢
  have HN : Hid (n = D.length) := hnd
  clear hnd
  go_enter Try.func16, Try.ntmps16
  go_wp2_with (first | (at_make; refine wpList_make_full _ rfl _ _ 31 rfl w.heap.size 5 i (.int .u8 0) 1 Try.underlying31 hi hz0 hz1 _ _ _ _ n rfl rfl rfl rfl (by rw [hz2]; omega) (by unfold maxLen; omega) (Nat.le_refl _) ?_; intro w1 hown hgrow; have C0 : Cp w w1 n D 0 := ⟨_, hown, fun j hj => absurd hj (Nat.not_lt_zero j), (Below.refl _ _).grown hgrow (Nat.le_refl _) (by simp)⟩; clear hown hgrow))
  go_loopw [4] (fun i wr => ∃ k : Nat, k ≤ n ∧ i = .int .i64 k ∧ Cp w wr n D k) (fun i _ => n - (intOf i).toNat)
  case atStart => exact ⟨0, Nat.zero_le _, rfl, C0⟩
  case round =>
    obtain ⟨k, hk, rfl, hC⟩ := hrel
    by_cases hlt : k < n
    · obtain ⟨g, off, rfl, hc⟩ := h (by omega)
      obtain ⟨d, hd⟩ : ∃ d, d = D.getD k 0 := ⟨_, rfl⟩
      have d1 : wr.cell? ⟨g, off + k, none⟩ = some (.int .u8 d) := by
        obtain ⟨_, _, _, hB⟩ := hC
        rw [hd, ← hc k hlt]
        exact hB.cell (World.block_lt_of_cell? w _ (hc k hlt))
      have HD : Hid (d = D.getD k 0) := hd
      obtain ⟨u, hu, hf⟩ := hC.cell hlt
      have HC : Hid (Cp w wr n D k) := hC
      clear hd hC hc C0
      go_wp2
      go_roundw
      case rel => exact ⟨k + 1, by omega, by go_num, HC.out.step hlt d HD.out⟩
      case measure => simp [intOf]; omega
    · obtain rfl : k = n := by omega
      go_wp2
      go_ret
      exact ⟨rfl, hC⟩
end Go.Proofs.Qxb6630272a
