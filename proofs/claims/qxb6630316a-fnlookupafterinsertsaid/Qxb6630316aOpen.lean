import Derived.Test.Qxb6630316aParts
import Derived.ProofKit
import Derived.OpenShut
import Derived.Deep.Slices
namespace Go.Proofs.Qxb6630316a
open Go.ChangeShapes Go.WideShapes Go.RowKit Go.Deep

section
variable {H : Type} {enc : TypeId × Value → H} {W : World}

/-- A slice of one-cell elements, opened. -/
theorem open_row {t e : TypeId} (ht : Try.prog.underlying t = some (.slice e)) (hc : Try.prog.cellsOf e = 1) {α : Type} [Inhabited α] (f : α → Value) (Q : α → Prop)
    (hel : ∀ n v (x : DataW H × List MemPlace), DataW.trod enc Try.prog W 0 (fun _ => true) true n e [v] = some x → ∃ y, v = f y ∧ Q y)
    {fuel : Nat} {a : Option Addr} {len cap : Nat} {x : DataW H × List MemPlace} (h : DataW.trod enc Try.prog W 0 (fun _ => true) true fuel t [.slice a len cap] = some x) :
    ∃ (b off : Nat) (F : Nat → α), Row W a len b off (fun i => f (F i)) ∧ (∀ i, i < len → Q (F i)) ∧ len ≤ 9223372036854775807 := by
  rcases open_slice1 ht hc h with ⟨h1, _⟩ | ⟨ad, len', cap', m, n, V, Dd, Pl, h1, _, hl, hm, hmm, _, hx⟩
  · simp at h1
    obtain ⟨rfl, rfl, rfl⟩ := h1
    exact ⟨0, 0, fun _ => default, ⟨fun h => absurd h (by omega), fun i hi => absurd hi (by omega)⟩, fun i hi => absurd hi (by omega), by decide⟩
  · simp at h1
    obtain ⟨rfl, rfl, rfl⟩ := h1
    simp only [if_true] at hmm
    subst hmm
    unfold maxLen at hm
    obtain ⟨F, hF⟩ := choose_lt (α := α) (n := m) (p := fun i y => W.cell? (ad.add i) = some (f y) ∧ Q y) (fun i hi => by
      obtain ⟨h1, h2⟩ := hx i hi
      obtain ⟨y, e, hq⟩ := hel n (V i) _ h2
      exact ⟨y, by rw [h1, e], hq⟩)
    by_cases hp : 0 < len
    · obtain ⟨b, off, spot⟩ := ad
      have hspot : spot = none := by have := World.cell?_spot (hF 0 (by omega)).1; simpa [Addr.add] using this
      subst hspot
      exact ⟨b, off, F, ⟨fun _ => rfl, fun i hi => by rw [← add_plain]; exact (hF i (by omega)).1⟩, fun i hi => (hF i (by omega)).2, by omega⟩
    · exact ⟨0, 0, F, ⟨fun h => absurd h hp, fun i hi => absurd hi (by omega)⟩, fun i hi => absurd hi (by omega), by omega⟩

theorem open_strs {fuel : Nat} {a : Option Addr} {len cap : Nat} {x : DataW H × List MemPlace} (h : DataW.trod enc Try.prog W 0 (fun _ => true) true fuel 22 [.slice a len cap] = some x) :
    ∃ b off K, Strs W a len b off K ∧ Lens len K ∧ len ≤ 9223372036854775807 :=
  open_row Try.underlying22 (by kernel_rfl) Value.string (fun s => s.size ≤ 9223372036854775807) (fun n v x hv => by
    obtain ⟨s, e, _, hs⟩ := DataW.trod_string Try.underlying9 hv
    simp at e
    exact ⟨s, e, by unfold maxLen at hs; omega⟩) h
theorem open_i64s {fuel : Nat} {a : Option Addr} {len cap : Nat} {x : DataW H × List MemPlace} (h : DataW.trod enc Try.prog W 0 (fun _ => true) true fuel 23 [.slice a len cap] = some x) :
    ∃ (b off : Nat) (F : Nat → Int), Row W a len b off (fun i => .int .i64 (F i)) ∧ len ≤ 9223372036854775807 := by
  obtain ⟨b, off, F, h1, _, h2⟩ := open_row Try.underlying23 (by kernel_rfl) (Value.int .i64) (fun _ => True) (fun n v x hv => by
    obtain ⟨s, e, _⟩ := DataW.trod_int Try.underlying2 hv
    simp at e
    exact ⟨s, e, trivial⟩) h
  exact ⟨b, off, F, h1, h2⟩
theorem open_bools {fuel : Nat} {a : Option Addr} {len cap : Nat} {x : DataW H × List MemPlace} (h : DataW.trod enc Try.prog W 0 (fun _ => true) true fuel 24 [.slice a len cap] = some x) :
    ∃ (b off : Nat) (F : Nat → Bool), Row W a len b off (fun i => .bool (F i)) ∧ len ≤ 9223372036854775807 := by
  obtain ⟨b, off, F, h1, _, h2⟩ := open_row Try.underlying24 (by kernel_rfl) Value.bool (fun _ => True) (fun n v x hv => by
    obtain ⟨s, e, _⟩ := DataW.trod_bool Try.underlying4 hv
    simp at e
    exact ⟨s, e, trivial⟩) h
  exact ⟨b, off, F, h1, h2⟩
end
end Go.Proofs.Qxb6630316a
