import Derived.Test.Qxb6630272aParts
import Derived.ProofKit
import Derived.OpenShut
import Derived.Deep.Slices
import Derived.Deep.Strs
namespace Go.Proofs.Qxb6630272a
open Go.ChangeShapes Go.WideShapes Go.RowKit Go.Deep

theorem Try.cells37 : Try.prog.cellsOf 37 = 3 := by kernel_rfl
theorem Try.cells9 : Try.prog.cellsOf 9 = 1 := by kernel_rfl
theorem Try.cells5 : Try.prog.cellsOf 5 = 1 := by kernel_rfl
theorem Try.cells31 : Try.prog.cellsOf 31 = 1 := by kernel_rfl

section
variable {H : Type} {enc : TypeId × Value → H} {W : World}

theorem open_bytes {fuel : Nat} {cs : List Value} {x : DataW H × List MemPlace} (h : DataW.trod enc Try.prog W 0 (fun _ => true) true fuel 31 cs = some x) :
    ∃ (o : Option Addr) (l c : Nat) (D : List Int), cs = [.slice o l c] ∧ Bytes W none (.slice o l c) o.isNone D ∧ l ≤ 9223372036854775807 := by
  rcases open_ints Try.underlying31 Try.underlying5 Try.cells5 h with ⟨rfl, _⟩ | ⟨a, len, cap, zs, rfl, _, hl, hm, hz, _, hcell, _⟩
  · exact ⟨none, 0, 0, [], rfl, ⟨none, 0, rfl, rfl, fun h => absurd h (by simp)⟩, by decide⟩
  · simp only [if_true] at hz
    have e : (zs.take len).length = len := by simp; omega
    unfold maxLen at hm
    refine ⟨some a, len, cap, zs.take len, rfl, ⟨some a, cap, by rw [e], rfl, fun hp => ?_⟩, by omega⟩
    rw [e] at hp ⊢
    obtain ⟨b, off, rfl, hc⟩ := ints_at hcell (by omega)
    refine ⟨b, off, rfl, by simp, fun i hi => ?_⟩
    rw [hc i (by omega)]
    simp [List.getD, hi]

theorem open_elem {fuel : Nat} {cs : List Value} {x : DataW H × List MemPlace} (h : DataW.trod enc Try.prog W 0 (fun _ => true) true fuel 37 cs = some x) :
    ∃ (n : ByteArray) (t : Int) (o : Option Addr) (l c : Nat) (D : List Int), cs = [.string n, .int .u8 t, .slice o l c] ∧ Bytes W none (.slice o l c) o.isNone D ∧ n.size ≤ 9223372036854775807 ∧ l ≤ 9223372036854775807 := by
  obtain ⟨y0, y1, y2, n, rfl, hl, h0, h1, h2⟩ := trod_struct3 Try.underlying37 h
  rw [Try.cells37] at hl
  match cs, hl with
  | [c0, c1, c2], _ =>
    simp only [Try.cells9, Try.cells5, Try.cells31] at h0 h1 h2
    obtain ⟨s, e0, _, hs⟩ := DataW.trod_string Try.underlying9 h0
    obtain ⟨t, e1, _, _⟩ := DataW.trod_int Try.underlying5 h1
    obtain ⟨o, l, c, D, e2, hB, hl'⟩ := open_bytes h2
    simp at e0 e1 e2
    subst e0 e1 e2
    exact ⟨s, t, o, l, c, D, rfl, hB, by unfold maxLen at hs; omega, hl'⟩

theorem open_elems {fuel : Nat} {a : Option Addr} {len cap : Nat} {x : DataW H × List MemPlace} (h : DataW.trod enc Try.prog W 0 (fun _ => true) true fuel 22 [.slice a len cap] = some x) :
    ∃ b off N T A L C D, Elems W a len b off N T A L C D ∧ len ≤ 9223372036854775807 := by
  rcases open_slice Try.underlying22 h with ⟨h1, _⟩ | ⟨ad, len', cap', m, n, Dd, Pl, h1, _, hl, hm, hmm, _, hx⟩
  · simp at h1
    obtain ⟨rfl, rfl, rfl⟩ := h1
    exact ⟨0, 0, fun _ => ByteArray.empty, fun _ => 0, fun _ => none, fun _ => 0, fun _ => 0, fun _ => [], { addr := fun h => absurd h (by omega), name := fun i hi => absurd hi (by omega), typ := fun i hi => absurd hi (by omega), data := fun i hi => absurd hi (by omega), bytes := fun i hi => absurd hi (by omega), nameLen := fun i hi => absurd hi (by omega), dataLen := fun i hi => absurd hi (by omega) }, by decide⟩
  · simp at h1
    obtain ⟨rfl, rfl, rfl⟩ := h1
    simp only [if_true] at hmm
    subst hmm
    rw [Try.cells37] at hx
    obtain ⟨F, hF⟩ := choose_lt (α := ByteArray × Int × Option Addr × Nat × Nat × List Int) (n := m)
      (p := fun i f => W.cell? (ad.add (i * 3)) = some (.string f.1) ∧ W.cell? (ad.add (i * 3 + 1)) = some (.int .u8 f.2.1) ∧ W.cell? (ad.add (i * 3 + 2)) = some (.slice f.2.2.1 f.2.2.2.1 f.2.2.2.2.1) ∧
        Bytes W none (.slice f.2.2.1 f.2.2.2.1 f.2.2.2.2.1) f.2.2.1.isNone f.2.2.2.2.2 ∧ f.1.size ≤ 9223372036854775807 ∧ f.2.2.2.1 ≤ 9223372036854775807) (fun i hi => by
        obtain ⟨cs', h1, h2⟩ := hx i hi
        obtain ⟨nm, t, o, l, c, D, rfl, hB, hs, hl'⟩ := open_elem h2
        obtain ⟨_, _, hc⟩ := World.cells?_some h1
        refine ⟨(nm, t, o, l, c, D), ?_, ?_, ?_, hB, hs, hl'⟩
        · have := hc 0 (by omega); simpa [add_add] using this
        · have := hc 1 (by omega); rw [add_add] at this; simpa using this
        · have := hc 2 (by omega); rw [add_add] at this; simpa using this)
    unfold maxLen at hm
    by_cases hp : 0 < len
    · obtain ⟨b, off, spot⟩ := ad
      have hspot : spot = none := by have := World.cell?_spot (hF 0 (by omega)).1; simpa [Addr.add] using this
      subst hspot
      refine ⟨b, off, fun i => (F i).1, fun i => (F i).2.1, fun i => (F i).2.2.1, fun i => (F i).2.2.2.1, fun i => (F i).2.2.2.2.1, fun i => (F i).2.2.2.2.2, { addr := fun _ => rfl, name := fun i hi => ?_, typ := fun i hi => ?_, data := fun i hi => ?_, bytes := fun i hi => (hF i (by omega)).2.2.2.1, nameLen := fun i hi => (hF i (by omega)).2.2.2.2.1, dataLen := fun i hi => (hF i (by omega)).2.2.2.2.2 }, by omega⟩
      · rw [← add_plain]; exact (hF i (by omega)).1
      · rw [Nat.add_assoc, ← add_plain]; exact (hF i (by omega)).2.1
      · rw [Nat.add_assoc, ← add_plain]; exact (hF i (by omega)).2.2.1
    · exact ⟨0, 0, fun _ => ByteArray.empty, fun _ => 0, fun _ => none, fun _ => 0, fun _ => 0, fun _ => [], { addr := fun h => absurd h hp, name := fun i hi => absurd hi (by omega), typ := fun i hi => absurd hi (by omega), data := fun i hi => absurd hi (by omega), bytes := fun i hi => absurd hi (by omega), nameLen := fun i hi => absurd hi (by omega), dataLen := fun i hi => absurd hi (by omega) }, by omega⟩
end
end Go.Proofs.Qxb6630272a
