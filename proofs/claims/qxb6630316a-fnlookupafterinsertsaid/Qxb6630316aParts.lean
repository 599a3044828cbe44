import Derived.Test.Qxb6630316aRows
import Derived.WalkKit
import Derived.WalkSpells
import Derived.Outline
import Derived.Below
import Derived.WalkSmall
import Derived.Maps.AppendAt
namespace Go.Proofs.Qxb6630316a
open Go.RowKit Go.Lib

/-- A slice of one-cell elements that came in: element i holds 'F i'. -/
structure Row (w : World) (a : Option Addr) (len b off : Nat) (F : Nat → Value) : Prop where
  addr : 0 < len → a = some ⟨b, off, none⟩
  cell : ∀ i, i < len → w.cell? ⟨b, off + i, none⟩ = some (F i)
theorem Row.below {w w' : World} {a : Option Addr} {len b off : Nat} {F : Nat → Value} (h : Row w a len b off F) (hb : Below w.heap.size w w') : Row w' a len b off F :=
  ⟨h.addr, fun i hi => (hb.cell (World.block_lt_of_cell? w _ (h.cell i hi))).trans (h.cell i hi)⟩
/-- A slice of strings. -/
abbrev Strs (w : World) (a : Option Addr) (len b off : Nat) (K : Nat → ByteArray) : Prop := Row w a len b off fun i => .string (K i)
/-- Each string is of a length that Go knows. -/
def Lens (len : Nat) (K : Nat → ByteArray) : Prop := ∀ i, i < len → (K i).size ≤ 9223372036854775807

/-- A bool comes back. -/
def Says (e : Ending) : Prop := ∃ b : Bool, e = .returned (.bool b)
theorem says (b : Bool) : Says (.returned (.bool b)) := ⟨b, rfl⟩

/-- A bool comes back; where it is true, 'P' holds. -/
def SaysIf (e : Ending) (P : Prop) : Prop := ∃ b : Bool, e = .returned (.bool b) ∧ (b = true → P)
theorem saysNo (P : Prop) : SaysIf (.returned (.bool false)) P := ⟨false, rfl, fun h => by cases h⟩
theorem saysYes {P : Prop} (h : P) : SaysIf (.returned (.bool true)) P := ⟨true, rfl, fun _ => h⟩
/-- The first 'k' strings are of at most 1048576 bytes. -/
def Upto (k : Nat) (K : Nat → ByteArray) : Prop := ∀ i, i < k → (K i).size ≤ 1048576
theorem Upto.zero (K : Nat → ByteArray) : Upto 0 K := fun i hi => absurd hi (Nat.not_lt_zero i)
theorem Upto.next {k : Nat} {K : Nat → ByteArray} (h : Upto k K) (hk : (K k).size ≤ 1048576) : Upto (k + 1) K := fun i hi => by
  by_cases e : i = k
  · subst e; exact hk
  · exact h i (by omega)

/-- The value of the last member that bears the key. -/
def lastF (key : ByteArray) (ms : List (ByteArray × Option Addr)) : Option Addr := ms.foldl (fun acc m => if (m.1.toList == key.toList) = true then m.2 else acc) none
def memsOf (K : Nat → ByteArray) (V : Nat → Option Addr) (n : Nat) : List (ByteArray × Option Addr) := (List.range n).map fun i => (K i, V i)
def lastAt (K : Nat → ByteArray) (V : Nat → Option Addr) (key : ByteArray) (n : Nat) : Option Addr := lastF key (memsOf K V n)
theorem memsOf_succ (K : Nat → ByteArray) (V : Nat → Option Addr) (n : Nat) : memsOf K V (n + 1) = memsOf K V n ++ [(K n, V n)] := by simp [memsOf, List.range_succ]
theorem lastAt_succ (K : Nat → ByteArray) (V : Nat → Option Addr) (key : ByteArray) (n : Nat) : lastAt K V key (n + 1) = if ((K n).toList == key.toList) = true then V n else lastAt K V key n := by
  simp only [lastAt, lastF, memsOf_succ, List.foldl_append]
  simp
theorem lastAt_zero (K : Nat → ByteArray) (V : Nat → Option Addr) (key : ByteArray) : lastAt K V key 0 = none := rfl

theorem lookup_nil (key : ByteArray) (w : World) : Calls Try.prog 6 #[.pointer none, .string key] w fun e w' => e = .returned (.pointer none) ∧ w' = w := by
  go_enter Try.func6, Try.ntmps6
  go_wp2
  go_ret
  exact ⟨rfl, rfl⟩

theorem ret_ptr {a b : Option Addr} (h : a = b) : Ending.returned (.pointer a) = .returned (.pointer b) := by rw [h]

set_option maxHeartbeats 400000 in
theorem lookup_any (key : ByteArray) (w : World) (p n g c : Nat) (o : Option Addr) (K : Nat → ByteArray) (V : Nat → Option Addr) (hn : n ≤ 16777216) (hp : w.cell? ⟨p, 3, none⟩ = some (.slice o n c)) (ho : 0 < n → o = some ⟨g, 0, none⟩)
    (hc : ∀ i, i < n → w.cell? ⟨g, i * 4, none⟩ = some (.string (K i)) ∧ w.cell? ⟨g, i * 4 + 2, none⟩ = some (.pointer (V i))) :
    Calls Try.prog 6 #[.pointer (some ⟨p, 0, none⟩), .string key] w fun e w' => e = .returned (.pointer (lastAt K V key n)) ∧ w' = w := by
  go_enter Try.func6, Try.ntmps6
  go_wp2
  go_loop [5] (fun i => ∃ k : Nat, k ≤ n ∧ i = .int .i64 ((k : Int) - 1) ∧ Hid (lastAt K V key n = lastAt K V key k)) (fun i => (intOf i + 1).toNat)
  case atStart => exact ⟨n, Nat.le_refl _, rfl, rfl⟩
  case round =>
    obtain ⟨k, hk, rfl, hl⟩ := hrel
    cases k with
    | zero =>
      go_wp2
      go_ret
      exact ⟨ret_ptr (by rw [hl.out]; rfl), rfl⟩
    | succ j =>
      obtain rfl := ho (by omega)
      rw [show ((j + 1 : Nat) : Int) - 1 = (j : Int) from by omega]
      obtain ⟨c1, c2⟩ := hc j (by omega)
      have hs := lastAt_succ K V key j
      by_cases hm : ((K j).toList == key.toList) = true
      · have HL : Hid (V j = lastAt K V key n) := by rw [if_pos hm] at hs; exact (hl.out.trans hs).symm
        clear hs hl
        go_wp2
        go_ret
        exact ⟨ret_ptr HL.out, rfl⟩
      · have HL : Hid (lastAt K V key n = lastAt K V key j) := by rw [if_neg hm] at hs; exact hl.out.trans hs
        clear hs hl
        go_wp2
        go_round
        case rel => exact ⟨j, by omega, rfl, HL⟩
        case measure => simp [intOf]
end Go.Proofs.Qxb6630316a
