import Derived.Test.Qxb6630272aRows
import Derived.WalkKit
import Derived.WalkSpells
import Derived.Outline
import Derived.Below
import Derived.WalkSmall
import Derived.Maps.AppendAt
import Derived.Deep.RegionHeld3
import Derived.Deep.QuietTactic
import Derived.BigQuiet
namespace Go.Proofs.Qxb6630272a
open Go.RowKit Go.Lib

theorem Try.info33 : (Try.prog.info? 33).map (fun i => (i.zero, i.size, i.bytes)) = some (some (.agg #[.string ByteArray.empty, .int .u8 0, .slice none 0 0]), 3, 48) := by kernel_rfl
theorem Try.info5 : (Try.prog.info? 5).map (fun i => (i.zero, i.size, i.bytes)) = some (some (.int .u8 0), 1, 1) := by kernel_rfl

/-- A slice of bytes (nil or not) that reads as 'D'; its cells do not lie in the block 'row'. -/
def Bytes (w : World) (row : Option Nat) (v : Value) (nl : Bool) (D : List Int) : Prop :=
  ∃ ao cap, v = .slice ao D.length cap ∧ ao.isNone = nl ∧ (0 < D.length → ∃ g off, ao = some ⟨g, off, none⟩ ∧ some g ≠ row ∧ ∀ i, i < D.length → w.cell? ⟨g, off + i, none⟩ = some (.int .u8 (D.getD i 0)))

/-- The elements that came in: names, types, and the bytes of each. -/
structure Elems (w : World) (a : Option Addr) (len b off : Nat) (N : Nat → ByteArray) (T : Nat → Int) (A : Nat → Option Addr) (L C : Nat → Nat) (D : Nat → List Int) : Prop where
  addr : 0 < len → a = some ⟨b, off, none⟩
  name : ∀ i, i < len → w.cell? ⟨b, off + i * 3, none⟩ = some (.string (N i))
  typ : ∀ i, i < len → w.cell? ⟨b, off + i * 3 + 1, none⟩ = some (.int .u8 (T i))
  data : ∀ i, i < len → w.cell? ⟨b, off + i * 3 + 2, none⟩ = some (.slice (A i) (L i) (C i))
  bytes : ∀ i, i < len → Bytes w none (.slice (A i) (L i) (C i)) (A i).isNone (D i)
  nameLen : ∀ i, i < len → (N i).size ≤ 9223372036854775807
  dataLen : ∀ i, i < len → L i ≤ 9223372036854775807

/-- A bool comes back. -/
def Says (e : Ending) : Prop := ∃ b : Bool, e = .returned (.bool b)
theorem says (b : Bool) : Says (.returned (.bool b)) := ⟨b, rfl⟩

set_option maxHeartbeats 400000 in
theorem hasNul_any (s : ByteArray) (w : World) (hs : s.size ≤ 9223372036854775807) : Calls Try.prog 14 #[.string s] w fun e w' => Says e ∧ w' = w := by
  go_enter Try.func14, Try.ntmps14
  go_wp2
  go_loop [3] (fun i => ∃ k : Nat, k ≤ s.size ∧ i = .int .i64 k) (fun i => s.size - (intOf i).toNat)
  case atStart => exact ⟨0, Nat.zero_le _, rfl⟩
  case round =>
    obtain ⟨k, hk, rfl⟩ := hrel
    by_cases hlt : k < s.size
    · go_wp2
      · go_ret; exact ⟨says _, rfl⟩
      · go_round
        case rel => exact ⟨k + 1, by omega, by go_num⟩
        case measure => simp [intOf]; omega
    · go_wp2
      go_ret
      exact ⟨says _, rfl⟩

set_option maxHeartbeats 400000 in
theorem names_any (a : Option Addr) (len cap b off : Nat) (N : Nat → ByteArray) (T : Nat → Int) (A : Nat → Option Addr) (L C : Nat → Nat) (D : Nat → List Int) (w : World) (h : Elems w a len b off N T A L C D) (hl : len ≤ 1048576) :
    Calls Try.prog 7 #[.slice a len cap] w fun e w' => Says e ∧ w' = w := by
  go_enter Try.func7, Try.ntmps7
  go_wp2
  go_loop [3] (fun i => ∃ k : Nat, k ≤ len ∧ i = .int .i64 k) (fun i => len - (intOf i).toNat)
  case atStart => exact ⟨0, Nat.zero_le _, rfl⟩
  case round =>
    obtain ⟨k, hk, rfl⟩ := hrel
    by_cases hlt : k < len
    · obtain rfl := h.addr (by omega)
      have c1 := h.name k hlt
      go_wp2_with fail
      refine (hasNul_any _ _ (h.nameLen k hlt)).mono ?_
      rintro e w' ⟨⟨b, rfl⟩, rfl⟩
      cases b
      · go_wp2
        go_round
        case rel => exact ⟨k + 1, by omega, by go_num⟩
        case measure => simp [intOf]; omega
      · go_wp2
        go_ret
        exact ⟨says _, rfl⟩
    · go_wp2
      go_ret
      exact ⟨says _, rfl⟩

set_option maxHeartbeats 1000000 in
theorem sizeFits_any (a : Option Addr) (len cap b off : Nat) (N : Nat → ByteArray) (T : Nat → Int) (A : Nat → Option Addr) (L C : Nat → Nat) (D : Nat → List Int) (w : World) (h : Elems w a len b off N T A L C D) (hl : len ≤ 1048576) (x : Int) (hx0 : 0 ≤ x) (hx1 : x ≤ 4194304) :
    Calls Try.prog 6 #[.slice a len cap, .int .i64 x] w fun e w' => Says e ∧ ∃ m, w' = w.drewN m := by
  by_cases hx : x ≤ 1048576
  · go_enter Try.func6, Try.ntmps6
    go_wp2
    go_loopw [5, 6] (fun t i wr => ∃ k : Nat, k ≤ len ∧ i = .int .i64 k ∧ (∃ y : Int, 0 ≤ y ∧ y ≤ 1048576 ∧ t = .int .i64 y) ∧ ∃ m, wr = w.drewN m) (fun _ i _ => len - (intOf i).toNat)
    case atStart => exact ⟨0, Nat.zero_le _, rfl, ⟨x, hx0, hx, rfl⟩, 0, rfl⟩
    case round =>
      obtain ⟨k, hk, rfl, ⟨y, hy0, hy1, rfl⟩, m, rfl⟩ := hrel
      by_cases hlt : k < len
      · obtain rfl := h.addr (by omega)
        have c1 := h.name k hlt
        have c2 := h.data k hlt
        have n1 := h.nameLen k hlt
        have n2 := h.dataLen k hlt
        have b1 : (0 : Int) ≤ (k : Int) := by omega
        have b2 : (k : Int) < (len : Int) := by omega
        by_cases z1 : (N k).size ≤ 1048576
        · by_cases z2 : L k ≤ 1048576
          · go_wp2
            go_quiet (fail)
            by_cases z3 : y + 8 + ((N k).size : Int) + (L k : Int) ≤ 1048576
            · go_wp2
              go_roundw
              case rel => exact ⟨k + 1, by omega, by go_num, ⟨_, by omega, z3, rfl⟩, _, rfl⟩
              case measure => simp [intOf]; omega
            · go_wp2
              go_ret
              exact ⟨says _, _, rfl⟩
          · go_wp2
            go_ret
            exact ⟨says _, _, rfl⟩
        · go_wp2
          go_ret
          exact ⟨says _, _, rfl⟩
      · go_wp2
        go_ret
        exact ⟨says _, _, rfl⟩
  · go_enter Try.func6, Try.ntmps6
    go_wp2
    go_ret
    exact ⟨says _, 0, rfl⟩
end Go.Proofs.Qxb6630272a
