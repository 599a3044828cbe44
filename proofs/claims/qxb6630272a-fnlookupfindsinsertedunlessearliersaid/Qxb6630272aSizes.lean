import Derived.Test.Qxb6630272aParts
namespace Go.Proofs.Qxb6630272a
open Go.RowKit Go.Lib

/-- A bool comes back; where it is true, 'P' holds. -/
def SaysIf (e : Ending) (P : Prop) : Prop := ∃ b : Bool, e = .returned (.bool b) ∧ (b = true → P)
theorem saysNo (P : Prop) : SaysIf (.returned (.bool false)) P := ⟨false, rfl, fun h => by cases h⟩
theorem saysYes {P : Prop} (h : P) : SaysIf (.returned (.bool true)) P := ⟨true, rfl, fun _ => h⟩
/-- What the bound on all lengths says of the elements. -/
def Small (len : Nat) (L : Nat → Nat) : Prop := len ≤ 1048576 ∧ ∀ i, i < len → L i ≤ 1048576
def Upto (k : Nat) (L : Nat → Nat) : Prop := ∀ i, i < k → L i ≤ 1048576
theorem Upto.zero (L : Nat → Nat) : Upto 0 L := fun i hi => absurd hi (Nat.not_lt_zero i)
theorem Upto.next {k : Nat} {L : Nat → Nat} (h : Upto k L) (hk : L k ≤ 1048576) : Upto (k + 1) L := fun i hi => by
  by_cases e : i = k
  · subst e; exact hk
  · exact h i (by omega)

set_option maxHeartbeats 1000000 in
theorem bytes5 (a : Option Addr) (len cap b off : Nat) (N : Nat → ByteArray) (T : Nat → Int) (A : Nat → Option Addr) (L C : Nat → Nat) (D : Nat → List Int) (cut : Int) (name : ByteArray) (w : World) (h : Elems w a len b off N T A L C D) (hlm : len ≤ 9223372036854775807) (hn : name.size ≤ 9223372036854775807) :
    Calls Try.prog 5 #[.slice a len cap, .int .i64 cut, .string name] w fun e w' => SaysIf e (Small len L) ∧ w' = w := by
  by_cases hl : len ≤ 1048576
  · go_enter Try.func5, Try.ntmps5
    go_wp2
    go_loop [7, 8] (fun t i => ∃ k : Nat, k ≤ len ∧ i = .int .i64 k ∧ (∃ y : Int, 0 ≤ y ∧ y ≤ 1048576 ∧ t = .int .i64 y) ∧ Upto k L) (fun _ i => len - (intOf i).toNat)
    case atStart => exact ⟨0, Nat.zero_le _, rfl, ⟨_, by omega, by omega, rfl⟩, Upto.zero L⟩
    case round =>
      obtain ⟨k, hk, rfl, ⟨y, hy0, hy1, rfl⟩, hu⟩ := hrel
      by_cases hlt : k < len
      · obtain rfl := h.addr (by omega)
        have c1 := h.name k hlt
        have c2 := h.data k hlt
        have n1 := h.nameLen k hlt
        have n2 := h.dataLen k hlt
        by_cases z1 : (N k).size ≤ 1048576
        · by_cases z2 : y + ((N k).size : Int) ≤ 1048576
          · by_cases z3 : L k ≤ 1048576
            · by_cases z4 : y + ((N k).size : Int) + (L k : Int) ≤ 1048576
              · go_wp2
                go_round
                case rel => exact ⟨k + 1, by omega, by go_num, ⟨_, by omega, z4, rfl⟩, hu.next z3⟩
                case measure => simp [intOf]; omega
              · go_wp2
                go_ret
                exact ⟨saysNo _, rfl⟩
            · go_wp2
              go_ret
              exact ⟨saysNo _, rfl⟩
          · go_wp2
            go_ret
            exact ⟨saysNo _, rfl⟩
        · go_wp2
          go_ret
          exact ⟨saysNo _, rfl⟩
      · obtain rfl : k = len := by omega
        by_cases z1 : name.size ≤ 1048576
        · by_cases z2 : y + (name.size : Int) ≤ 1048576
          · go_wp2
            go_ret
            exact ⟨saysYes ⟨hl, hu⟩, rfl⟩
          · go_wp2
            go_ret
            exact ⟨saysNo _, rfl⟩
        · go_wp2
          go_ret
          exact ⟨saysNo _, rfl⟩
  · go_enter Try.func5, Try.ntmps5
    go_wp2
    go_ret
    exact ⟨saysNo _, rfl⟩

set_option maxHeartbeats 1000000 in
theorem bytes13 (a : Option Addr) (len cap b off : Nat) (N : Nat → ByteArray) (T : Nat → Int) (A : Nat → Option Addr) (L C : Nat → Nat) (D : Nat → List Int) (p t : Int) (da : Option Addr) (dl dc : Nat) (name : ByteArray) (w : World) (h : Elems w a len b off N T A L C D) (hlm : len ≤ 9223372036854775807) (hn : name.size ≤ 9223372036854775807) (hd : dl ≤ 9223372036854775807) :
    Calls Try.prog 13 #[.slice a len cap, .int .i64 p, .int .u8 t, .slice da dl dc, .string name] w fun e w' => SaysIf e (Small len L) ∧ w' = w := by
  by_cases hl : len ≤ 1048576
  · go_enter Try.func13, Try.ntmps13
    go_wp2
    go_loop [11, 12] (fun t i => ∃ k : Nat, k ≤ len ∧ i = .int .i64 k ∧ (∃ y : Int, 0 ≤ y ∧ y ≤ 1048576 ∧ t = .int .i64 y) ∧ Upto k L) (fun _ i => len - (intOf i).toNat)
    case atStart => exact ⟨0, Nat.zero_le _, rfl, ⟨_, by omega, by omega, rfl⟩, Upto.zero L⟩
    case round =>
      obtain ⟨k, hk, rfl, ⟨y, hy0, hy1, rfl⟩, hu⟩ := hrel
      by_cases hlt : k < len
      · obtain rfl := h.addr (by omega)
        have c1 := h.name k hlt
        have c2 := h.data k hlt
        have n1 := h.nameLen k hlt
        have n2 := h.dataLen k hlt
        by_cases z1 : (N k).size ≤ 1048576
        · by_cases z2 : y + ((N k).size : Int) ≤ 1048576
          · by_cases z3 : L k ≤ 1048576
            · by_cases z4 : y + ((N k).size : Int) + (L k : Int) ≤ 1048576
              · go_wp2
                go_round
                case rel => exact ⟨k + 1, by omega, by go_num, ⟨_, by omega, z4, rfl⟩, hu.next z3⟩
                case measure => simp [intOf]; omega
              · go_wp2
                go_ret
                exact ⟨saysNo _, rfl⟩
            · go_wp2
              go_ret
              exact ⟨saysNo _, rfl⟩
          · go_wp2
            go_ret
            exact ⟨saysNo _, rfl⟩
        · go_wp2
          go_ret
          exact ⟨saysNo _, rfl⟩
      · obtain rfl : k = len := by omega
        by_cases z1 : dl ≤ 1048576
        · by_cases z2 : y + (dl : Int) ≤ 1048576
          · by_cases z3 : name.size ≤ 1048576
            · by_cases z4 : y + (dl : Int) + (name.size : Int) ≤ 1048576
              · go_wp2
                go_ret
                exact ⟨saysYes ⟨hl, hu⟩, rfl⟩
              · go_wp2
                go_ret
                exact ⟨saysNo _, rfl⟩
            · go_wp2
              go_ret
              exact ⟨saysNo _, rfl⟩
          · go_wp2
            go_ret
            exact ⟨saysNo _, rfl⟩
        · go_wp2
          go_ret
          exact ⟨saysNo _, rfl⟩
  · go_enter Try.func13, Try.ntmps13
    go_wp2
    go_ret
    exact ⟨saysNo _, rfl⟩
end Go.Proofs.Qxb6630272a
