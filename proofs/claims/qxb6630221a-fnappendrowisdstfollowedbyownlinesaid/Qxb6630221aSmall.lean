import Derived.Test.Qxb6630221aClone
import Derived.Deep.QuietTactic
import Derived.BigQuiet
namespace Go.Proofs.Qxb6630221a
open Go.RowKit Go.Lib

set_option maxHeartbeats 400000 in
theorem bytesAt_any (g n cap p : Nat) (s : ByteArray) (w : World) (hfit : p + s.size ≤ n) (hn : n ≤ 1099511627776) (hc : ∀ i (hi : i < s.size), w.cell? ⟨g, p + i, none⟩ = some (.int .u8 (s[i].toNat : Int))) :
    Calls Try.prog 8 #[.slice (some ⟨g, 0, none⟩) n cap, .int .i64 p, .string s] w fun e w' => e = .returned (.bool true) ∧ ∃ k, w' = w.drewN k := by
  go_enter Try.func8, Try.ntmps8
  go_wp2
  go_loopw [7] (fun i wr => ∃ k : Nat, k ≤ s.size ∧ i = .int .i64 k ∧ ∃ m, wr = w.drewN m) (fun i _ => s.size - (intOf i).toNat)
  case atStart => exact ⟨0, Nat.zero_le _, rfl, 0, rfl⟩
  case round =>
    obtain ⟨k, hk, rfl, m, rfl⟩ := hrel
    by_cases hlt : k < s.size
    · have hck := hc k hlt
      have b1 : (0 : Int) ≤ (k : Int) := by omega
      have b2 : (k : Int) < (s.size : Int) := by omega
      have b3 : (p : Int) + (k : Int) < (n : Int) := by omega
      go_wp2
      go_quiet (fail)
      go_wp2
      go_roundw
      case rel => exact ⟨k + 1, by omega, by go_num, _, rfl⟩
      case measure => simp [intOf]; omega
    · go_wp2
      go_ret
      exact ⟨rfl, m, rfl⟩

theorem bytesAt_int (P : Int) (g n cap p : Nat) (s : ByteArray) (w : World) (hP : P = (p : Int)) (hfit : p + s.size ≤ n) (hn : n ≤ 1099511627776) (hc : ∀ i (hi : i < s.size), w.cell? ⟨g, p + i, none⟩ = some (.int .u8 (s[i].toNat : Int))) :
    Calls Try.prog 8 #[.slice (some ⟨g, 0, none⟩) n cap, .int .i64 P, .string s] w fun e w' => e = .returned (.bool true) ∧ ∃ k, w' = w.drewN k := by
  subst hP; exact bytesAt_any g n cap p s w hfit hn hc

theorem same_none (ao bo : Option Addr) (ca cb : Nat) (w : World) : Calls Try.prog 9 #[.slice ao 0 ca, .slice bo 0 cb] w fun e w' => e = .returned (.bool true) ∧ ∃ k, w' = w.drewN k := by
  go_enter Try.func9, Try.ntmps9
  go_wp2
  refine wp_loop_rounds 1 ?_
  rw [rounds_succ]
  go_wp2
  go_ret
  exact ⟨rfl, 0, rfl⟩

set_option maxHeartbeats 400000 in
theorem same_some (g h n ca cb : Nat) (zs : List Int) (w : World) (hn : n ≤ 1099511627776) (h1 : ∀ i, i < n → w.cell? ⟨g, i, none⟩ = some (.int .u8 (zs.getD i 0))) (h2 : ∀ i, i < n → w.cell? ⟨h, i, none⟩ = some (.int .u8 (zs.getD i 0))) :
    Calls Try.prog 9 #[.slice (some ⟨g, 0, none⟩) n ca, .slice (some ⟨h, 0, none⟩) n cb] w fun e w' => e = .returned (.bool true) ∧ ∃ k, w' = w.drewN k := by
  go_enter Try.func9, Try.ntmps9
  go_wp2
  go_loopw [5] (fun i wr => ∃ k : Nat, k ≤ n ∧ i = .int .i64 k ∧ ∃ m, wr = w.drewN m) (fun i _ => n - (intOf i).toNat)
  case atStart => exact ⟨0, Nat.zero_le _, rfl, 0, rfl⟩
  case round =>
    obtain ⟨k, hk, rfl, m, rfl⟩ := hrel
    by_cases hlt : k < n
    · have c1 := h1 k hlt
      have c2 := h2 k hlt
      have b1 : (0 : Int) ≤ (k : Int) := by omega
      have b2 : (k : Int) < (n : Int) := by omega
      go_wp2
      go_quiet (fail)
      go_wp2
      go_roundw
      case rel => exact ⟨k + 1, by omega, by go_num, _, rfl⟩
      case measure => simp [intOf]; omega
    · go_wp2
      go_ret
      exact ⟨rfl, m, rfl⟩

/-! ### THE TWO BOUNDS ON ALL LENGTHS -/
theorem bytes10 (a : Option Addr) (len cap : Nat) (id title : ByteArray) (w : World) (hl : len ≤ maxLen) (h1 : id.size ≤ maxLen) (h2 : title.size ≤ maxLen) :
    Calls Try.prog 10 #[.slice a len cap, .string id, .string title] w fun e w' => ∃ b, e = .returned (.bool b) ∧ w' = w := by
  unfold maxLen at hl h1 h2
  go_enter Try.func10, Try.ntmps10
  go_wp2
  all_goals (go_ret; exact ⟨_, rfl, rfl⟩)
theorem bytes5 (a : Option Addr) (len cap : Nat) (id title : ByteArray) (active : Bool) (w : World) (hl : len ≤ maxLen) (h1 : id.size ≤ maxLen) (h2 : title.size ≤ maxLen) :
    Calls Try.prog 5 #[.slice a len cap, .string id, .string title, .bool active] w fun e w' => ∃ b, e = .returned (.bool b) ∧ w' = w := by
  unfold maxLen at hl h1 h2
  go_enter Try.func5, Try.ntmps5
  go_wp2
  all_goals (go_ret; exact ⟨_, rfl, rfl⟩)
end Go.Proofs.Qxb6630221a
