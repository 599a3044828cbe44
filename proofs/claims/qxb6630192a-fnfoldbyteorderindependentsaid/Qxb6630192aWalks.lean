import Derived.Test.Qxb6630192aRows
import Derived.WalkKit
import Derived.WalkSpells
import Derived.LoopTactic
import Derived.Outline
import Derived.RowKit3
import Derived.Laws.BitsAllLaws
import Derived.Laws.Bits64
namespace Go.Proofs.Qxb6630192a
open Go.RowKit

/-- The ones'-complement value of 's'. -/
def ones (s : Int) : Int := if s = 0 then 0 else if s % 65535 = 0 then 65535 else s % 65535

theorem ones_step (x : Int) (h : 65535 < x) : ones (x / 65536 + x % 65536) = ones x := by
  unfold ones
  have e : (x / 65536 + x % 65536) % 65535 = x % 65535 := by omega
  rw [e, if_neg (by omega), if_neg (by omega : ¬ x = 0)]
theorem ones_small (x : Int) (h0 : 0 ≤ x) (h : x ≤ 65535) : ones x = x := by
  unfold ones
  split
  · omega
  · split <;> omega
theorem ones_bd (x : Int) : 0 ≤ ones x ∧ ones x ≤ 65535 := by
  unfold ones
  split
  · omega
  · split <;> omega
theorem and_ffff (x : Int) (h0 : 0 ≤ x) (h1 : x < 18446744073709551616) : bits .and .u64 x 65535 = x % 65536 := by
  rw [u64_and x 65535 h0 h1 (by decide) (by decide)]
  have : x.toNat &&& (65535 : Int).toNat = x.toNat % 65536 := Nat.and_two_pow_sub_one_eq_mod x.toNat 16
  rw [this]; omega
theorem ret_int {k : IntKind} {a b : Int} (h : a = b) : Ending.returned (.int k a) = .returned (.int k b) := by rw [h]

set_option maxHeartbeats 400000 in
theorem fold_any (s : Int) (h0 : 0 ≤ s) (h1 : s < 18446744073709551616) (w : World) :
    Calls Try.prog 6 #[.int .u64 s] w fun e w' => e = .returned (.int .u16 (ones s)) ∧ w' = w := by
  go_enter Try.func6, Try.ntmps6
  go_wp2
  go_loop [0] (fun t => ∃ x : Int, 0 ≤ x ∧ x < 18446744073709551616 ∧ Hid (ones x = ones s) ∧ t = .int .u64 x) (fun t => (intOf t).toNat)
  case atStart => exact ⟨s, h0, h1, rfl, rfl⟩
  case round =>
    obtain ⟨x, hx0, hx1, hx, rfl⟩ := hrel
    by_cases hlt : 65535 < x
    · have ha := and_ffff x hx0 hx1
      have hs : Hid (ones (x / 65536 + x % 65536) = ones s) := (ones_step x hlt).trans hx.out
      go_wp2
      go_round
      case rel => exact ⟨_, by omega, by omega, hs, rfl⟩
      case measure => simp [intOf]; omega
    · go_wp2
      go_ret
      exact ⟨ret_int (by rw [← hx.out, ones_small x hx0 (by omega)]), rfl⟩

theorem want_any (x m : Int) (nz : Bool) (h0 : 0 ≤ m) (h1 : m < 65535) (hm : Hid (m = x % 65535)) (hz : Hid (nz = decide (x ≠ 0))) (w : World) :
    Calls Try.prog 5 #[.int .u64 m, .bool nz] w fun e w' => e = .returned (.int .u16 (ones x)) ∧ w' = w := by
  cases nz with
  | false =>
    have H : Hid (ones x = 0) := by have h := hz.out; unfold ones; rw [if_pos (by simpa using h)]; rfl
    go_enter Try.func5, Try.ntmps5
    go_wp2
    go_ret
    exact ⟨ret_int H.out.symm, rfl⟩
  | true =>
    have hx : ¬ x = 0 := by have h := hz.out; simpa using h.symm
    by_cases hc : m = 0
    · have H : Hid (ones x = 65535) := by have h := hm.out; unfold ones; rw [if_neg hx, if_pos (by omega)]; rfl
      clear hx
      go_enter Try.func5, Try.ntmps5
      go_wp2
      go_ret
      exact ⟨ret_int H.out.symm, rfl⟩
    · have H : Hid (ones x = m) := by have h := hm.out; unfold ones; rw [if_neg hx, if_neg (by omega)]; exact h.symm
      clear hx
      go_enter Try.func5, Try.ntmps5
      go_wp2
      go_ret
      exact ⟨ret_int H.out.symm, rfl⟩

end Go.Proofs.Qxb6630192a
