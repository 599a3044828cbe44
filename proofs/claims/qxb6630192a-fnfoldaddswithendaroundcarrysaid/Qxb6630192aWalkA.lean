import Derived.Test.Qxb6630192aWalks
namespace Go.Proofs.Qxb6630192a
open Go.RowKit

theorem ones_parts (a b : Int) (ha : 0 ≤ a) (hb : 0 ≤ b) : ones (ones a + ones b) = ones (a + b) := by
  have _ := ha
  have _ := hb
  unfold ones
  repeat' split
  all_goals omega
theorem ones_carry (a b : Int) (h : ¬ a + b < 18446744073709551616) : ones (a + b - 18446744073709551616 + 1) = ones (a + b) := by
  unfold ones
  repeat' split
  all_goals omega
theorem carried (a b : Int) (ha : 0 ≤ a) (ha' : a < 18446744073709551616) (hb : 0 ≤ b) (hb' : b < 18446744073709551616) (h : ¬ a + b < 18446744073709551616) :
    ∃ c : Int, 0 ≤ c ∧ c < a ∧ c < 18446744073709551615 ∧ IntKind.u64.wrap (a + b) = c ∧ ones (c + 1) = ones (a + b) := by
  refine ⟨a + b - 18446744073709551616, by omega, by omega, by omega, ?_, ones_carry a b h⟩
  rw [IntKind.wrap_u64]; omega
theorem zeroB (a : Int) (h : a = 0) : (a != 0) = false := by subst h; rfl
theorem nonzB (a : Int) (h : ¬ a = 0) : (a != 0) = true := by simpa using h

set_option maxHeartbeats 400000 in
theorem lawA_zero (a1 : Int) (a10 : 0 ≤ a1) (a11 : a1 < 18446744073709551616) (w : World) :
    Calls Try.prog 3 #[.int .u64 0, .int .u64 a1] w fun e w' => e = .returned (.bool true) ∧ Grown w w' := by
  have z : ones 0 = 0 := rfl
  have p : ones (ones a1) = ones a1 := by have h := ones_parts 0 a1 (by decide) a10; rw [z] at h; simpa using h
  have o1 := ones_bd a1
  obtain ⟨o10, o11⟩ := o1
  by_cases cb : a1 = 0
  · subst cb
    go_enter Try.func3, Try.ntmps3
    go_wp2_with fail
    refine (want_any 0 _ _ (by omega) (by omega) rfl rfl _).mono ?_
    rintro e w' ⟨rfl, rfl⟩
    go_wp2_with fail
    refine (want_any 0 _ _ (by omega) (by omega) rfl rfl _).mono ?_
    rintro e w' ⟨rfl, rfl⟩
    go_wp2_with fail
    refine (fold_any 0 (by omega) (by omega) _).mono ?_
    rintro e w' ⟨rfl, rfl⟩
    go_wp2_with fail
    refine (fold_any 0 (by omega) (by omega) _).mono ?_
    rintro e w' ⟨rfl, rfl⟩
    go_wp2_with fail
    refine (fold_any 0 (by omega) (by omega) _).mono ?_
    rintro e w' ⟨rfl, rfl⟩
    go_wp2_with fail
    refine (fold_any 0 (by omega) (by omega) _).mono ?_
    rintro e w' ⟨rfl, rfl⟩
    go_wp2_with fail
    go_ret
    exact ⟨rfl, Grown.refl _⟩
  · have hb := nonzB a1 cb
    go_enter Try.func3, Try.ntmps3
    go_wp2_with fail
    refine (want_any a1 _ _ (by omega) (by omega) (by show _ = _; omega) (by show _ = _; symm; simp; omega) _).mono ?_
    rintro e w' ⟨rfl, rfl⟩
    go_wp2_with fail
    refine (want_any 0 _ _ (by omega) (by omega) rfl rfl _).mono ?_
    rintro e w' ⟨rfl, rfl⟩
    go_wp2_with fail
    refine (fold_any 0 (by omega) (by omega) _).mono ?_
    rintro e w' ⟨rfl, rfl⟩
    go_wp2_with fail
    refine (fold_any a1 (by omega) (by omega) _).mono ?_
    rintro e w' ⟨rfl, rfl⟩
    go_wp2_with fail
    refine (fold_any _ (by omega) (by omega) _).mono ?_
    rintro e w' ⟨rfl, rfl⟩
    go_wp2_with fail
    refine (fold_any a1 (by omega) (by omega) _).mono ?_
    rintro e w' ⟨rfl, rfl⟩
    go_wp2_with fail
    go_ret
    exact ⟨rfl, Grown.refl _⟩


set_option maxHeartbeats 400000 in
theorem lawA (a0 a1 : Int) (a00 : 0 ≤ a0) (a01 : a0 < 18446744073709551616) (a10 : 0 ≤ a1) (a11 : a1 < 18446744073709551616) (w : World) :
    Calls Try.prog 3 #[.int .u64 a0, .int .u64 a1] w fun e w' => e = .returned (.bool true) ∧ Grown w w' := by
  have p := ones_parts a0 a1 a00 a10
  have o0 := ones_bd a0
  have o1 := ones_bd a1
  obtain ⟨o00, o01⟩ := o0
  obtain ⟨o10, o11⟩ := o1
  by_cases cs : a0 + a1 < 18446744073709551616
  · by_cases ca : a0 = 0
    · subst ca; exact lawA_zero a1 a10 a11 w
    · have ha := nonzB a0 ca
      go_enter Try.func3, Try.ntmps3
      go_wp2_with fail
      refine (want_any (a0 + a1) _ _ (by omega) (by omega) rfl (by show _ = _; symm; simp; omega) _).mono ?_
      rintro e w' ⟨rfl, rfl⟩
      go_wp2_with fail
      refine (want_any a0 _ _ (by omega) (by omega) rfl (by show _ = _; symm; simp; omega) _).mono ?_
      rintro e w' ⟨rfl, rfl⟩
      go_wp2_with fail
      refine (fold_any a0 a00 a01 _).mono ?_
      rintro e w' ⟨rfl, rfl⟩
      go_wp2_with fail
      refine (fold_any a1 a10 a11 _).mono ?_
      rintro e w' ⟨rfl, rfl⟩
      go_wp2_with fail
      refine (fold_any _ (by omega) (by omega) _).mono ?_
      rintro e w' ⟨rfl, rfl⟩
      go_wp2_with fail
      refine (fold_any _ (by omega) (by omega) _).mono ?_
      rintro e w' ⟨rfl, rfl⟩
      go_wp2_with fail
      go_ret
      exact ⟨rfl, Grown.refl _⟩
  · obtain ⟨c, hc0, hc1, hc2, hc3, hc4⟩ := carried a0 a1 a00 a01 a10 a11 cs
    have ca : ¬ a0 = 0 := by omega
    have ha := nonzB a0 ca
    go_enter Try.func3, Try.ntmps3
    go_wp2_with fail
    refine (want_any (a0 + a1) _ _ (by omega) (by omega) rfl (by show _ = _; symm; simp; omega) _).mono ?_
    rintro e w' ⟨rfl, rfl⟩
    go_wp2_with fail
    refine (want_any a0 _ _ (by omega) (by omega) rfl (by show _ = _; symm; simp; omega) _).mono ?_
    rintro e w' ⟨rfl, rfl⟩
    go_wp2_with fail
    refine (fold_any a0 a00 a01 _).mono ?_
    rintro e w' ⟨rfl, rfl⟩
    go_wp2_with fail
    refine (fold_any a1 a10 a11 _).mono ?_
    rintro e w' ⟨rfl, rfl⟩
    go_wp2_with fail
    refine (fold_any _ (by omega) (by omega) _).mono ?_
    rintro e w' ⟨rfl, rfl⟩
    go_wp2_with fail
    refine (fold_any _ (by omega) (by omega) _).mono ?_
    rintro e w' ⟨rfl, rfl⟩
    go_wp2_with fail
    go_ret
    exact ⟨rfl, Grown.refl _⟩
end Go.Proofs.Qxb6630192a
