import Derived.Test.Qxb6630272aClone
namespace Go.Proofs.Qxb6630272a
open Go.RowKit Go.Lib

theorem clone_any {w : World} {row : Option Nat} {v : Value} {nl : Bool} {D : List Int} (h : Bytes w row v nl D) (hb : D.length ≤ 1048576) (row' : Option Nat) (hr : ∀ k, row' = some k → k < w.heap.size) :
    Calls Try.prog 16 #[v] w fun e w' => ∃ v', e = .returned v' ∧ Bytes w' row' v' nl D ∧ Below w.heap.size w w' := by
  obtain ⟨ao, cap, rfl, rfl, h3⟩ := h
  cases ao with
  | none =>
    have h0 : D.length = 0 := by
      by_cases hp : 0 < D.length
      · obtain ⟨g, off, h4, _⟩ := h3 hp
        cases h4
      · omega
    rw [h0]
    refine (clone_nil cap w).mono ?_
    rintro e w' ⟨rfl, rfl⟩
    exact ⟨_, rfl, ⟨none, 0, by rw [h0], rfl, fun hp => absurd hp (by omega)⟩, Below.refl _ _⟩
  | some x =>
    refine (clone_some x cap D w hb fun hp => ?_).mono ?_
    · obtain ⟨g, off, h4, _, h6⟩ := h3 hp
      cases h4
      exact ⟨g, off, rfl, h6⟩
    · rintro e w' ⟨rfl, hC⟩
      obtain ⟨r1, r2⟩ := hC.bytes row' hr
      exact ⟨_, rfl, r1, r2⟩

theorem newValue_any (n : ByteArray) (t : Int) (o : Option Addr) (l c : Nat) (w : World) :
    Calls Try.prog 15 #[.string n, .int .u8 t, .slice o l c] w fun e w' => e = .returned (.agg #[.string n, .int .u8 t, .slice o l c]) ∧ ∃ o, w' = w.alloc o := by
  go_enter Try.func15, Try.ntmps15
  go_wp2
  exact bodyPost_ret (v := .agg #[.string n, .int .u8 t, .slice o l c]) (by simp [results, Try.results15, go_sem]) rfl ⟨rfl, _, rfl⟩
theorem newDoc_any (o : Option Addr) (l c : Nat) (w : World) :
    Calls Try.prog 8 #[.slice o l c] w fun e w' => e = .returned (.agg #[.slice o l c]) ∧ ∃ o, w' = w.alloc o := by
  go_enter Try.func8, Try.ntmps8
  go_wp2
  exact bodyPost_ret (v := .agg #[.slice o l c]) (by simp [results, Try.results8, go_sem]) rfl ⟨rfl, _, rfl⟩
theorem data_any (n : ByteArray) (t : Int) (o : Option Addr) (l c : Nat) (w : World) :
    Calls Try.prog 18 #[.agg #[.string n, .int .u8 t, .slice o l c]] w fun e w' => e = .returned (.slice o l c) ∧ ∃ o, w' = w.alloc o := by
  go_enter Try.func18, Try.ntmps18
  go_wp2
  go_ret
  exact ⟨rfl, _, rfl⟩

theorem same_none (ao bo : Option Addr) (ca cb : Nat) (h : ao.isNone = bo.isNone) (w : World) : Calls Try.prog 17 #[.slice ao 0 ca, .slice bo 0 cb] w fun e w' => e = .returned (.bool true) ∧ ∃ k, w' = w.drewN k := by
  have hn := fun w a l c => Lib.run_eql_slice_nil (P := Try.prog) w 31 5 a l c 0 0 Try.underlying31
  cases ao <;> cases bo <;> simp at h
  all_goals
    go_enter Try.func17, Try.ntmps17
    go_wp2
    refine wp_loop_rounds 1 ?_
    rw [rounds_succ]
    go_wp2
    go_ret
    exact ⟨rfl, 0, rfl⟩

set_option maxHeartbeats 400000 in
theorem same_some (g o h q n ca cb : Nat) (Z : Nat → Int) (w : World) (hn : n ≤ 1099511627776) (h1 : ∀ i, i < n → w.cell? ⟨g, o + i, none⟩ = some (.int .u8 (Z i))) (h2 : ∀ i, i < n → w.cell? ⟨h, q + i, none⟩ = some (.int .u8 (Z i))) :
    Calls Try.prog 17 #[.slice (some ⟨g, o, none⟩) n ca, .slice (some ⟨h, q, none⟩) n cb] w fun e w' => e = .returned (.bool true) ∧ ∃ k, w' = w.drewN k := by
  have hn' := fun w a l c => Lib.run_eql_slice_nil (P := Try.prog) w 31 5 a l c 0 0 Try.underlying31
  go_enter Try.func17, Try.ntmps17
  go_wp2
  go_loopw [5] (fun i wr => ∃ k : Nat, k ≤ n ∧ i = .int .i64 k ∧ ∃ m, wr = w.drewN m) (fun i _ => n - (intOf i).toNat)
  case atStart => exact ⟨0, Nat.zero_le _, rfl, 0, rfl⟩
  case round =>
    obtain ⟨k, hk, rfl, m, rfl⟩ := hrel
    by_cases hlt : k < n
    · have c1 := h1 k hlt
      have c2 := h2 k hlt
      have b1 : (0 : Int) ≤ (k : Int) := by omega
      have b2 : (k : Int) < (n : Int) := by omega
      go_wp2
      go_quiet (fail)
      go_wp2
      go_roundw
      case rel => exact ⟨k + 1, by omega, by go_num, _, rfl⟩
      case measure => simp [intOf]; omega
    · go_wp2
      go_ret
      exact ⟨rfl, m, rfl⟩

theorem same_any {w : World} {r1 r2 : Option Nat} {v1 v2 : Value} {nl : Bool} {D : List Int} (h1 : Bytes w r1 v1 nl D) (h2 : Bytes w r2 v2 nl D) (hb : D.length ≤ 1048576) :
    Calls Try.prog 17 #[v1, v2] w fun e w' => e = .returned (.bool true) ∧ ∃ k, w' = w.drewN k := by
  obtain ⟨a1, c1, rfl, e1, k1⟩ := h1
  obtain ⟨a2, c2, rfl, e2, k2⟩ := h2
  by_cases hp : 0 < D.length
  · obtain ⟨g, off, rfl, _, h6⟩ := k1 hp
    obtain ⟨g', off', rfl, _, h6'⟩ := k2 hp
    exact same_some g off g' off' D.length c1 c2 (fun i => D.getD i 0) w (by omega) h6 h6'
  · have h0 : D.length = 0 := by omega
    rw [h0]
    exact same_none a1 a2 c1 c2 (by rw [e1, e2]) w
end Go.Proofs.Qxb6630272a
