import Derived.Test.Qxb6630221aLawM
namespace Go.Proofs.Qxb6630221a
open Go.RowKit Go.Lib

set_option maxRecDepth 100000 in
set_option maxHeartbeats 1000000 in
theorem lawM (a : Option Addr) (len cap : Nat) (zs : List Int) (id title : ByteArray) (w : World) (hc : Came w a len cap zs) (hlm : len ≤ maxLen) (h1 : id.size ≤ maxLen) (h2 : title.size ≤ maxLen) :
    Calls Try.prog 4 #[.slice a len cap, .string id, .string title] w fun e w' => e = .returned (.bool true) ∧ Below w.heap.size w w' := by
  unfold maxLen at hlm h1 h2
  by_cases c1 : len ≤ 262144
  · by_cases c2 : id.size ≤ 262144
    · by_cases c3 : title.size ≤ 262144
      · go_enter Try.func4, Try.ntmps4
        go_wp2_with fail
        refine (bytes10 a len cap id title _ (by unfold maxLen; omega) (by unfold maxLen; omega) (by unfold maxLen; omega)).mono ?_
        rintro e w' ⟨b, rfl, rfl⟩
        cases b
        · go_wp2_with fail
          go_ret
          exact ⟨rfl, Below.refl _ _⟩
        · go_wp2_with fail
          refine (clone_any a len cap zs _ hc (by omega)).mono ?_
          rintro e w1 ⟨vw, rfl, F1, B1⟩
          go_wp2_with fail
          refine (clone_any a len cap zs _ (hc.keep B1) (by omega)).mono ?_
          rintro e w2 ⟨v1, rfl, F2, B2⟩
          have B2' := below_step B1 (Nat.le_refl _) B2
          go_wp2_with fail
          refine (clone_any a len cap zs _ (hc.keep B2') (by omega)).mono ?_
          rintro e w3 ⟨v2, rfl, F3, B3⟩
          have B3' := below_step B2' (Nat.le_refl _) B3
          go_wp2_with fail
          have LD : (zs.take len).length = len := hc.len
          have B4 : Below w3.heap.size w3 (w3.alloc (.cells #[.string id, .string title] 27)) := (Below.refl _ _).alloc (Nat.le_refl _) _
          have F1' := (F1.keep (below_step B2 (Nat.le_refl _) B3)).keep B4
          have F2' := (F2.keep B3).keep B4
          have F3' := F3.keep B4
          have s0 : (w3.alloc (.cells #[.string id, .string title] 27)).cell? ⟨w3.heap.size, 0, none⟩ = some (.string id) := by simp
          have s1 : (w3.alloc (.cells #[.string id, .string title] 27)).cell? ⟨w3.heap.size, 1, none⟩ = some (.string title) := by simp
          have BB := below_step B3' (Nat.le_refl _) B4
          clear F1 F2 F3 B1 B2 B2' B3 B3' B4
          refine (appendRow_any id title true v1 _ _ F2' (by omega) (by omega) (by rw [u8s_length, LD]; omega)).mono ?_
          rintro e w4 ⟨va, rfl, O4, B5⟩
          have s0' := (B5.cell (World.block_lt_of_cell? _ _ s0)).trans s0
          have s1' := (B5.cell (World.block_lt_of_cell? _ _ s1)).trans s1
          have F1 := F1'.keep B5
          have F3 := F3'.keep B5
          have BC := below_step BB (Nat.le_refl _) B5
          clear s0 s1 F1' F2' F3' BB B5
          go_wp2_with fail
          refine (appendRow_any id title false v2 _ _ F3 (by omega) (by omega) (by rw [u8s_length, LD]; omega)).mono ?_
          rintro e w5 ⟨vb, rfl, O5, B6⟩
          obtain ⟨wo, ga, gb, ca, cb, Dw, Tw, rfl, rfl, rfl, KN⟩ := know LD rfl rfl (F1.keep B6) (own_keep O4 B6) O5
          have BD := below_step BC (Nat.le_refl _) B6
          clear s0' s1' F1 F3 B6 O4 O5 BC hc LD
          go_wp2_with fail
          go_loopw [14] (fun i wr => ∃ k : Nat, k ≤ len ∧ i = .int .i64 k ∧ ∃ m, wr = w5.drewN m) (fun i _ => len - (intOf i).toNat)
          case atStart => exact ⟨0, Nat.zero_le _, rfl, 0, rfl⟩
          case round =>
            obtain ⟨k, hk, rfl, m, rfl⟩ := hrel
            by_cases hlt : k < len
            · obtain ⟨g, rfl, hcw⟩ := KN.want (by omega)
              have d1 := hcw k hlt
              have d2 := KN.aD k hlt
              have d3 := KN.bD k hlt
              have b1 : (0 : Int) ≤ (k : Int) := by omega
              have b2 : (k : Int) < (len : Int) := by omega
              have b3 : (k : Int) < (len : Int) + (id.size : Int) + (title.size : Int) + 9 := by omega
              have b4 : (k : Int) < (len : Int) + (id.size : Int) + (title.size : Int) + 4 := by omega
              go_wp2
              go_quiet (fail)
              go_wp2
              go_quiet (fail)
              go_wp2
              go_roundw
              case rel => exact ⟨k + 1, by omega, by go_num, _, rfl⟩
              case measure => simp [intOf]; omega
            · have KN2 := KN.drewN m
              have BD2 := below_drewN BD m
              clear KN BD
              generalize w5.drewN m = w6 at *
              go_wp2_with fail
              refine (bytesAt_any ga (len + id.size + title.size + 9) ca len id _ (by omega) (by omega) KN2.aI).mono ?_
              rintro e w7 ⟨rfl, m1, rfl⟩
              have KN3 := KN2.drewN m1
              have BD3 := below_drewN BD2 m1
              clear KN2 BD2
              generalize w6.drewN m1 = w7 at *
              go_wp2_with fail
              refine (bytesAt_any gb (len + id.size + title.size + 4) cb len id _ (by omega) (by omega) KN3.bI).mono ?_
              rintro e w8 ⟨rfl, m2, rfl⟩
              have KN4 := KN3.drewN m2
              have BD4 := below_drewN BD3 m2
              clear KN3 BD3
              generalize w7.drewN m2 = w8 at *
              have t1 := KN4.aTab
              have t2 := KN4.bTab
              go_wp2_with fail
              have hm6 : (mark true).size = 6 := rfl
              refine (bytesAt_int _ ga (len + id.size + title.size + 9) ca (len + id.size + 1) (mark true) _ (by omega) (by omega) (by omega) KN4.aM).mono ?_
              rintro e w9 ⟨rfl, m3, rfl⟩
              have KN5 := KN4.drewN m3
              have BD5 := below_drewN BD4 m3
              clear KN4 BD4 t1 t2 hm6
              generalize w8.drewN m3 = w9 at *
              have t3 := KN5.bM
              go_wp2_with fail
              clear hk hlt t3
              go_loopw [15] (fun i wr => ∃ q : Nat, len + id.size + 2 ≤ q ∧ q ≤ len + id.size + title.size + 4 ∧ i = .int .i64 q ∧ ∃ m, wr = w9.drewN m) (fun i _ => len + id.size + title.size + 4 - (intOf i).toNat)
              case atStart => exact ⟨len + id.size + 2, Nat.le_refl _, by omega, by go_num, 0, rfl⟩
              case round =>
                obtain ⟨q, hq1, hq2, rfl, m4, rfl⟩ := hrel
                by_cases hlt : q < len + id.size + title.size + 4
                · have d1 := KN5.aT q hq1 hlt
                  have d2 := KN5.bT q hq1 hlt
                  have b1 : (0 : Int) ≤ (q : Int) := by omega
                  have b2 : (q : Int) + 5 < (len : Int) + (id.size : Int) + (title.size : Int) + 9 := by omega
                  have b3 : (q : Int) < (len : Int) + (id.size : Int) + (title.size : Int) + 4 := by omega
                  go_wp2
                  go_quiet (fail)
                  go_wp2
                  go_roundw
                  case rel => exact ⟨q + 1, by omega, by omega, by go_num, _, rfl⟩
                  case measure => simp [intOf]; omega
                · have KN6 := KN5.drewN m4
                  have BD6 := below_drewN BD5 m4
                  clear KN5 BD5
                  generalize w9.drewN m4 = w10 at *
                  have t4 := KN6.bTab2
                  go_wp2_with fail
                  refine (bytesAt_int _ gb (len + id.size + title.size + 4) cb (len + id.size + 1 + 2) title _ (by omega) (by omega) (by omega) KN6.bTitle).mono ?_
                  rintro e w11 ⟨rfl, m5, rfl⟩
                  have KN7 := KN6.drewN m5
                  have BD7 := below_drewN BD6 m5
                  clear KN6 BD6 t4
                  generalize w10.drewN m5 = w11 at *
                  have t5 := KN7.bEnd
                  go_wp2_with fail
                  go_ret
                  exact ⟨rfl, BD7⟩
      · go_enter Try.func4, Try.ntmps4
        go_wp2_with fail
        refine (bytes10 a len cap id title _ (by unfold maxLen; omega) (by unfold maxLen; omega) (by unfold maxLen; omega)).mono ?_
        rintro e w' ⟨b, rfl, rfl⟩
        cases b
        all_goals
          go_wp2_with fail
          go_ret
          exact ⟨rfl, Below.refl _ _⟩
    · go_enter Try.func4, Try.ntmps4
      go_wp2_with fail
      refine (bytes10 a len cap id title _ (by unfold maxLen; omega) (by unfold maxLen; omega) (by unfold maxLen; omega)).mono ?_
      rintro e w' ⟨b, rfl, rfl⟩
      cases b
      all_goals
        go_wp2_with fail
        go_ret
        exact ⟨rfl, Below.refl _ _⟩
  · go_enter Try.func4, Try.ntmps4
    go_wp2_with fail
    refine (bytes10 a len cap id title _ (by unfold maxLen; omega) (by unfold maxLen; omega) (by unfold maxLen; omega)).mono ?_
    rintro e w' ⟨b, rfl, rfl⟩
    cases b
    all_goals
      go_wp2_with fail
      go_ret
      exact ⟨rfl, Below.refl _ _⟩
end Go.Proofs.Qxb6630221a
