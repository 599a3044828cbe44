import Derived.Test.Qxb6630221aLawL
namespace Go.Proofs.Qxb6630221a
open Go.RowKit Go.Lib

set_option maxRecDepth 100000 in
set_option maxHeartbeats 1000000 in
theorem lawL_true (a : Option Addr) (len cap : Nat) (zs : List Int) (id title : ByteArray) (w : World) (hc : Came w a len cap zs) (c1 : len ≤ 262144) (c2 : id.size ≤ 262144) (c3 : title.size ≤ 262144) :
    Calls Try.prog 3 #[.slice a len cap, .string id, .string title, .bool true] w fun e w' => e = .returned (.bool true) ∧ Below w.heap.size w w' := by
  go_enter Try.func3, Try.ntmps3
  go_wp2_with fail
  refine (bytes5 a len cap id title true _ (by unfold maxLen; omega) (by unfold maxLen; omega) (by unfold maxLen; omega)).mono ?_
  rintro e w' ⟨b, rfl, rfl⟩
  cases b
  · go_wp2_with fail
    go_ret
    exact ⟨rfl, Below.refl _ _⟩
  · go_wp2_with fail
    refine (clone_any a len cap zs _ hc (by omega)).mono ?_
    rintro e w1 ⟨vw, rfl, F1, B1⟩
    go_wp2_with fail
    refine (clone_any a len cap zs _ (hc.keep B1) (by omega)).mono ?_
    rintro e w2 ⟨v1, rfl, F2, B2⟩
    have B2' := below_step B1 (Nat.le_refl _) B2
    go_wp2_with fail
    have LD : (zs.take len).length = len := hc.len
    have B4 : Below w2.heap.size w2 (w2.alloc (.cells #[.string id, .string title] 27)) := (Below.refl _ _).alloc (Nat.le_refl _) _
    have F1' := (F1.keep B2).keep B4
    have F2' := F2.keep B4
    have s0 : (w2.alloc (.cells #[.string id, .string title] 27)).cell? ⟨w2.heap.size, 0, none⟩ = some (.string id) := by simp
    have s1 : (w2.alloc (.cells #[.string id, .string title] 27)).cell? ⟨w2.heap.size, 1, none⟩ = some (.string title) := by simp
    have BB := below_step B2' (Nat.le_refl _) B4
    clear F1 F2 B1 B2 B2' B4
    refine (appendRow_any id title true v1 _ _ F2' (by omega) (by omega) (by rw [u8s_length, LD]; omega)).mono ?_
    rintro e w4 ⟨va, rfl, O4, B5⟩
    have s0' := (B5.cell (World.block_lt_of_cell? _ _ s0)).trans s0
    have s1' := (B5.cell (World.block_lt_of_cell? _ _ s1)).trans s1
    have F1 := F1'.keep B5
    have F2 := F2'.keep B5
    have BC := below_step BB (Nat.le_refl _) B5
    clear s0 s1 F1' F2' BB B5
    go_wp2_with fail
    refine (appendRow_any id title true (.slice none 0 0) _ [] (.inl ⟨rfl, rfl⟩) (by omega) (by omega) (by simp)).mono ?_
    rintro e w5 ⟨vb, rfl, O5, B6⟩
    obtain ⟨wo, ao, gr, gl, cr, cl, Dw, Lw, rfl, rfl, rfl, rfl, KN⟩ := know2 (m := 6) (N := 9) LD rfl rfl (F1.keep B6) (F2.keep B6) (own_keep O4 B6) O5
    have BD := below_step BC (Nat.le_refl _) B6
    clear s0' s1' F1 F2 B6 O4 O5 BC hc LD
    go_wp2_with fail
    refine (bytesAt_int _ gl (id.size + title.size + 9) cl 0 id _ (by omega) (by omega) (by omega) KN.lI).mono ?_
    rintro e w6 ⟨rfl, m1, rfl⟩
    have KN2 := KN.drewN m1
    have BD2 := below_drewN BD m1
    clear KN BD
    generalize w5.drewN m1 = w6 at *
    have t1 := KN2.lTab
    have t2 := KN2.lTab2
    go_wp2_with fail
    refine (bytesAt_int _ gl (id.size + title.size + 9) cl (id.size + 2 + 6) title _ (by omega) (by omega) (by omega) KN2.lTitle).mono ?_
    rintro e w7 ⟨rfl, m2, rfl⟩
    have KN3 := KN2.drewN m2
    have BD3 := below_drewN BD2 m2
    clear KN2 BD2 t1 t2
    generalize w6.drewN m2 = w7 at *
    have t3 : w7.cell? ⟨gl, id.size + title.size + 8, none⟩ = some (.int .u8 10) := KN3.lEnd
    go_wp2_with fail
    clear t3
    go_loopw [14] (fun i wr => ∃ k : Nat, k ≤ len ∧ i = .int .i64 k ∧ ∃ m, wr = w7.drewN m) (fun i _ => len - (intOf i).toNat)
    case atStart => exact ⟨0, Nat.zero_le _, rfl, 0, rfl⟩
    case round =>
      obtain ⟨k, hk, rfl, m3, rfl⟩ := hrel
      by_cases hlt : k < len
      · obtain ⟨g, rfl, hcw⟩ := KN3.want (by omega)
        have d1 := hcw k hlt
        have d2 := KN3.rD k hlt
        have b1 : (0 : Int) ≤ (k : Int) := by omega
        have b2 : (k : Int) < (len : Int) := by omega
        have b3 : (k : Int) < (len : Int) + (id.size : Int) + (title.size : Int) + 9 := by omega
        go_wp2
        go_quiet (fail)
        go_wp2
        go_roundw
        case rel => exact ⟨k + 1, by omega, by go_num, _, rfl⟩
        case measure => simp [intOf]; omega
      · have KN4 := KN3.drewN m3
        have BD4 := below_drewN BD3 m3
        clear KN3 BD3
        generalize w7.drewN m3 = w8 at *
        go_wp2_with fail
        clear hk hlt
        go_loopw [15] (fun i wr => ∃ q : Nat, q ≤ id.size + title.size + 9 ∧ i = .int .i64 q ∧ ∃ m, wr = w8.drewN m) (fun i _ => id.size + title.size + 9 - (intOf i).toNat)
        case atStart => exact ⟨0, Nat.zero_le _, rfl, 0, rfl⟩
        case round =>
          obtain ⟨q, hq, rfl, m4, rfl⟩ := hrel
          by_cases hlt : q < id.size + title.size + 9
          · have d1 := KN4.rL q hlt
            have d2 := KN4.lL q hlt
            have b1 : (0 : Int) ≤ (q : Int) := by omega
            have b2 : (len : Int) + (q : Int) < (len : Int) + (id.size : Int) + (title.size : Int) + 9 := by omega
            have b3 : (q : Int) < (id.size : Int) + (title.size : Int) + 9 := by omega
            go_wp2
            go_quiet (fail)
            go_wp2
            go_roundw
            case rel => exact ⟨q + 1, by omega, by go_num, _, rfl⟩
            case measure => simp [intOf]; omega
          · have KN5 := KN4.drewN m4
            have BD5 := below_drewN BD4 m4
            clear KN4 BD4
            generalize w8.drewN m4 = w9 at *
            go_wp2_with fail
            refine (same_any ao wo len len len Dw _ (by omega) KN5.dst KN5.want).mono ?_
            rintro e w10 ⟨rfl, m5, rfl⟩
            have BD6 := below_drewN BD5 m5
            clear KN5 BD5
            generalize w9.drewN m5 = w10 at *
            go_wp2_with fail
            go_ret
            exact ⟨rfl, BD6⟩


set_option maxRecDepth 100000 in
set_option maxHeartbeats 1000000 in
theorem lawL_false (a : Option Addr) (len cap : Nat) (zs : List Int) (id title : ByteArray) (w : World) (hc : Came w a len cap zs) (c1 : len ≤ 262144) (c2 : id.size ≤ 262144) (c3 : title.size ≤ 262144) :
    Calls Try.prog 3 #[.slice a len cap, .string id, .string title, .bool false] w fun e w' => e = .returned (.bool true) ∧ Below w.heap.size w w' := by
  go_enter Try.func3, Try.ntmps3
  go_wp2_with fail
  refine (bytes5 a len cap id title false _ (by unfold maxLen; omega) (by unfold maxLen; omega) (by unfold maxLen; omega)).mono ?_
  rintro e w' ⟨b, rfl, rfl⟩
  cases b
  · go_wp2_with fail
    go_ret
    exact ⟨rfl, Below.refl _ _⟩
  · go_wp2_with fail
    refine (clone_any a len cap zs _ hc (by omega)).mono ?_
    rintro e w1 ⟨vw, rfl, F1, B1⟩
    go_wp2_with fail
    refine (clone_any a len cap zs _ (hc.keep B1) (by omega)).mono ?_
    rintro e w2 ⟨v1, rfl, F2, B2⟩
    have B2' := below_step B1 (Nat.le_refl _) B2
    go_wp2_with fail
    have LD : (zs.take len).length = len := hc.len
    have B4 : Below w2.heap.size w2 (w2.alloc (.cells #[.string id, .string title] 27)) := (Below.refl _ _).alloc (Nat.le_refl _) _
    have F1' := (F1.keep B2).keep B4
    have F2' := F2.keep B4
    have s0 : (w2.alloc (.cells #[.string id, .string title] 27)).cell? ⟨w2.heap.size, 0, none⟩ = some (.string id) := by simp
    have s1 : (w2.alloc (.cells #[.string id, .string title] 27)).cell? ⟨w2.heap.size, 1, none⟩ = some (.string title) := by simp
    have BB := below_step B2' (Nat.le_refl _) B4
    clear F1 F2 B1 B2 B2' B4
    refine (appendRow_any id title false v1 _ _ F2' (by omega) (by omega) (by rw [u8s_length, LD]; omega)).mono ?_
    rintro e w4 ⟨va, rfl, O4, B5⟩
    have s0' := (B5.cell (World.block_lt_of_cell? _ _ s0)).trans s0
    have s1' := (B5.cell (World.block_lt_of_cell? _ _ s1)).trans s1
    have F1 := F1'.keep B5
    have F2 := F2'.keep B5
    have BC := below_step BB (Nat.le_refl _) B5
    clear s0 s1 F1' F2' BB B5
    go_wp2_with fail
    refine (appendRow_any id title false (.slice none 0 0) _ [] (.inl ⟨rfl, rfl⟩) (by omega) (by omega) (by simp)).mono ?_
    rintro e w5 ⟨vb, rfl, O5, B6⟩
    obtain ⟨wo, ao, gr, gl, cr, cl, Dw, Lw, rfl, rfl, rfl, rfl, KN⟩ := know2 (m := 1) (N := 4) LD rfl rfl (F1.keep B6) (F2.keep B6) (own_keep O4 B6) O5
    have BD := below_step BC (Nat.le_refl _) B6
    clear s0' s1' F1 F2 B6 O4 O5 BC hc LD
    go_wp2_with fail
    refine (bytesAt_int _ gl (id.size + title.size + 4) cl 0 id _ (by omega) (by omega) (by omega) KN.lI).mono ?_
    rintro e w6 ⟨rfl, m1, rfl⟩
    have KN2 := KN.drewN m1
    have BD2 := below_drewN BD m1
    clear KN BD
    generalize w5.drewN m1 = w6 at *
    have t1 := KN2.lTab
    have t2 := KN2.lTab2
    go_wp2_with fail
    refine (bytesAt_int _ gl (id.size + title.size + 4) cl (id.size + 2 + 1) title _ (by omega) (by omega) (by omega) KN2.lTitle).mono ?_
    rintro e w7 ⟨rfl, m2, rfl⟩
    have KN3 := KN2.drewN m2
    have BD3 := below_drewN BD2 m2
    clear KN2 BD2 t1 t2
    generalize w6.drewN m2 = w7 at *
    have t3 : w7.cell? ⟨gl, id.size + title.size + 3, none⟩ = some (.int .u8 10) := KN3.lEnd
    go_wp2_with fail
    clear t3
    go_loopw [14] (fun i wr => ∃ k : Nat, k ≤ len ∧ i = .int .i64 k ∧ ∃ m, wr = w7.drewN m) (fun i _ => len - (intOf i).toNat)
    case atStart => exact ⟨0, Nat.zero_le _, rfl, 0, rfl⟩
    case round =>
      obtain ⟨k, hk, rfl, m3, rfl⟩ := hrel
      by_cases hlt : k < len
      · obtain ⟨g, rfl, hcw⟩ := KN3.want (by omega)
        have d1 := hcw k hlt
        have d2 := KN3.rD k hlt
        have b1 : (0 : Int) ≤ (k : Int) := by omega
        have b2 : (k : Int) < (len : Int) := by omega
        have b3 : (k : Int) < (len : Int) + (id.size : Int) + (title.size : Int) + 4 := by omega
        go_wp2
        go_quiet (fail)
        go_wp2
        go_roundw
        case rel => exact ⟨k + 1, by omega, by go_num, _, rfl⟩
        case measure => simp [intOf]; omega
      · have KN4 := KN3.drewN m3
        have BD4 := below_drewN BD3 m3
        clear KN3 BD3
        generalize w7.drewN m3 = w8 at *
        go_wp2_with fail
        clear hk hlt
        go_loopw [15] (fun i wr => ∃ q : Nat, q ≤ id.size + title.size + 4 ∧ i = .int .i64 q ∧ ∃ m, wr = w8.drewN m) (fun i _ => id.size + title.size + 4 - (intOf i).toNat)
        case atStart => exact ⟨0, Nat.zero_le _, rfl, 0, rfl⟩
        case round =>
          obtain ⟨q, hq, rfl, m4, rfl⟩ := hrel
          by_cases hlt : q < id.size + title.size + 4
          · have d1 := KN4.rL q hlt
            have d2 := KN4.lL q hlt
            have b1 : (0 : Int) ≤ (q : Int) := by omega
            have b2 : (len : Int) + (q : Int) < (len : Int) + (id.size : Int) + (title.size : Int) + 4 := by omega
            have b3 : (q : Int) < (id.size : Int) + (title.size : Int) + 4 := by omega
            go_wp2
            go_quiet (fail)
            go_wp2
            go_roundw
            case rel => exact ⟨q + 1, by omega, by go_num, _, rfl⟩
            case measure => simp [intOf]; omega
          · have KN5 := KN4.drewN m4
            have BD5 := below_drewN BD4 m4
            clear KN4 BD4
            generalize w8.drewN m4 = w9 at *
            go_wp2_with fail
            refine (same_any ao wo len len len Dw _ (by omega) KN5.dst KN5.want).mono ?_
            rintro e w10 ⟨rfl, m5, rfl⟩
            have BD6 := below_drewN BD5 m5
            clear KN5 BD5
            generalize w9.drewN m5 = w10 at *
            go_wp2_with fail
            go_ret
            exact ⟨rfl, BD6⟩


set_option maxRecDepth 100000 in
theorem lawL_early (a : Option Addr) (len cap : Nat) (id title : ByteArray) (active : Bool) (w : World) (hlm : len ≤ maxLen) (h1 : id.size ≤ maxLen) (h2 : title.size ≤ maxLen) (h : ¬ len ≤ 262144 ∨ (len ≤ 262144 ∧ ¬ id.size ≤ 262144) ∨ (len ≤ 262144 ∧ id.size ≤ 262144 ∧ ¬ title.size ≤ 262144)) :
    Calls Try.prog 3 #[.slice a len cap, .string id, .string title, .bool active] w fun e w' => e = .returned (.bool true) ∧ Below w.heap.size w w' := by
  unfold maxLen at hlm h1 h2
  rcases h with h | ⟨h3, h⟩ | ⟨h3, h4, h⟩
  all_goals
    go_enter Try.func3, Try.ntmps3
    go_wp2_with fail
    refine (bytes5 a len cap id title active _ (by unfold maxLen; omega) (by unfold maxLen; omega) (by unfold maxLen; omega)).mono ?_
    rintro e w' ⟨b, rfl, rfl⟩
    cases b
    all_goals
      go_wp2_with fail
      go_ret
      exact ⟨rfl, Below.refl _ _⟩

theorem lawL (a : Option Addr) (len cap : Nat) (zs : List Int) (id title : ByteArray) (active : Bool) (w : World) (hc : Came w a len cap zs) (hlm : len ≤ maxLen) (h1 : id.size ≤ maxLen) (h2 : title.size ≤ maxLen) :
    Calls Try.prog 3 #[.slice a len cap, .string id, .string title, .bool active] w fun e w' => e = .returned (.bool true) ∧ Below w.heap.size w w' := by
  by_cases c1 : len ≤ 262144
  · by_cases c2 : id.size ≤ 262144
    · by_cases c3 : title.size ≤ 262144
      · cases active
        · exact lawL_false a len cap zs id title w hc c1 c2 c3
        · exact lawL_true a len cap zs id title w hc c1 c2 c3
      · exact lawL_early a len cap id title active w hlm h1 h2 (.inr (.inr ⟨c1, c2, c3⟩))
    · exact lawL_early a len cap id title active w hlm h1 h2 (.inr (.inl ⟨c1, c2⟩))
  · exact lawL_early a len cap id title active w hlm h1 h2 (.inl c1)
end Go.Proofs.Qxb6630221a
