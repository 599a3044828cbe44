import Derived.Test.Qxb6630272aHold
namespace Go.Proofs.Qxb6630272a
open Go.RowKit Go.Lib

set_option maxRecDepth 100000 in
set_option maxHeartbeats 1000000 in
theorem lawS_in (a : Option Addr) (len cap b off : Nat) (N : Nat → ByteArray) (T : Nat → Int) (A : Nat → Option Addr) (L C : Nat → Nat) (D : Nat → List Int) (q : Nat) (name : ByteArray) (w : World) (h : Elems w a len b off N T A L C D) (hlm : len ≤ 9223372036854775807) (hn : name.size ≤ 1048576) (hq : q ≤ len) :
    Calls Try.prog 3 #[.slice a len cap, .int .i64 q, .string name] w fun e w' => e = .returned (.bool true) ∧ Below w.heap.size w w' := by
  go_enter Try.func3, Try.ntmps3
  go_wp2_with fail
  refine (bytes5 a len cap b off N T A L C D q name _ h hlm (by omega)).mono ?_
  rintro e w' ⟨⟨b0, rfl, hs⟩, rfl⟩
  cases b0
  · go_wp2_with fail
    go_ret
    exact ⟨rfl, Below.refl _ _⟩
  · have hS := hs rfl
    clear hs
    have hl : len ≤ 1048576 := hS.1
    go_wp2_with fail
    refine (sizeFits_any a len cap b off N T A L C D _ h hl _ (by omega) (by omega)).mono ?_
    rintro e w0 ⟨⟨b1, rfl⟩, m, rfl⟩
    cases b1
    · go_wp2_with fail
      go_ret
      exact ⟨rfl, below_drewN (Below.refl _ _) m⟩
    · have B0 : Below w'.heap.size w' (w'.drewN m) := below_drewN (Below.refl _ _) m
      have h0 := h.below B0
      generalize w'.drewN m = w0 at *
      have g1 : ¬ (q : Int) < 0 := by omega
      have g2 : ¬ (len : Int) < (q : Int) := by omega
      go_wp2_with fail
      refine (names_any a len cap b off N T A L C D _ h0 hl).mono ?_
      rintro e w1 ⟨⟨b2, rfl⟩, rfl⟩
      cases b2
      · go_wp2_with fail
        refine (values_int a len cap b off N T A L C D _ h0 hS _ _ 0 len (by omega) (by omega) (by omega) (by omega)).mono ?_
        rintro e x1 ⟨v1, base1, ps1, rfl, Dc1, hv1, Bx1⟩
        go_wp2_with fail
        refine (newDoc_doc Dc1).mono ?_
        rintro e y1 ⟨o1, l1, c1, rfl, rfl, z1, rfl⟩
        have DA1 := docAt_new Dc1 z1
        have BX1 := below_step (below_step B0 (Nat.le_refl _) Bx1) (Nat.le_refl _) (two_new x1 z1 (.cells #[.slice o1 l1 c1] 28))
        rw [hv1] at DA1
        go_wp2_with fail
        clear Dc1 hv1 Bx1 h0 B0
        generalize ((x1.alloc z1).alloc (.cells #[.slice o1 l1 c1] 28)) = X1 at *
        generalize x1.heap.size + 1 = p1 at *
        refine (values_int a len cap b off N T A L C D _ (h.below BX1) hS _ _ 0 q (by omega) (by omega) (by omega) (by omega)).mono ?_
        rintro e x2 ⟨v2, base2, ps2, rfl, Dc2, hv2, Bx2⟩
        go_wp2_with fail
        refine (newDoc_doc Dc2).mono ?_
        rintro e y2 ⟨o2, l2, c2, rfl, rfl, z2, rfl⟩
        have DA2 := docAt_new Dc2 z2
        have Bxx := below_step Bx2 (Nat.le_refl _) (two_new x2 z2 (.cells #[.slice o2 l2 c2] 28))
        have BX2 := below_step BX1 (Nat.le_refl _) Bxx
        have DA1' := DA1.below Bxx
        rw [hv2] at DA2
        go_wp2_with fail
        clear Dc2 hv2 Bx2 Bxx DA1 BX1
        generalize ((x2.alloc z2).alloc (.cells #[.slice o2 l2 c2] 28)) = X2 at *
        generalize x2.heap.size + 1 = p2 at *
        refine (values_int a len cap b off N T A L C D _ (h.below BX2) hS _ _ q len (by omega) (by omega) (by omega) (by omega)).mono ?_
        rintro e x3 ⟨v3, base3, ps3, rfl, Dc3, hv3, Bx3⟩
        go_wp2_with fail
        refine (newDoc_doc Dc3).mono ?_
        rintro e y3 ⟨o3, l3, c3, rfl, rfl, z3, rfl⟩
        have DA3 := docAt_new Dc3 z3
        have Bxx := below_step Bx3 (Nat.le_refl _) (two_new x3 z3 (.cells #[.slice o3 l3 c3] 28))
        have BX3 := below_step BX2 (Nat.le_refl _) Bxx
        have DA1 := DA1'.below Bxx
        have DA2' := DA2.below Bxx
        rw [hv3] at DA3
        clear Dc3 hv3 Bx3 Bxx DA1' DA2 BX2
        generalize hX3 : ((x3.alloc z3).alloc (.cells #[.slice o3 l3 c3] 28)) = X3 at *
        generalize hp3 : x3.heap.size + 1 = p3 at *
        obtain ⟨o1', l1', c1', base1', ps1', Cc1, Dd1, Hv1⟩ := DA1
        have HV1 : Hid (ps1'.map Prod.fst = valsOf N T A D 0 (len - 0)) := Hv1
        clear Hv1
        go_wp2_with fail
        clear hX3 hp3
        refine (look_at name Dd1 HV1.out (by rw [valsOf_length]; omega)).mono ?_
        rintro e y1 ⟨n1, t1, ro1, rl1, rc1, bw, rfl, R1, By1⟩
        have Bz := below_step By1 (Nat.le_refl _) (one_new y1 (.cells #[.string n1, .int .u8 t1, .slice ro1 rl1 rc1] 33))
        have BZ1 := below_step BX3 (Nat.le_refl _) Bz
        have DA2 := DA2'.below Bz
        have DA3' := DA3.below Bz
        have R1' := R1.below (one_new y1 (.cells #[.string n1, .int .u8 t1, .slice ro1 rl1 rc1] 33))
        have V1 := ValAt.new y1 n1 t1 (.slice ro1 rl1 rc1)
        clear Cc1 Dd1 HV1 R1 By1 Bz BX3 DA2' DA3
        generalize hZ1 : y1.alloc (.cells #[.string n1, .int .u8 t1, .slice ro1 rl1 rc1] 33) = Z1 at *
        generalize hr1 : y1.heap.size = r1 at *
        obtain ⟨o2', l2', c2', base2', ps2', Cc2, Dd2, Hv2⟩ := DA2
        have HV2 : Hid (ps2'.map Prod.fst = valsOf N T A D 0 (q - 0)) := Hv2
        clear Hv2
        go_wp2_with fail
        clear hZ1 hr1
        refine (look_at name Dd2 HV2.out (by rw [valsOf_length]; omega)).mono ?_
        rintro e y2 ⟨n2, t2, ro2, rl2, rc2, bf, rfl, R2, By2⟩
        have Bz := below_step By2 (Nat.le_refl _) (one_new y2 (.cells #[.string n2, .int .u8 t2, .slice ro2 rl2 rc2] 33))
        have BZ2 := below_step BZ1 (Nat.le_refl _) Bz
        have DA3 := DA3'.below Bz
        have R1 := R1'.below Bz
        have V1' := V1.below Bz
        have R2' := R2.below (one_new y2 (.cells #[.string n2, .int .u8 t2, .slice ro2 rl2 rc2] 33))
        have V2 := ValAt.new y2 n2 t2 (.slice ro2 rl2 rc2)
        clear Cc2 Dd2 HV2 R2 By2 Bz BZ1 DA3' R1' V1
        generalize hZ2 : y2.alloc (.cells #[.string n2, .int .u8 t2, .slice ro2 rl2 rc2] 33) = Z2 at *
        generalize hr2 : y2.heap.size = r2 at *
        obtain ⟨o3', l3', c3', base3', ps3', Cc3, Dd3, Hv3⟩ := DA3
        have HV3 : Hid (ps3'.map Prod.fst = valsOf N T A D q (len - q)) := Hv3
        clear Hv3
        go_wp2_with fail
        clear hZ2 hr2
        refine (look_at name Dd3 HV3.out (by rw [valsOf_length]; omega)).mono ?_
        rintro e y3 ⟨n3, t3, ro3, rl3, rc3, bb, rfl, R3, By3⟩
        have Bz := below_step By3 (Nat.le_refl _) (one_new y3 (.cells #[.string n3, .int .u8 t3, .slice ro3 rl3 rc3] 33))
        have BZ3 := below_step BZ2 (Nat.le_refl _) Bz
        have R1' := R1.below Bz
        have V1 := V1'.below Bz
        have R2 := R2'.below Bz
        have V2' := V2.below Bz
        have R3' := R3.below (one_new y3 (.cells #[.string n3, .int .u8 t3, .slice ro3 rl3 rc3] 33))
        have V3 := ValAt.new y3 n3 t3 (.slice ro3 rl3 rc3)
        clear Cc3 Dd3 HV3 R3 By3 Bz BZ2 R1 V1' R2' V2
        generalize hZ3 : y3.alloc (.cells #[.string n3, .int .u8 t3, .slice ro3 rl3 rc3] 33) = Z3 at *
        generalize hr3 : y3.heap.size = r3 at *
        go_wp2_with fail
        clear hZ3 hr3
        have hE := h.below BZ3
        have hDl := fun j hj => data_len h hS j hj
        rcases three hq hDl R1' R2 R3' with ⟨rfl, rfl, rfl, rfl, hm, tw, hno⟩ | ⟨rfl, rfl, rfl, rfl, rfl, hm, tw, hno⟩ | ⟨rfl, rfl, rfl, rfl, rfl, ev, hno⟩
        · clear R1' R2 R3' V3 hDl h hS
          obtain ⟨u0, u1, u2⟩ := V1
          obtain ⟨s0, s1, s2⟩ := V2'
          go_loop [16, 17] (fun p i => ∃ k : Nat, k ≤ len ∧ i = .int .i64 k ∧ p = .bool false ∧ NoName N name k) (fun _ i => len - (intOf i).toNat)
          case atStart => exact ⟨0, Nat.zero_le _, rfl, rfl, fun j hj => absurd hj (Nat.not_lt_zero j)⟩
          case round =>
            obtain ⟨k, hk, rfl, rfl, hny⟩ := hrel
            by_cases hlt : k < len
            · obtain rfl := hE.addr (by omega)
              have c1 := hE.name k hlt
              by_cases hmk : ((N k).toList == name.toList) = true
              · clear hny
                go_wp2_with fail
                obtain ⟨nl, D', tw1, tw2, tw3⟩ := tw
                refine (sameVal_any _ _ _ _ _ _ _ _ _ tw1 tw2 tw3).mono ?_
                rintro e wf ⟨rfl, Bf⟩
                have BF := below_step BZ3 (Nat.le_refl _) Bf
                clear BZ3 Bf tw1 tw2
                go_wp2_with fail
                go_ret
                exact ⟨rfl, BF⟩
              · have hmk' : ((N k).toList == name.toList) = false := by simpa using hmk
                have HY : Hid (NoName N name (k + 1)) := hny.next hmk'
                clear hny hmk
                go_wp2_with fail
                go_round
                case rel => exact ⟨k + 1, by omega, by go_num, rfl, HY.out⟩
                case measure => simp [intOf]; omega
            · obtain rfl : k = len := by omega
              exact absurd hny hno
        · clear R1' R2 R3' V2' hDl h hS
          obtain ⟨u0, u1, u2⟩ := V1
          obtain ⟨s0, s1, s2⟩ := V3
          go_loop [16, 17] (fun p i => ∃ k : Nat, k ≤ len ∧ i = .int .i64 k ∧ p = .bool false ∧ NoName N name k) (fun _ i => len - (intOf i).toNat)
          case atStart => exact ⟨0, Nat.zero_le _, rfl, rfl, fun j hj => absurd hj (Nat.not_lt_zero j)⟩
          case round =>
            obtain ⟨k, hk, rfl, rfl, hny⟩ := hrel
            by_cases hlt : k < len
            · obtain rfl := hE.addr (by omega)
              have c1 := hE.name k hlt
              by_cases hmk : ((N k).toList == name.toList) = true
              · clear hny
                go_wp2_with fail
                obtain ⟨nl, D', tw1, tw2, tw3⟩ := tw
                refine (sameVal_any _ _ _ _ _ _ _ _ _ tw1 tw2 tw3).mono ?_
                rintro e wf ⟨rfl, Bf⟩
                have BF := below_step BZ3 (Nat.le_refl _) Bf
                clear BZ3 Bf tw1 tw2
                go_wp2_with fail
                go_ret
                exact ⟨rfl, BF⟩
              · have hmk' : ((N k).toList == name.toList) = false := by simpa using hmk
                have HY : Hid (NoName N name (k + 1)) := hny.next hmk'
                clear hny hmk
                go_wp2_with fail
                go_round
                case rel => exact ⟨k + 1, by omega, by go_num, rfl, HY.out⟩
                case measure => simp [intOf]; omega
            · obtain rfl : k = len := by omega
              exact absurd hny hno
        · clear R1' R2 R3' V2' V3 hDl h hS
          simp only [Value.slice.injEq] at ev
          obtain ⟨rfl, rfl, rfl⟩ := ev
          obtain ⟨u0, u1, u2⟩ := V1
          go_loop [16, 17] (fun p i => ∃ k : Nat, k ≤ len ∧ i = .int .i64 k ∧ p = .bool false ∧ NoName N name k) (fun _ i => len - (intOf i).toNat)
          case atStart => exact ⟨0, Nat.zero_le _, rfl, rfl, fun j hj => absurd hj (Nat.not_lt_zero j)⟩
          case round =>
            obtain ⟨k, hk, rfl, rfl, hny⟩ := hrel
            by_cases hlt : k < len
            · obtain rfl := hE.addr (by omega)
              have c1 := hE.name k hlt
              by_cases hmk : ((N k).toList == name.toList) = true
              · have hx := hno k hlt
                rw [hmk] at hx
                cases hx
              · have hmk' : ((N k).toList == name.toList) = false := by simpa using hmk
                have HY : Hid (NoName N name (k + 1)) := hny.next hmk'
                clear hny hmk
                go_wp2_with fail
                go_round
                case rel => exact ⟨k + 1, by omega, by go_num, rfl, HY.out⟩
                case measure => simp [intOf]; omega
            · obtain rfl : k = len := by omega
              clear hny hno
              go_wp2_with fail
              refine (isZero_any _).mono ?_
              rintro e wf ⟨rfl, Bf⟩
              have BF := below_step BZ3 (Nat.le_refl _) Bf
              clear BZ3 Bf
              go_wp2_with fail
              go_ret
              exact ⟨rfl, BF⟩
      · go_wp2_with fail
        go_ret
        exact ⟨rfl, B0⟩

set_option maxRecDepth 100000 in
set_option maxHeartbeats 1000000 in
theorem lawS_out (a : Option Addr) (len cap b off : Nat) (N : Nat → ByteArray) (T : Nat → Int) (A : Nat → Option Addr) (L C : Nat → Nat) (D : Nat → List Int) (cut : Int) (name : ByteArray) (w : World) (h : Elems w a len b off N T A L C D) (hlm : len ≤ 9223372036854775807) (hn : name.size ≤ 9223372036854775807)
    (hc : ¬ name.size ≤ 1048576 ∨ (name.size ≤ 1048576 ∧ cut < 0) ∨ (name.size ≤ 1048576 ∧ 0 ≤ cut ∧ (len : Int) < cut)) :
    Calls Try.prog 3 #[.slice a len cap, .int .i64 cut, .string name] w fun e w' => e = .returned (.bool true) ∧ Below w.heap.size w w' := by
  rcases hc with hc | ⟨hn', hc⟩ | ⟨hn', hc0, hc⟩
  · go_enter Try.func3, Try.ntmps3
    go_wp2_with fail
    refine (bytes5 a len cap b off N T A L C D cut name _ h hlm hn).mono ?_
    rintro e w' ⟨⟨b0, rfl, hs⟩, rfl⟩
    clear hs
    cases b0
    all_goals
      go_wp2_with fail
      go_ret
      exact ⟨rfl, Below.refl _ _⟩
  all_goals
    go_enter Try.func3, Try.ntmps3
    go_wp2_with fail
    refine (bytes5 a len cap b off N T A L C D cut name _ h hlm hn).mono ?_
    rintro e w' ⟨⟨b0, rfl, hs⟩, rfl⟩
    cases b0
    · go_wp2_with fail
      go_ret
      exact ⟨rfl, Below.refl _ _⟩
    · have hS := hs rfl
      clear hs
      have hl : len ≤ 1048576 := hS.1
      go_wp2_with fail
      refine (sizeFits_any a len cap b off N T A L C D _ h hl _ (by omega) (by omega)).mono ?_
      rintro e w0 ⟨⟨b1, rfl⟩, m, rfl⟩
      have B0 : Below w'.heap.size w' (w'.drewN m) := below_drewN (Below.refl _ _) m
      generalize w'.drewN m = w0 at *
      cases b1
      all_goals
        go_wp2_with fail
        go_ret
        exact ⟨rfl, B0⟩

theorem lawS (a : Option Addr) (len cap b off : Nat) (N : Nat → ByteArray) (T : Nat → Int) (A : Nat → Option Addr) (L C : Nat → Nat) (D : Nat → List Int) (cut : Int) (name : ByteArray) (w : World) (h : Elems w a len b off N T A L C D) (hlm : len ≤ 9223372036854775807) (hn : name.size ≤ 9223372036854775807) :
    Calls Try.prog 3 #[.slice a len cap, .int .i64 cut, .string name] w fun e w' => e = .returned (.bool true) ∧ Below w.heap.size w w' := by
  by_cases h1 : name.size ≤ 1048576
  · by_cases h2 : cut < 0
    · exact lawS_out a len cap b off N T A L C D cut name w h hlm hn (.inr (.inl ⟨h1, h2⟩))
    · by_cases h3 : (len : Int) < cut
      · exact lawS_out a len cap b off N T A L C D cut name w h hlm hn (.inr (.inr ⟨h1, by omega, h3⟩))
      · obtain ⟨q, rfl⟩ := Int.eq_ofNat_of_zero_le (show 0 ≤ cut by omega)
        exact lawS_in a len cap b off N T A L C D q name w h hlm h1 (by omega)
  · exact lawS_out a len cap b off N T A L C D cut name w h hlm hn (.inl h1)
end Go.Proofs.Qxb6630272a
