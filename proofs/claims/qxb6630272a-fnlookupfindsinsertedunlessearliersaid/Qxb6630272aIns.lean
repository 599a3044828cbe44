import Derived.Test.Qxb6630272aHold
namespace Go.Proofs.Qxb6630272a
open Go.RowKit Go.Lib

theorem own_weaken {w : World} {base base' e size n : Nat} {v : Value} {xs : List Value} (h : w.ownsRow base e size v n xs) (hb : base' ≤ base) : w.ownsRow base' e size v n xs := by
  refine ⟨h.1, ?_⟩
  rcases h.2 with h2 | ⟨g, cap, cur, h1, h3, h4⟩
  · exact .inl h2
  · exact .inr ⟨g, cap, cur, h1, by omega, h4⟩
theorem Doc.weaken {w : World} {base base' : Nat} {v : Value} {ps : List (Val × Value)} (h : Doc w base v ps) (hb : base' ≤ base) : Doc w base' v ps := ⟨own_weaken h.1 hb, h.2⟩

/-- The loop that puts the rest behind: what is gathered; the rest's own row; the rest's bytes lie elsewhere. -/
def Ins (w wr : World) (v vr : Value) (ps12 ps3 : List (Val × Value)) (k : Nat) : Prop :=
  Doc wr w.heap.size v (ps12 ++ ps3.take k) ∧ wr.ownsRow 0 33 3 vr ps3.length (cellsV ps3) ∧ (vr.ownBlock = none ∨ vr.ownBlock ≠ v.ownBlock) ∧ (∀ p ∈ ps3, Bytes wr v.ownBlock p.2 p.1.nl p.1.data) ∧ Below w.heap.size w wr
theorem Ins.start {w x4 x5 : World} {v vr : Value} {ps12 ps3 : List (Val × Value)} (D4 : Doc x4 w.heap.size v ps12) (hB : Below w.heap.size w x4) (D5 : Doc x5 x4.heap.size vr ps3) (B5 : Below x4.heap.size x4 x5) (O5 : ∀ p ∈ ps3, Over x4.heap.size p.2) : Ins w x5 v vr ps12 ps3 0 := by
  refine ⟨by simpa using D4.below B5, own_weaken D5.1 (Nat.zero_le _), ?_, ?_, below_step hB (Nat.le_refl _) B5⟩
  · cases hb : vr.ownBlock with
    | none => exact .inl rfl
    | some g =>
      right
      intro e
      have h1 := (D5.1.lt g hb).1
      have h2 := (D4.1.lt g e.symm).2
      omega
  · intro p hp
    exact (D5.2 p hp).row (O5 p hp) fun k hk => (D4.1.lt k hk).2
theorem Ins.cells {w wr : World} {v : Value} {g c : Nat} {ps12 ps3 : List (Val × Value)} {k : Nat} (h : Ins w wr v (.slice (some ⟨g, 0, none⟩) ps3.length c) ps12 ps3 k) (hk : k < ps3.length) :
    wr.cell? ⟨g, k * 3, none⟩ = some (.string ps3[k].1.name) ∧ wr.cell? ⟨g, k * 3 + 1, none⟩ = some (.int .u8 ps3[k].1.typ) ∧ wr.cell? ⟨g, k * 3 + 2, none⟩ = some ps3[k].2 ∧ (∃ o' l' c', ps3[k].2 = .slice o' l' c') ∧ Bytes wr v.ownBlock ps3[k].2 ps3[k].1.nl ps3[k].1.data := by
  obtain ⟨c1, c2, c3⟩ := cellsV_at ps3 k hk
  have e1 := h.2.1.cellAt (k * 3) (by omega)
  have e2 := h.2.1.cellAt (k * 3 + 1) (by omega)
  have e3 := h.2.1.cellAt (k * 3 + 2) (by omega)
  have hB := h.2.2.2.1 ps3[k] (List.getElem_mem hk)
  obtain ⟨o', c', e, _⟩ := id hB
  exact ⟨e1.trans c1, e2.trans c2, e3.trans c3, ⟨_, _, _, e⟩, hB⟩
theorem Ins.step {w wr w4 : World} {v v4 vr : Value} {ps12 ps3 : List (Val × Value)} {k : Nat} {o : Obj} (h : Ins w wr v vr ps12 ps3 k) (hk : k < ps3.length) (D4 : Doc w4 w.heap.size v4 (ps12 ++ ps3.take k ++ [ps3[k]])) (G4 : (wr.alloc o).grownBy w4 v.ownBlock) (A4 : v4.ownBlock = v.ownBlock ∨ v4.ownBlock = some (wr.alloc o).heap.size) :
    Ins w w4 v4 vr ps12 ps3 (k + 1) := by
  obtain ⟨h1, h2, h3, h4, h5⟩ := h
  have hB : Below wr.heap.size wr (wr.alloc o) := one_new wr o
  refine ⟨?_, (own_below h2 hB).kept G4 h3, ?_, ?_, ?_⟩
  · rw [List.take_succ_eq_append_getElem hk, ← List.append_assoc]; exact D4
  · rcases h3 with h3 | h3
    · exact .inl h3
    · rcases A4 with e | e
      · rw [e]; exact .inr h3
      · cases hb : vr.ownBlock with
        | none => exact .inl rfl
        | some g =>
          right
          rw [e]
          intro e'
          have := (h2.lt g hb).2
          simp at e'
          omega
  · intro p hp
    exact ((h4 p hp).below hB).grown G4 A4
  · exact (below_step h5 (Nat.le_refl _) hB).grown G4 (by have := h5.size; simp; omega) fun q hq => (h1.1.lt q hq).1

/-- What the two look-ups have found. -/
theorem insert_two {Z : World} {N : Nat → ByteArray} {T : Nat → Int} {A : Nat → Option Addr} {D : Nat → List Int} {len q : Nat} {name : ByteArray} {t : Int} {da : Option Addr} {dl dc : Nat} {E : List Int} (hq : q ≤ len) (hD : ∀ j, j < len → (D j).length ≤ 1048576) (hEl : E.length ≤ 1048576) (hE : Bytes Z none (.slice da dl dc) da.isNone E) {n1 n2 : ByteArray} {t1 t2 : Int} {v1 v2 : Value} {bw bf : Bool}
    (R1 : Res Z n1 t1 v1 bw ((valsOf N T A D 0 q ++ [(⟨name, t, da.isNone, E⟩ : Val)] ++ valsOf N T A D q (len - q)).find? (named name))) (R2 : Res Z n2 t2 v2 bf ((valsOf N T A D 0 (q - 0)).find? (named name))) :
    (bw = true ∧ bf = true ∧ n2 = n1 ∧ t2 = t1 ∧ (n1.toList == name.toList) = true ∧ Twin Z v1 v2) ∨
    (bw = true ∧ bf = false ∧ n1 = name ∧ t1 = t ∧ Twin Z v1 (.slice da dl dc)) := by
  rw [Nat.sub_zero] at R2
  rw [List.find?_append, List.find?_append] at R1
  cases hf : (valsOf N T A D 0 q).find? (named name) with
  | some val =>
    rw [hf] at R1 R2
    simp only [Option.some_or] at R1
    obtain ⟨rfl, rfl, rfl, b1⟩ := R1
    obtain ⟨rfl, rfl, rfl, b2⟩ := R2
    have hm := List.find?_some hf
    have hl := val_len hD (by omega : 0 + q ≤ len) (List.mem_of_find?_eq_some hf)
    exact .inl ⟨rfl, rfl, rfl, rfl, hm, _, _, b1, b2, hl⟩
  | none =>
    rw [hf] at R1 R2
    obtain ⟨rfl, rfl, rfl, rfl⟩ := R2
    have e : List.find? (named name) [(⟨name, t, da.isNone, E⟩ : Val)] = some ⟨name, t, da.isNone, E⟩ := by simp [named]
    rw [e] at R1
    simp only [Option.none_or, Option.some_or] at R1
    obtain ⟨rfl, rfl, rfl, b1⟩ := R1
    exact .inr ⟨rfl, rfl, rfl, rfl, _, _, b1, hE, hEl⟩

set_option maxRecDepth 100000 in
set_option maxHeartbeats 1000000 in
theorem lawI_in (a : Option Addr) (len cap b off : Nat) (N : Nat → ByteArray) (T : Nat → Int) (A : Nat → Option Addr) (L C : Nat → Nat) (D : Nat → List Int) (q : Nat) (t : Int) (da : Option Addr) (dl dc : Nat) (E : List Int) (name : ByteArray) (w : World) (h : Elems w a len b off N T A L C D) (hlm : len ≤ 9223372036854775807) (hn : name.size ≤ 1048576) (hd : dl ≤ 1048576) (hE : Bytes w none (.slice da dl dc) da.isNone E) (hq : q ≤ len) :
    Calls Try.prog 4 #[.slice a len cap, .int .i64 q, .int .u8 t, .slice da dl dc, .string name] w fun e w' => e = .returned (.bool true) ∧ Below w.heap.size w w' := by
  have hEl : E.length ≤ 1048576 := by obtain ⟨_, _, e, _⟩ := hE; simp at e; omega
  go_enter Try.func4, Try.ntmps4
  go_wp2_with fail
  refine (bytes13 a len cap b off N T A L C D q t da dl dc name _ h hlm (by omega) (by omega)).mono ?_
  rintro e w' ⟨⟨b0, rfl, hs⟩, rfl⟩
  cases b0
  · go_wp2_with fail
    go_ret
    exact ⟨rfl, Below.refl _ _⟩
  · have hS := hs rfl
    clear hs
    have hl : len ≤ 1048576 := hS.1
    go_wp2_with fail
    refine (sizeFits_any a len cap b off N T A L C D _ h hl _ (by omega) (by omega)).mono ?_
    rintro e w0 ⟨⟨b1, rfl⟩, m, rfl⟩
    cases b1
    · go_wp2_with fail
      go_ret
      exact ⟨rfl, below_drewN (Below.refl _ _) m⟩
    · have B0 : Below w'.heap.size w' (w'.drewN m) := below_drewN (Below.refl _ _) m
      have h0 := h.below B0
      generalize w'.drewN m = w0 at *
      have g1 : ¬ (q : Int) < 0 := by omega
      have g2 : ¬ (len : Int) < (q : Int) := by omega
      go_wp2_with fail
      refine (names_any a len cap b off N T A L C D _ h0 hl).mono ?_
      rintro e w1 ⟨⟨b2, rfl⟩, rfl⟩
      cases b2
      · go_wp2_with fail
        refine (hasNul_any name _ (by omega)).mono ?_
        rintro e w2 ⟨⟨b3, rfl⟩, rfl⟩
        cases b3
        · go_wp2_with fail
          refine (values_full a len cap b off N T A L C D _ h0 hS _ _ 0 q (by omega) (by omega) (by omega) (by omega)).mono ?_
          rintro e x1 ⟨v1, ps1, rfl, Dc1, hv1, Bx1, O1⟩
          have Dd1 := Dc1.weaken B0.size
          have BX1 := below_step B0 (Nat.le_refl _) Bx1
          have hE1 := hE.below BX1
          have HV1 : Hid (ps1.map Prod.fst = valsOf N T A D 0 (q - 0)) := hv1
          have HR1 : ∀ k, v1.ownBlock = some k → k < x1.heap.size := fun k hk => (Dd1.1.lt k hk).2
          have L1 : ps1.length + 1 ≤ 16777216 := by have := congrArg List.length hv1; simp [valsOf_length] at this; omega
          clear Dc1 hv1 Bx1 h0 B0 O1
          go_wp2_with fail
          refine (clone_sl hE1 hEl v1.ownBlock HR1).mono ?_
          rintro e x2 ⟨o2, l2, c2, rfl, HB2, Bx2, O2⟩
          have Dd2 := Dd1.below Bx2
          have BX2 := below_step BX1 (Nat.le_refl _) Bx2
          clear Dd1 BX1 hE1 HR1 O2
          go_wp2_with fail
          refine (newValue_any _ _ _ _ _ _).mono ?_
          rintro e x3 ⟨rfl, z, rfl⟩
          go_wp2_with (at_builtin; refine wpList_doc (Dd2.below (two_new x2 z _)) ⟨name, t, da.isNone, E⟩ _ (HB2.below (two_new x2 z _)) rfl (.tmp 61) (.tmp 67) rfl ⟨x2.heap.size + 1, 0, none⟩ 1 rfl rfl (by simpa using news_at (w := x2.alloc z) 33) L1 (by simp; have := BX2.size; omega) ?_; intro v4 x4 D4 G4 A4)
          have BX4 : Below w'.heap.size w' x4 := (below_step BX2 (Nat.le_refl _) (two_new x2 z _)).grown G4 (by have := BX2.size; simp; omega) fun k hk => (Dd2.1.lt k hk).1
          have L4 : (ps1 ++ [((⟨name, t, da.isNone, E⟩ : Val), Value.slice o2 l2 c2)]).length ≤ 1048577 := by have := congrArg List.length HV1.out; simp [valsOf_length] at this ⊢; omega
          have HV4 : Hid ((ps1 ++ [((⟨name, t, da.isNone, E⟩ : Val), Value.slice o2 l2 c2)]).map Prod.fst = valsOf N T A D 0 q ++ [⟨name, t, da.isNone, E⟩]) := by
            have e := HV1.out
            rw [Nat.sub_zero] at e
            show _ = _
            rw [List.map_append, e]; rfl
          clear G4 A4 Dd2 BX2 Bx2 HB2 L1 HV1
          generalize (ps1 ++ [((⟨name, t, da.isNone, E⟩ : Val), Value.slice o2 l2 c2)]) = ps12 at *
          refine (values_full a len cap b off N T A L C D _ (h.below BX4) hS _ _ q len (by omega) (by omega) (by omega) (by omega)).mono ?_
          rintro e x5 ⟨vr, ps3, rfl, D5, hv3, B5, O5⟩
          have I0 := Ins.start D4 BX4 D5 B5 O5
          obtain ⟨ro, rg, rc, rfl, hro, hxx⟩ := D5.form
          clear hxx
          have L3 : ps3.length = len - q := by have := congrArg List.length hv3; simpa [valsOf_length] using this
          have L3' : ps3.length ≤ 1048576 := by omega
          have HV3 : Hid (ps3.map Prod.fst = valsOf N T A D q (len - q)) := hv3
          clear D4 BX4 D5 B5 O5 hv3 L3
          go_wp2_with fail
          go_loopw [11, 13] (fun v i wr => ∃ k : Nat, k ≤ ps3.length ∧ i = .int .i64 k ∧ Ins w' wr v (.slice ro ps3.length rc) ps12 ps3 k) (fun _ i _ => ps3.length - (intOf i).toNat)
          case atStart => exact ⟨0, Nat.zero_le _, rfl, I0⟩
          case round =>
            obtain ⟨k, hk, rfl, hI⟩ := hrel
            clear I0
            by_cases hlt : k < ps3.length
            · obtain rfl := hro (by omega)
              obtain ⟨e1, e2, e3, ⟨o', l', c', ev⟩, HB⟩ := hI.cells hlt
              have HP : Hid ((ps3[k].1, Value.slice o' l' c') = ps3[k]) := by show _ = _; rw [← ev]
              have HD := hI.1
              have HL : (ps12 ++ ps3.take k).length + 1 ≤ 16777216 := by simp; omega
              have HBs := hI.2.2.2.2.size
              rw [ev] at e3 HB
              clear ev
              obtain ⟨val, hval⟩ : ∃ val, val = ps3[k].1 := ⟨_, rfl⟩
              rw [← hval] at e1 e2 HB
              have HV : Hid (val = ps3[k].1) := hval
              clear hval
              have HI : Hid (Ins w' wr u11 (.slice (some ⟨rg, 0, none⟩) ps3.length rc) ps12 ps3 k) := hI
              clear hI
              go_wp2_with (at_builtin; refine wpList_doc (HD.below (one_new wr _)) val _ (HB.below (one_new wr _)) rfl (.tmp 80) (.tmp 85) rfl ⟨wr.heap.size, 0, none⟩ 1 rfl rfl (news_at (w := wr) 33) HL (by simp; omega) ?_; intro v6 x6 D6 G6 A6)
              have HS := HI.out.step hlt (by rw [← HP.out, ← HV.out]; exact D6) G6 A6
              clear D6 G6 A6 e1 e2 e3 HB HD
              go_roundw
              case rel => exact ⟨k + 1, by omega, by go_num, HS⟩
              case measure => simp [intOf]; omega
            · obtain rfl : k = ps3.length := by omega
              have DV := hI.1
              have BX5 := hI.2.2.2.2
              rw [List.take_length] at DV
              have HV5 : Hid ((ps12 ++ ps3).map Prod.fst = valsOf N T A D 0 q ++ [⟨name, t, da.isNone, E⟩] ++ valsOf N T A D q (len - q)) := by show _ = _; rw [List.map_append, HV4.out, HV3.out]
              have L5 : (ps12 ++ ps3).length ≤ 16777216 := by simp; omega
              clear hI HV4 HV3 L4 L3' hro hk hlt
              generalize ps12 ++ ps3 = ps5 at *
              go_wp2_with fail
              refine (newDoc_doc DV).mono ?_
              rintro e y1 ⟨o1, l1, c1, rfl, rfl, z1, rfl⟩
              have DA1 := docAt_new DV z1
              have BX1 := below_step BX5 (Nat.le_refl _) (two_new wr z1 (.cells #[.slice o1 l1 c1] 28))
              rw [HV5.out] at DA1
              go_wp2_with fail
              clear DV BX5
              generalize ((wr.alloc z1).alloc (.cells #[.slice o1 l1 c1] 28)) = X1 at *
              generalize wr.heap.size + 1 = p1 at *
              refine (values_int a len cap b off N T A L C D _ (h.below BX1) hS _ _ 0 q (by omega) (by omega) (by omega) (by omega)).mono ?_
              rintro e x6 ⟨v6, base6, ps6, rfl, Dc6, hv6, Bx6⟩
              go_wp2_with fail
              refine (newDoc_doc Dc6).mono ?_
              rintro e y6 ⟨o6, l6, c6, rfl, rfl, z6, rfl⟩
              have DA2 := docAt_new Dc6 z6
              have Bxx := below_step Bx6 (Nat.le_refl _) (two_new x6 z6 (.cells #[.slice o6 l6 c6] 28))
              have BX2 := below_step BX1 (Nat.le_refl _) Bxx
              have DA1' := DA1.below Bxx
              rw [hv6] at DA2
              clear Dc6 hv6 Bx6 Bxx DA1 BX1
              generalize hX2 : ((x6.alloc z6).alloc (.cells #[.slice o6 l6 c6] 28)) = X2 at *
              generalize hp2 : x6.heap.size + 1 = p2 at *
              obtain ⟨o1', l1', c1', base1', ps1', Cc1, Dd1, Hv1⟩ := DA1'
              have HW1 : Hid (ps1'.map Prod.fst = valsOf N T A D 0 q ++ [⟨name, t, da.isNone, E⟩] ++ valsOf N T A D q (len - q)) := Hv1
              clear Hv1
              go_wp2_with fail
              clear hX2 hp2
              refine (look_at name Dd1 HW1.out (by simp [valsOf_length]; omega)).mono ?_
              rintro e y1 ⟨n1, t1, ro1, rl1, rc1, bw, rfl, R1, By1⟩
              have Bz := below_step By1 (Nat.le_refl _) (one_new y1 (.cells #[.string n1, .int .u8 t1, .slice ro1 rl1 rc1] 33))
              have BZ1 := below_step BX2 (Nat.le_refl _) Bz
              have DA2' := DA2.below Bz
              have R1' := R1.below (one_new y1 (.cells #[.string n1, .int .u8 t1, .slice ro1 rl1 rc1] 33))
              have V1 := ValAt.new y1 n1 t1 (.slice ro1 rl1 rc1)
              clear Cc1 Dd1 HW1 R1 By1 Bz BX2 DA2
              generalize hZ1 : y1.alloc (.cells #[.string n1, .int .u8 t1, .slice ro1 rl1 rc1] 33) = Z1 at *
              generalize hr1 : y1.heap.size = r1 at *
              obtain ⟨o2', l2', c2', base2', ps2', Cc2, Dd2, Hv2⟩ := DA2'
              have HW2 : Hid (ps2'.map Prod.fst = valsOf N T A D 0 (q - 0)) := Hv2
              clear Hv2
              go_wp2_with fail
              clear hZ1 hr1
              refine (look_at name Dd2 HW2.out (by rw [valsOf_length]; omega)).mono ?_
              rintro e y2 ⟨n2, t2, ro2, rl2, rc2, bf, rfl, R2, By2⟩
              have Bz := below_step By2 (Nat.le_refl _) (one_new y2 (.cells #[.string n2, .int .u8 t2, .slice ro2 rl2 rc2] 33))
              have BZ2 := below_step BZ1 (Nat.le_refl _) Bz
              have R1 := R1'.below Bz
              have V1' := V1.below Bz
              have R2' := R2.below (one_new y2 (.cells #[.string n2, .int .u8 t2, .slice ro2 rl2 rc2] 33))
              have V2 := ValAt.new y2 n2 t2 (.slice ro2 rl2 rc2)
              clear Cc2 Dd2 HW2 R2 By2 Bz BZ1 R1' V1
              generalize hZ2 : y2.alloc (.cells #[.string n2, .int .u8 t2, .slice ro2 rl2 rc2] 33) = Z2 at *
              generalize hr2 : y2.heap.size = r2 at *
              obtain ⟨s0, s1, s2⟩ := V1'
              obtain ⟨u0, u1, u2⟩ := V2
              have hDl := fun j hj => data_len h hS j hj
              have hEZ := hE.below BZ2
              rcases insert_two hq hDl hEl hEZ R1 R2' with ⟨rfl, rfl, rfl, rfl, hm, tw⟩ | ⟨rfl, rfl, rfl, rfl, tw⟩
              · clear R1 R2' hDl h hS hE hEZ
                go_wp2_with fail
                obtain ⟨nl, D', tw1, tw2, tw3⟩ := tw
                refine (sameVal_any _ _ _ _ _ _ _ _ _ tw1 tw2 tw3).mono ?_
                rintro e wf ⟨rfl, Bf⟩
                have BF := below_step BZ2 (Nat.le_refl _) Bf
                clear BZ2 Bf tw1 tw2
                go_wp2_with fail
                go_ret
                exact ⟨rfl, BF⟩
              · clear R1 R2' hDl h hS hE hEZ
                go_wp2_with fail
                obtain ⟨nl, D', tw1, tw2, tw3⟩ := tw
                refine (data_any _ _ _ _ _ _).mono ?_
                rintro e wf ⟨rfl, z9, rfl⟩
                have B9 := one_new Z2 z9
                go_wp2_with fail
                refine (same_any (tw1.below B9) (tw2.below B9) tw3).mono ?_
                rintro e wg ⟨rfl, m9, rfl⟩
                have BF := below_drewN (below_step BZ2 (Nat.le_refl _) B9) m9
                clear BZ2 B9 tw1 tw2
                go_wp2_with fail
                go_ret
                exact ⟨rfl, BF⟩
        · go_wp2_with fail
          go_ret
          exact ⟨rfl, B0⟩
      · go_wp2_with fail
        go_ret
        exact ⟨rfl, B0⟩

set_option maxRecDepth 100000 in
set_option maxHeartbeats 1000000 in
theorem lawI_out (a : Option Addr) (len cap b off : Nat) (N : Nat → ByteArray) (T : Nat → Int) (A : Nat → Option Addr) (L C : Nat → Nat) (D : Nat → List Int) (p t : Int) (da : Option Addr) (dl dc : Nat) (name : ByteArray) (w : World) (h : Elems w a len b off N T A L C D) (hlm : len ≤ 9223372036854775807) (hn : name.size ≤ 9223372036854775807) (hd : dl ≤ 9223372036854775807)
    (hc : (¬ name.size ≤ 1048576 ∨ (name.size ≤ 1048576 ∧ ¬ dl ≤ 1048576)) ∨ (name.size ≤ 1048576 ∧ dl ≤ 1048576 ∧ p < 0) ∨ (name.size ≤ 1048576 ∧ dl ≤ 1048576 ∧ 0 ≤ p ∧ (len : Int) < p)) :
    Calls Try.prog 4 #[.slice a len cap, .int .i64 p, .int .u8 t, .slice da dl dc, .string name] w fun e w' => e = .returned (.bool true) ∧ Below w.heap.size w w' := by
  rcases hc with (hc | ⟨hn', hc⟩) | ⟨hn', hd', hc⟩ | ⟨hn', hd', hc0, hc⟩
  iterate 2
    · go_enter Try.func4, Try.ntmps4
      go_wp2_with fail
      refine (bytes13 a len cap b off N T A L C D p t da dl dc name _ h hlm hn hd).mono ?_
      rintro e w' ⟨⟨b0, rfl, hs⟩, rfl⟩
      clear hs
      cases b0
      all_goals
        go_wp2_with fail
        go_ret
        exact ⟨rfl, Below.refl _ _⟩
  all_goals
    go_enter Try.func4, Try.ntmps4
    go_wp2_with fail
    refine (bytes13 a len cap b off N T A L C D p t da dl dc name _ h hlm hn hd).mono ?_
    rintro e w' ⟨⟨b0, rfl, hs⟩, rfl⟩
    cases b0
    · go_wp2_with fail
      go_ret
      exact ⟨rfl, Below.refl _ _⟩
    · have hS := hs rfl
      clear hs
      have hl : len ≤ 1048576 := hS.1
      go_wp2_with fail
      refine (sizeFits_any a len cap b off N T A L C D _ h hl _ (by omega) (by omega)).mono ?_
      rintro e w0 ⟨⟨b1, rfl⟩, m, rfl⟩
      have B0 : Below w'.heap.size w' (w'.drewN m) := below_drewN (Below.refl _ _) m
      generalize w'.drewN m = w0 at *
      cases b1
      all_goals
        go_wp2_with fail
        go_ret
        exact ⟨rfl, B0⟩

theorem lawI (a : Option Addr) (len cap b off : Nat) (N : Nat → ByteArray) (T : Nat → Int) (A : Nat → Option Addr) (L C : Nat → Nat) (D : Nat → List Int) (p t : Int) (da : Option Addr) (dl dc : Nat) (E : List Int) (name : ByteArray) (w : World) (h : Elems w a len b off N T A L C D) (hlm : len ≤ 9223372036854775807) (hn : name.size ≤ 9223372036854775807) (hd : dl ≤ 9223372036854775807) (hE : Bytes w none (.slice da dl dc) da.isNone E) :
    Calls Try.prog 4 #[.slice a len cap, .int .i64 p, .int .u8 t, .slice da dl dc, .string name] w fun e w' => e = .returned (.bool true) ∧ Below w.heap.size w w' := by
  by_cases h1 : name.size ≤ 1048576
  · by_cases h4 : dl ≤ 1048576
    · by_cases h2 : p < 0
      · exact lawI_out a len cap b off N T A L C D p t da dl dc name w h hlm hn hd (.inr (.inl ⟨h1, h4, h2⟩))
      · by_cases h3 : (len : Int) < p
        · exact lawI_out a len cap b off N T A L C D p t da dl dc name w h hlm hn hd (.inr (.inr ⟨h1, h4, by omega, h3⟩))
        · obtain ⟨q, rfl⟩ := Int.eq_ofNat_of_zero_le (show 0 ≤ p by omega)
          exact lawI_in a len cap b off N T A L C D q t da dl dc E name w h hlm h1 h4 hE (by omega)
    · exact lawI_out a len cap b off N T A L C D p t da dl dc name w h hlm hn hd (.inl (.inr ⟨h1, h4⟩))
  · exact lawI_out a len cap b off N T A L C D p t da dl dc name w h hlm hn hd (.inl (.inl h1))
end Go.Proofs.Qxb6630272a
