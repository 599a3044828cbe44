import Derived.Test.Qxb6630316aInsert
namespace Go.Proofs.Qxb6630316a
open Go.RowKit Go.Lib

set_option maxRecDepth 100000 in
set_option maxHeartbeats 4000000 in
theorem lawI_in (a : Option Addr) (len cap b off : Nat) (K : Nat → ByteArray) (na : Option Addr) (nl nc nb no : Nat) (F : Nat → Bool) (pp : Nat) (k key : ByteArray) (w : World)
    (h : Strs w a len b off K) (hK : Lens len K) (hF : Row w na nl nb no fun i => .bool (F i)) (k1 : k.size ≤ 1048576) (k2 : key.size ≤ 1048576) (s1 : len ≤ 65536) (s2 : nl ≤ 65536) (hpp : pp ≤ len) :
    Calls Try.prog 4 #[.slice a len cap, .slice na nl nc, .int .i64 pp, .string k, .string key] w fun e w' => e = .returned (.bool true) ∧ Below w.heap.size w w' := by
  obtain ⟨i33, q1, q2, q3, q4⟩ := info33_parts
  have g1 : ¬ (pp : Int) < 0 := by omega
  have g2 : ¬ (len : Int) < (pp : Int) := by omega
  go_enter Try.func4, Try.ntmps4
  go_wp2_with fail
  refine (bytes7 a len cap b off K na nl nc pp k key _ h hK (by omega) (by omega) (by omega) (by omega)).mono ?_
  rintro e w' ⟨⟨b0, rfl, hup⟩, rfl⟩
  cases b0
  · go_wp2_with fail
    go_ret
    exact ⟨rfl, Below.refl _ _⟩
  · have uK := hup rfl
    clear hup
    go_wp2_with fail
    · go_ret
      exact ⟨rfl, Below.refl _ _⟩
    · go_loop [11, 12] (fun t i => ∃ q : Nat, q ≤ len ∧ i = .int .i64 q ∧ ∃ y : Int, 0 ≤ y ∧ y ≤ 1048576 ∧ t = .int .i64 y) (fun _ i => len - (intOf i).toNat)
      case atStart => exact ⟨0, Nat.zero_le _, rfl, _, by omega, by omega, rfl⟩
      case round =>
        obtain ⟨q, hq, rfl, y, hy0, hy1, rfl⟩ := hrel
        by_cases hlt : q < len
        · obtain rfl := h.addr (by omega)
          have c1 := h.cell q hlt
          have n1 := uK q hlt
          by_cases z2 : y + ((K q).size : Int) ≤ 1048576
          · go_wp2_with fail
            go_round
            case rel => exact ⟨q + 1, by omega, by go_num, _, by omega, z2, rfl⟩
            case measure => simp [intOf]; omega
          · go_wp2_with fail
            go_ret
            exact ⟨rfl, Below.refl _ _⟩
        · clear hq
          go_wp2_with (at_make; refine wpList_make_full _ rfl (.tmp 87) (.tmp 87) 27 rfl w'.heap.size 33 i33 (.agg #[.string ByteArray.empty, .int .i64 0, .pointer none, .bool false]) 4 Try.underlying27 q1 q2 q3 _ _ _ _ len rfl rfl rfl rfl (by rw [q4]; omega) (by unfold maxLen; omega) (Nat.le_refl _) ?_; intro w2 hown2 hgrow2; have B0 := Bm.start (K := K) hown2 hgrow2; clear hown2 hgrow2; generalize hgm : w'.heap.size = gm at *)
          have HGM : Hid (w'.heap.size = gm) := hgm
          clear hgm hlt
          go_loopw [14] (fun i wr => ∃ j : Nat, j ≤ len ∧ i = .int .i64 j ∧ Bm w' wr len gm K j) (fun i _ => len - (intOf i).toNat)
          case atStart => exact ⟨0, Nat.zero_le _, rfl, B0⟩
          case round =>
            obtain ⟨j, hj, rfl, hB⟩ := hrel
            clear B0
            by_cases hlt : j < len
            · obtain rfl := h.addr (by omega)
              have hBw : Below w'.heap.size w' wr := by obtain ⟨_, _, hb, _⟩ := hB; exact hb
              have c1 : wr.cell? ⟨b, off + j, none⟩ = some (.string (K j)) := (h.below hBw).cell j hlt
              have HB : Hid (Bm w' wr len gm K j) := hB
              obtain ⟨⟨x0, x1, x2, x3, m0, m1, m2, m3, f0, f1, f2, f3⟩, lgm⟩ := hB.cells hlt
              clear hB
              have lb : b < gm := by rw [← HGM.out]; exact World.block_lt_of_cell? w' _ (h.cell j hlt)
              have lb2 : b < wr.heap.size := by omega
              by_cases e1 : j < nl
              · obtain rfl := hF.addr (by omega)
                have cF : wr.cell? ⟨nb, no + j, none⟩ = some (.bool (F j)) := (hF.below hBw).cell j e1
                cases hf : F j
                · rw [hf] at cF
                  clear hBw
                  go_wp2_with fail
                  go_roundw
                  case rel => exact ⟨j + 1, by omega, by go_num, (HB.out.step hlt _).alloc _⟩
                  case measure => simp [intOf]; omega
                · rw [hf] at cF
                  clear hBw
                  go_wp2_with fail
                  go_roundw
                  case rel => exact ⟨j + 1, by omega, by go_num, HB.out.step hlt _⟩
                  case measure => simp [intOf]; omega
              · clear hBw
                go_wp2_with fail
                go_roundw
                case rel => exact ⟨j + 1, by omega, by go_num, (HB.out.step hlt _).alloc _⟩
                case measure => simp [intOf]; omega
            · obtain rfl : j = len := by omega
              clear hj hlt
              go_wp2_with fail
              have HB2 := hB.alloc (.cells #[.string ⟨#[111, 98, 106, 101, 99, 116]⟩, .int .i64 0, .string ⟨#[]⟩, .slice (some ⟨gm, 0, none⟩) j j, .slice none 0 0, .bool false] 31)
              have hp3 : (wr.alloc (.cells #[.string ⟨#[111, 98, 106, 101, 99, 116]⟩, .int .i64 0, .string ⟨#[]⟩, .slice (some ⟨gm, 0, none⟩) j j, .slice none 0 0, .bool false] 31)).cell? ⟨wr.heap.size, 3, none⟩ = some (.slice (some ⟨gm, 0, none⟩) j j) := by simp
              clear hB
              generalize wr.alloc (.cells #[.string ⟨#[111, 98, 106, 101, 99, 116]⟩, .int .i64 0, .string ⟨#[]⟩, .slice (some ⟨gm, 0, none⟩) j j, .slice none 0 0, .bool false] 31) = WX at *
              generalize wr.heap.size = pv at *
              obtain ⟨V, hMm, hbw, _⟩ := HB2
              refine (lookup_any key WX pv j gm j (some ⟨gm, 0, none⟩) K V (by omega) hp3 (fun _ => rfl) (fun i hi => ⟨(hMm.read i hi).1, (hMm.read i hi).2.2.1⟩)).mono ?_
              rintro e wf ⟨rfl, rfl⟩
              clear hp3
              have hM3 : Mems (wf.alloc (.cells #[.string ⟨#[115, 116, 114, 105, 110, 103]⟩, .int .i64 0, .string k, .slice none 0 0, .slice none 0 0, .bool false] 31)) gm j K (fun _ => 0) V (fun _ => false) j := hMm.of_block (Below.heap_alloc wf _ gm hMm.lt)
              have hb3 := below_step hbw (Nat.le_refl _) (one_new wf (.cells #[.string ⟨#[115, 116, 114, 105, 110, 103]⟩, .int .i64 0, .string k, .slice none 0 0, .slice none 0 0, .bool false] 31))
              clear hMm hbw
              generalize hW3 : wf.alloc (.cells #[.string ⟨#[115, 116, 114, 105, 110, 103]⟩, .int .i64 0, .string k, .slice none 0 0, .slice none 0 0, .bool false] 31) = W3 at *
              generalize hpn : wf.heap.size = pn at *
              generalize hbe : lastAt K V key j = bef at *
              go_wp2_with (at_make; refine wpList_make_own _ rfl _ _ 27 rfl W3.heap.size 33 i33 (.agg #[.string ByteArray.empty, .int .i64 0, .pointer none, .bool false]) 4 Try.underlying27 q1 q2 q3 _ _ _ (j + 1) rfl rfl (by omega) (by rw [q4]; omega) (by unfold maxLen; omega) (Nat.le_refl _) ?_; intro w4 hown4 hgrow4; have O0 : Own W3 w4 (.slice (some ⟨W3.heap.size, 0, none⟩) 0 (j + 1)) [] := ⟨hown4, (Below.refl _ _).grown hgrow4 (Nat.le_refl _) (by simp)⟩; clear hown4 hgrow4)
              have HBE : Hid (lastAt K V key j = bef) := hbe
              clear hbe hW3 hpn
              go_loopw [19, 20] (fun v i wr => ∃ c : Nat, c ≤ pp ∧ i = .int .i64 c ∧ Own W3 wr v (memsOf K V c)) (fun _ i _ => pp - (intOf i).toNat)
              case atStart => exact ⟨0, Nat.zero_le _, rfl, O0⟩
              case round =>
                obtain ⟨c, hc, rfl, hO⟩ := hrel
                clear O0
                by_cases hlt : c < pp
                · obtain ⟨d0, d1, d2, d3⟩ := (hM3.of_block (hO.2.block gm hM3.lt)).read c (by omega)
                  have HL : (memsOf K V c).length + 1 ≤ 16777216 := by rw [memsOf_length]; omega
                  have HO : Hid (Own W3 wr u19 (memsOf K V c)) := hO
                  clear hO
                  go_wp2_with (at_builtin; refine wpList_own HO.out (K c) (V c) rfl (.tmp 139) (.tmp 144) rfl rfl rfl HL ?_; intro v6 w6 O6)
                  go_roundw
                  case rel => exact ⟨c + 1, by omega, by go_num, by rw [memsOf_succ]; exact O6⟩
                  case measure => simp [intOf]; omega
                · obtain rfl : c = pp := by omega
                  clear hc hlt
                  have HL : (memsOf K V c).length + 1 ≤ 16777216 := by rw [memsOf_length]; omega
                  have HO : Hid (Own W3 wr u19 (memsOf K V c)) := hO
                  clear hO
                  go_wp2_with (at_builtin; refine wpList_own HO.out k (some ⟨pn, 0, none⟩) rfl (.tmp 146) (.tmp 150) rfl rfl rfl HL ?_; intro v6 w6 O6)
                  go_loopw [19, 21] (fun v i wr => ∃ d : Nat, c ≤ d ∧ d ≤ j ∧ i = .int .i64 d ∧ Own W3 wr v (memsOf K V c ++ [(k, some (⟨pn, 0, none⟩ : Addr))] ++ restOf K V c (d - c))) (fun _ i _ => j - (intOf i).toNat)
                  case atStart => exact ⟨c, Nat.le_refl _, hpp, rfl, by rw [Nat.sub_self]; simpa [restOf] using O6⟩
                  case round =>
                    obtain ⟨d, hd1, hd2, rfl, hO⟩ := hrel
                    clear O6 HO
                    by_cases hlt : d < j
                    · obtain ⟨d0, d1, d2, d3⟩ := (hM3.of_block (hO.2.block gm hM3.lt)).read d hlt
                      have HL2 : (memsOf K V c ++ [(k, some (⟨pn, 0, none⟩ : Addr))] ++ restOf K V c (d - c)).length + 1 ≤ 16777216 := by simp [memsOf_length, restOf_length]; omega
                      have HO : Hid (Own W3 wr u19 (memsOf K V c ++ [(k, some (⟨pn, 0, none⟩ : Addr))] ++ restOf K V c (d - c))) := hO
                      clear hO
                      go_wp2_with (at_builtin; refine wpList_own HO.out (K d) (V d) rfl (.tmp 159) (.tmp 164) rfl rfl rfl HL2 ?_; intro v7 w7 O7)
                      go_roundw
                      case rel => exact ⟨d + 1, by omega, by omega, by go_num, by rw [show d + 1 - c = (d - c) + 1 from by omega, restOf_succ, show c + (d - c) = d from by omega, ← List.append_assoc]; exact O7⟩
                      case measure => simp [intOf]; omega
                    · obtain rfl : d = j := by omega
                      clear hd1 hd2 hlt HL
                      have hlen : (memsOf K V c ++ [(k, some (⟨pn, 0, none⟩ : Addr))] ++ restOf K V c (d - c)).length = d + 1 := by simp [memsOf_length, restOf_length]; omega
                      have HN : Hid ((key.toList == k.toList) = true → shad K k c (d - c) = false → lastF key (memsOf K V c ++ [(k, some (⟨pn, 0, none⟩ : Addr))] ++ restOf K V c (d - c)) = some ⟨pn, 0, none⟩) := fun x y => after_new K V k key _ c d x y
                      have HOLD : Hid ((key.toList == k.toList) = false ∨ shad K k c (d - c) = true → lastF key (memsOf K V c ++ [(k, some (⟨pn, 0, none⟩ : Addr))] ++ restOf K V c (d - c)) = bef) := fun x => (after_old K V k key _ c d hpp x).trans HBE.out
                      generalize memsOf K V c ++ [(k, some (⟨pn, 0, none⟩ : Addr))] ++ restOf K V c (d - c) = ms at *
                      obtain ⟨g, cc, rfl, hcc⟩ := hO.form (by omega)
                      have hBO := below_step hb3 (Nat.le_refl _) hO.2
                      have HMS : Hid (ms.length = d + 1) := hlen
                      rw [hlen] at hcc ⊢
                      clear hO hM3 hb3 HBE hlen
                      go_wp2_with fail
                      have hBy := one_new wr (.cells #[.string ⟨#[111, 98, 106, 101, 99, 116]⟩, .int .i64 0, .string ⟨#[]⟩, .slice (some ⟨g, 0, none⟩) (d + 1) cc, .slice none 0 0, .bool false] 31)
                      have hp4 : (wr.alloc (.cells #[.string ⟨#[111, 98, 106, 101, 99, 116]⟩, .int .i64 0, .string ⟨#[]⟩, .slice (some ⟨g, 0, none⟩) (d + 1) cc, .slice none 0 0, .bool false] 31)).cell? ⟨wr.heap.size, 3, none⟩ = some (.slice (some ⟨g, 0, none⟩) (d + 1) cc) := by simp
                      have hBF := below_step hBO (Nat.le_refl _) hBy
                      have hcy : ∀ i, i < d + 1 → (wr.alloc (.cells #[.string ⟨#[111, 98, 106, 101, 99, 116]⟩, .int .i64 0, .string ⟨#[]⟩, .slice (some ⟨g, 0, none⟩) (d + 1) cc, .slice none 0 0, .bool false] 31)).cell? ⟨g, i * 4, none⟩ = some (.string (ms.getD i (ByteArray.empty, none)).1) ∧ (wr.alloc (.cells #[.string ⟨#[111, 98, 106, 101, 99, 116]⟩, .int .i64 0, .string ⟨#[]⟩, .slice (some ⟨g, 0, none⟩) (d + 1) cc, .slice none 0 0, .bool false] 31)).cell? ⟨g, i * 4 + 2, none⟩ = some (.pointer (ms.getD i (ByteArray.empty, none)).2) := fun i hi =>
                        ⟨(hBy.cell (World.block_lt_of_cell? wr _ (hcc i hi).1)).trans (hcc i hi).1, (hBy.cell (World.block_lt_of_cell? wr _ (hcc i hi).2)).trans (hcc i hi).2⟩
                      clear hcc hBO hBy
                      generalize wr.alloc (.cells #[.string ⟨#[111, 98, 106, 101, 99, 116]⟩, .int .i64 0, .string ⟨#[]⟩, .slice (some ⟨g, 0, none⟩) (d + 1) cc, .slice none 0 0, .bool false] 31) = WY at *
                      generalize wr.heap.size = pw at *
                      refine (lookup_any key WY pw (d + 1) g cc (some ⟨g, 0, none⟩) (fun i => (ms.getD i (ByteArray.empty, none)).1) (fun i => (ms.getD i (ByteArray.empty, none)).2) (by omega) hp4 (fun _ => rfl) hcy).mono ?_
                      rintro e wz ⟨rfl, rfl⟩
                      clear hp4 hcy
                      have hla := lastAt_getD ms key
                      rw [HMS.out] at hla
                      rw [hla]
                      clear hla HMS
                      generalize lastF key ms = aft at *
                      go_wp2_with fail
                      go_loop [24, 25] (fun s i => ∃ x : Nat, c ≤ x ∧ x ≤ d ∧ i = .int .i64 x ∧ s = .bool (shad K k c (x - c))) (fun _ i => d - (intOf i).toNat)
                      case atStart => exact ⟨c, Nat.le_refl _, hpp, rfl, by rw [Nat.sub_self]; rfl⟩
                      case round =>
                        obtain ⟨x, hx1, hx2, rfl, rfl⟩ := hrel
                        by_cases hlx : x < d
                        · obtain rfl := h.addr (by omega)
                          have c1 : wz.cell? ⟨b, off + x, none⟩ = some (.string (K x)) := (h.below hBF).cell x hlx
                          have hst : shad K k c (x + 1 - c) = if ((K x).toList == k.toList) = true then true else shad K k c (x - c) := by
                            rw [show x + 1 - c = (x - c) + 1 from by omega]
                            simp only [shad, show c + (x - c) = x from by omega]
                          by_cases hm : ((K x).toList == k.toList) = true
                          · have HX : Hid (shad K k c (x + 1 - c) = true) := by show _ = _; rw [hst, if_pos hm]
                            clear hst
                            go_wp2_with fail
                            go_round
                            case rel => exact ⟨x + 1, by omega, by omega, by go_num, by rw [HX.out]⟩
                            case measure => simp [intOf]; omega
                          · have HX : Hid (shad K k c (x + 1 - c) = shad K k c (x - c)) := by show _ = _; rw [hst, if_neg hm]
                            clear hst
                            go_wp2_with fail
                            go_round
                            case rel => exact ⟨x + 1, by omega, by omega, by go_num, by rw [HX.out]⟩
                            case measure => simp [intOf]; omega
                        · obtain rfl : x = d := by omega
                          cases hs : shad K k c (x - c)
                          · by_cases hkk : (key.toList == k.toList) = true
                            · have ea := HN.out hkk hs
                              subst ea
                              clear HN HOLD hs
                              go_wp2_with fail
                              rw [eqlP]
                              go_wp2_with fail
                              go_ret
                              exact ⟨rfl, hBF⟩
                            · have hkk' : (key.toList == k.toList) = false := by simpa using hkk
                              have ea := HOLD.out (.inl hkk')
                              subst ea
                              clear HN HOLD hs hkk
                              go_wp2_with fail
                              rw [eqlP]
                              go_wp2_with fail
                              go_ret
                              exact ⟨rfl, hBF⟩
                          · have ea := HOLD.out (.inr hs)
                            subst ea
                            clear HN HOLD hs
                            by_cases hkk : (key.toList == k.toList) = true
                            · go_wp2_with fail
                              rw [eqlP]
                              go_wp2_with fail
                              go_ret
                              exact ⟨rfl, hBF⟩
                            · have hkk' : (key.toList == k.toList) = false := by simpa using hkk
                              clear hkk
                              go_wp2_with fail
                              rw [eqlP]
                              go_wp2_with fail
                              go_ret
                              exact ⟨rfl, hBF⟩

set_option maxRecDepth 100000 in
set_option maxHeartbeats 4000000 in
theorem lawI_early (a : Option Addr) (len cap b off : Nat) (K : Nat → ByteArray) (na : Option Addr) (nl nc : Nat) (p : Int) (k key : ByteArray) (w : World)
    (h : Strs w a len b off K) (hK : Lens len K) (hl : len ≤ 9223372036854775807) (hnl : nl ≤ 9223372036854775807) (hk : k.size ≤ 9223372036854775807) (hkey : key.size ≤ 9223372036854775807)
    (hc : ¬ k.size ≤ 1048576 ∨ (k.size ≤ 1048576 ∧ ¬ key.size ≤ 1048576) ∨ (k.size ≤ 1048576 ∧ key.size ≤ 1048576 ∧ ¬ len ≤ 65536) ∨ (k.size ≤ 1048576 ∧ key.size ≤ 1048576 ∧ len ≤ 65536 ∧ ¬ nl ≤ 65536)) :
    Calls Try.prog 4 #[.slice a len cap, .slice na nl nc, .int .i64 p, .string k, .string key] w fun e w' => e = .returned (.bool true) ∧ Below w.heap.size w w' := by
  rcases hc with d1 | ⟨d1, d2⟩ | ⟨d1, d2, d3⟩ | ⟨d1, d2, d3, d4⟩
  all_goals
    go_enter Try.func4, Try.ntmps4
    go_wp2_with fail
    refine (bytes7 a len cap b off K na nl nc p k key _ h hK hl hnl hk hkey).mono ?_
    rintro e w' ⟨⟨b0, rfl, hup⟩, rfl⟩
    clear hup
    cases b0
    all_goals
      go_wp2_with fail
      go_ret
      exact ⟨rfl, Below.refl _ _⟩

set_option maxRecDepth 100000 in
set_option maxHeartbeats 4000000 in
theorem lawI_place (a : Option Addr) (len cap b off : Nat) (K : Nat → ByteArray) (na : Option Addr) (nl nc : Nat) (p : Int) (k key : ByteArray) (w : World)
    (h : Strs w a len b off K) (hK : Lens len K) (k1 : k.size ≤ 1048576) (k2 : key.size ≤ 1048576) (s1 : len ≤ 65536) (s2 : nl ≤ 65536) (hp : p < 0 ∨ (0 ≤ p ∧ (len : Int) < p)) :
    Calls Try.prog 4 #[.slice a len cap, .slice na nl nc, .int .i64 p, .string k, .string key] w fun e w' => e = .returned (.bool true) ∧ Below w.heap.size w w' := by
  rcases hp with hp | ⟨hp0, hp⟩
  all_goals
    go_enter Try.func4, Try.ntmps4
    go_wp2_with fail
    refine (bytes7 a len cap b off K na nl nc p k key _ h hK (by omega) (by omega) (by omega) (by omega)).mono ?_
    rintro e w' ⟨⟨b0, rfl, hup⟩, rfl⟩
    cases b0
    · go_wp2_with fail
      go_ret
      exact ⟨rfl, Below.refl _ _⟩
    · have uK := hup rfl
      clear hup
      go_wp2_with fail
      · go_ret
        exact ⟨rfl, Below.refl _ _⟩
      · go_loop [11, 12] (fun t i => ∃ q : Nat, q ≤ len ∧ i = .int .i64 q ∧ ∃ y : Int, 0 ≤ y ∧ y ≤ 1048576 ∧ t = .int .i64 y) (fun _ i => len - (intOf i).toNat)
        case atStart => exact ⟨0, Nat.zero_le _, rfl, _, by omega, by omega, rfl⟩
        case round =>
          obtain ⟨q, hq, rfl, y, hy0, hy1, rfl⟩ := hrel
          by_cases hlt : q < len
          · obtain rfl := h.addr (by omega)
            have c1 := h.cell q hlt
            have n1 := uK q hlt
            by_cases z2 : y + ((K q).size : Int) ≤ 1048576
            · go_wp2_with fail
              go_round
              case rel => exact ⟨q + 1, by omega, by go_num, _, by omega, z2, rfl⟩
              case measure => simp [intOf]; omega
            · go_wp2_with fail
              go_ret
              exact ⟨rfl, Below.refl _ _⟩
          · go_wp2_with fail
            go_ret
            exact ⟨rfl, Below.refl _ _⟩

theorem lawI (a : Option Addr) (len cap b off : Nat) (K : Nat → ByteArray) (na : Option Addr) (nl nc nb no : Nat) (F : Nat → Bool) (p : Int) (k key : ByteArray) (w : World)
    (h : Strs w a len b off K) (hK : Lens len K) (hF : Row w na nl nb no fun i => .bool (F i)) (hl : len ≤ 9223372036854775807) (hnl : nl ≤ 9223372036854775807) (hk : k.size ≤ 9223372036854775807) (hkey : key.size ≤ 9223372036854775807) :
    Calls Try.prog 4 #[.slice a len cap, .slice na nl nc, .int .i64 p, .string k, .string key] w fun e w' => e = .returned (.bool true) ∧ Below w.heap.size w w' := by
  by_cases g : k.size ≤ 1048576 ∧ key.size ≤ 1048576 ∧ len ≤ 65536 ∧ nl ≤ 65536
  · obtain ⟨g1, g2, g3, g4⟩ := g
    by_cases hp : p < 0 ∨ (0 ≤ p ∧ (len : Int) < p)
    · exact lawI_place a len cap b off K na nl nc p k key w h hK g1 g2 g3 g4 hp
    · obtain ⟨pp, rfl⟩ := Int.eq_ofNat_of_zero_le (show 0 ≤ p by omega)
      exact lawI_in a len cap b off K na nl nc nb no F pp k key w h hK hF g1 g2 g3 g4 (by omega)
  · exact lawI_early a len cap b off K na nl nc p k key w h hK hl hnl hk hkey (by omega)
end Go.Proofs.Qxb6630316a
