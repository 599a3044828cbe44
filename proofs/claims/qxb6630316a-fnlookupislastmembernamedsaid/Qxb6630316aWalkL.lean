import Derived.Test.Qxb6630316aState
namespace Go.Proofs.Qxb6630316a
open Go.RowKit Go.Lib

set_option maxRecDepth 100000 in
set_option maxHeartbeats 4000000 in
theorem lawL_in (nr un : Bool) (kind text key : ByteArray) (ofs : Int) (a : Option Addr) (len cap b off : Nat) (K : Nat → ByteArray) (ma ua na : Option Addr) (ml mc mb mo ul uc ub uo nl nc nb no : Nat) (M : Nat → Int) (Un F : Nat → Bool) (ea : Option Addr) (el ec eb eo : Nat) (T : Nat → ByteArray) (w : World)
    (h : Strs w a len b off K) (hK : Lens len K) (hM : Row w ma ml mb mo fun i => .int .i64 (M i)) (hU : Row w ua ul ub uo fun i => .bool (Un i)) (hF : Row w na nl nb no fun i => .bool (F i)) (h' : Strs w ea el eb eo T) (hT : Lens el T)
    (k1 : kind.size ≤ 1048576) (k2 : text.size ≤ 1048576) (k3 : key.size ≤ 1048576) (s1 : len ≤ 65536) (s2 : ml ≤ 65536) (s3 : ul ≤ 65536) (s4 : nl ≤ 65536) (s5 : el ≤ 65536) :
    Calls Try.prog 3 #[.bool nr, .string kind, .int .i64 ofs, .string text, .slice a len cap, .slice ma ml mc, .slice ua ul uc, .slice na nl nc, .slice ea el ec, .bool un, .string key] w fun e w' => e = .returned (.bool true) ∧ Below w.heap.size w w' := by
  obtain ⟨i28, p1, p2, p3, p4⟩ := info28_parts
  obtain ⟨i33, q1, q2, q3, q4⟩ := info33_parts
  go_enter Try.func3, Try.ntmps3
  go_wp2_with fail
  refine (bytes5 nr un kind text key ofs a len cap b off K ma ua na ml mc ul uc nl nc ea el ec eb eo T _ h hK h' hT (by omega) (by omega) (by omega) (by omega) (by omega) (by omega) (by omega) (by omega)).mono ?_
  rintro e w' ⟨⟨b0, rfl, hup⟩, rfl⟩
  cases b0
  · go_wp2_with fail
    go_ret
    exact ⟨rfl, Below.refl _ _⟩
  · obtain ⟨uK, uT⟩ := hup rfl
    clear hup
    go_wp2_with fail
    · go_ret
      exact ⟨rfl, Below.refl _ _⟩
    · go_loop [23, 24] (fun t i => ∃ q : Nat, q ≤ len ∧ i = .int .i64 q ∧ ∃ y : Int, 0 ≤ y ∧ y ≤ 1048576 ∧ t = .int .i64 y) (fun _ i => len - (intOf i).toNat)
      case atStart => exact ⟨0, Nat.zero_le _, rfl, _, by omega, by omega, rfl⟩
      case round =>
        obtain ⟨q, hq, rfl, y, hy0, hy1, rfl⟩ := hrel
        by_cases hlt : q < len
        · obtain rfl := h.addr (by omega)
          have c1 := h.cell q hlt
          have n1 := uK q hlt
          by_cases z2 : y + ((K q).size : Int) ≤ 1048576
          · go_wp2_with fail
            go_round
            case rel => exact ⟨q + 1, by omega, by go_num, _, by omega, z2, rfl⟩
            case measure => simp [intOf]; omega
          · go_wp2_with fail
            go_ret
            exact ⟨rfl, Below.refl _ _⟩
        · go_wp2_with fail
          clear hq hlt
          go_loop [23, 25] (fun t i => ∃ q : Nat, q ≤ el ∧ i = .int .i64 q ∧ ∃ y : Int, 0 ≤ y ∧ y ≤ 1048576 ∧ t = .int .i64 y) (fun _ i => el - (intOf i).toNat)
          case atStart => exact ⟨0, Nat.zero_le _, rfl, _, by omega, by omega, rfl⟩
          case round =>
            obtain ⟨r, hr, rfl, x, hx0, hx1, rfl⟩ := hrel
            by_cases hlt : r < el
            · obtain rfl := h'.addr (by omega)
              have c1 := h'.cell r hlt
              have n1 := uT r hlt
              by_cases z2 : x + ((T r).size : Int) ≤ 1048576
              · go_wp2_with fail
                go_round
                case rel => exact ⟨r + 1, by omega, by go_num, _, by omega, z2, rfl⟩
                case measure => simp [intOf]; omega
              · go_wp2_with fail
                go_ret
                exact ⟨rfl, Below.refl _ _⟩
            · clear hr
              go_wp2_with (first | (at_make; refine wpList_make_full _ rfl (.tmp 147) (.tmp 147) 26 rfl w'.heap.size 28 i28 (.pointer none) 1 Try.underlying26 p1 p2 p3 _ _ _ _ len rfl rfl rfl rfl (by rw [p4]; omega) (by unfold maxLen; omega) (Nat.le_refl _) ?_; intro w1 hown1 hgrow1) | (at_make; refine wpList_make_full _ rfl (.tmp 150) (.tmp 150) 27 rfl w1.heap.size 33 i33 (.agg #[.string ByteArray.empty, .int .i64 0, .pointer none, .bool false]) 4 Try.underlying27 q1 q2 q3 _ _ _ _ len rfl rfl rfl rfl (by rw [q4]; omega) (by unfold maxLen; omega) (Nat.le_refl _) ?_; intro w2 hown2 hgrow2; have B0 := Bd.start (K := K) hown1 hgrow1 hown2 hgrow2; clear hown1 hgrow1 hown2 hgrow2; generalize hgv : w'.heap.size = gv at *; generalize hgm : w1.heap.size = gm at *))
              have HGV : Hid (w'.heap.size = gv) := hgv
              clear hgv hgm hlt
              go_loopw [28] (fun i wr => ∃ k : Nat, k ≤ len ∧ i = .int .i64 k ∧ Bd w' wr len gv gm K k) (fun i _ => len - (intOf i).toNat)
              case atStart => exact ⟨0, Nat.zero_le _, rfl, B0⟩
              case round =>
                obtain ⟨k, hk, rfl, hB⟩ := hrel
                clear B0
                by_cases hlt : k < len
                · obtain rfl := h.addr (by omega)
                  have hBw : Below w'.heap.size w' wr := by obtain ⟨_, _, _, _, _, hb, _⟩ := hB; exact hb
                  have c1 : wr.cell? ⟨b, off + k, none⟩ = some (.string (K k)) := (h.below hBw).cell k hlt
                  have HB : Hid (Bd w' wr len gv gm K k) := hB
                  obtain ⟨y0, y1, y2⟩ := hB.valCell hlt
                  obtain ⟨x0, x1, x2, x3, m0, m1, m2, m3, f0, f1, f2, f3⟩ := hB.memCells hlt (.pointer none)
                  obtain ⟨v0, v1, v2, v3, r0, r1, r2, r3, t0, t1, t2, t3⟩ := hB.memCells hlt (.pointer (some ⟨wr.heap.size, 0, none⟩))
                  clear hB
                  have lb : b < gv := by rw [← HGV.out]; exact World.block_lt_of_cell? w' _ (h.cell k hlt)
                  have lg : gv < wr.heap.size := by obtain ⟨_, _, _, hp, _⟩ := HB.out; exact hp.lt
                  have lgm : gm < wr.heap.size := by obtain ⟨_, _, _, _, hp, _⟩ := HB.out; exact hp.lt
                  have lb2 : b < wr.heap.size := by omega
                  by_cases e1 : k < nl
                  · obtain rfl := hF.addr (by omega)
                    have cF : wr.cell? ⟨nb, no + k, none⟩ = some (.bool (F k)) := (hF.below hBw).cell k e1
                    cases hf : F k
                    · rw [hf] at cF
                      clear m0 m1 m2 m3 f0 f1 f2 f3
                      by_cases e2 : k < ml
                      · obtain rfl := hM.addr (by omega)
                        have lm : mb < gv := by rw [← HGV.out]; exact World.block_lt_of_cell? w' _ (hM.cell k e2)
                        have lm2 : mb < wr.heap.size := by omega
                        have cM : wr.cell? ⟨mb, mo + k, none⟩ = some (.int .i64 (M k)) := (hM.below hBw).cell k e2
                        by_cases e3 : k < ul
                        · obtain rfl := hU.addr (by omega)
                          have lu : ub < gv := by rw [← HGV.out]; exact World.block_lt_of_cell? w' _ (hU.cell k e3)
                          have lu2 : ub < wr.heap.size := by omega
                          have cU : wr.cell? ⟨ub, uo + k, none⟩ = some (.bool (Un k)) := (hU.below hBw).cell k e3
                          clear hBw
                          go_wp2_with fail
                          go_roundw
                          case rel => exact ⟨k + 1, by omega, by go_num, (HB.out.step hlt _ _ _).alloc _⟩
                          case measure => simp [intOf]; omega
                        · clear hBw
                          go_wp2_with fail
                          go_roundw
                          case rel => exact ⟨k + 1, by omega, by go_num, (HB.out.step hlt _ _ _).alloc _⟩
                          case measure => simp [intOf]; omega
                      · by_cases e3 : k < ul
                        · obtain rfl := hU.addr (by omega)
                          have lu : ub < gv := by rw [← HGV.out]; exact World.block_lt_of_cell? w' _ (hU.cell k e3)
                          have lu2 : ub < wr.heap.size := by omega
                          have cU : wr.cell? ⟨ub, uo + k, none⟩ = some (.bool (Un k)) := (hU.below hBw).cell k e3
                          clear hBw
                          go_wp2_with fail
                          go_roundw
                          case rel => exact ⟨k + 1, by omega, by go_num, (HB.out.step hlt _ _ _).alloc _⟩
                          case measure => simp [intOf]; omega
                        · clear hBw
                          go_wp2_with fail
                          go_roundw
                          case rel => exact ⟨k + 1, by omega, by go_num, (HB.out.step hlt _ _ _).alloc _⟩
                          case measure => simp [intOf]; omega
                    · rw [hf] at cF
                      clear r0 r1 r2 r3 t0 t1 t2 t3
                      by_cases e2 : k < ml
                      · obtain rfl := hM.addr (by omega)
                        have lm : mb < gv := by rw [← HGV.out]; exact World.block_lt_of_cell? w' _ (hM.cell k e2)
                        have lm2 : mb < wr.heap.size := by omega
                        have cM : wr.cell? ⟨mb, mo + k, none⟩ = some (.int .i64 (M k)) := (hM.below hBw).cell k e2
                        by_cases e3 : k < ul
                        · obtain rfl := hU.addr (by omega)
                          have lu : ub < gv := by rw [← HGV.out]; exact World.block_lt_of_cell? w' _ (hU.cell k e3)
                          have lu2 : ub < wr.heap.size := by omega
                          have cU : wr.cell? ⟨ub, uo + k, none⟩ = some (.bool (Un k)) := (hU.below hBw).cell k e3
                          clear hBw
                          go_wp2_with fail
                          go_roundw
                          case rel => exact ⟨k + 1, by omega, by go_num, HB.out.step hlt _ _ _⟩
                          case measure => simp [intOf]; omega
                        · clear hBw
                          go_wp2_with fail
                          go_roundw
                          case rel => exact ⟨k + 1, by omega, by go_num, HB.out.step hlt _ _ _⟩
                          case measure => simp [intOf]; omega
                      · by_cases e3 : k < ul
                        · obtain rfl := hU.addr (by omega)
                          have lu : ub < gv := by rw [← HGV.out]; exact World.block_lt_of_cell? w' _ (hU.cell k e3)
                          have lu2 : ub < wr.heap.size := by omega
                          have cU : wr.cell? ⟨ub, uo + k, none⟩ = some (.bool (Un k)) := (hU.below hBw).cell k e3
                          clear hBw
                          go_wp2_with fail
                          go_roundw
                          case rel => exact ⟨k + 1, by omega, by go_num, HB.out.step hlt _ _ _⟩
                          case measure => simp [intOf]; omega
                        · clear hBw
                          go_wp2_with fail
                          go_roundw
                          case rel => exact ⟨k + 1, by omega, by go_num, HB.out.step hlt _ _ _⟩
                          case measure => simp [intOf]; omega
                  · clear m0 m1 m2 m3 f0 f1 f2 f3
                    by_cases e2 : k < ml
                    · obtain rfl := hM.addr (by omega)
                      have lm : mb < gv := by rw [← HGV.out]; exact World.block_lt_of_cell? w' _ (hM.cell k e2)
                      have lm2 : mb < wr.heap.size := by omega
                      have cM : wr.cell? ⟨mb, mo + k, none⟩ = some (.int .i64 (M k)) := (hM.below hBw).cell k e2
                      by_cases e3 : k < ul
                      · obtain rfl := hU.addr (by omega)
                        have lu : ub < gv := by rw [← HGV.out]; exact World.block_lt_of_cell? w' _ (hU.cell k e3)
                        have lu2 : ub < wr.heap.size := by omega
                        have cU : wr.cell? ⟨ub, uo + k, none⟩ = some (.bool (Un k)) := (hU.below hBw).cell k e3
                        clear hBw
                        go_wp2_with fail
                        go_roundw
                        case rel => exact ⟨k + 1, by omega, by go_num, (HB.out.step hlt _ _ _).alloc _⟩
                        case measure => simp [intOf]; omega
                      · clear hBw
                        go_wp2_with fail
                        go_roundw
                        case rel => exact ⟨k + 1, by omega, by go_num, (HB.out.step hlt _ _ _).alloc _⟩
                        case measure => simp [intOf]; omega
                    · by_cases e3 : k < ul
                      · obtain rfl := hU.addr (by omega)
                        have lu : ub < gv := by rw [← HGV.out]; exact World.block_lt_of_cell? w' _ (hU.cell k e3)
                        have lu2 : ub < wr.heap.size := by omega
                        have cU : wr.cell? ⟨ub, uo + k, none⟩ = some (.bool (Un k)) := (hU.below hBw).cell k e3
                        clear hBw
                        go_wp2_with fail
                        go_roundw
                        case rel => exact ⟨k + 1, by omega, by go_num, (HB.out.step hlt _ _ _).alloc _⟩
                        case measure => simp [intOf]; omega
                      · clear hBw
                        go_wp2_with fail
                        go_roundw
                        case rel => exact ⟨k + 1, by omega, by go_num, (HB.out.step hlt _ _ _).alloc _⟩
                        case measure => simp [intOf]; omega
                · obtain rfl : k = len := by omega
                  clear hk
                  obtain ⟨wB, hwB⟩ : ∃ x, x = wr := ⟨_, rfl⟩
                  subst hwB
                  have HB : Hid (Bd w' wB k gv gm K k) := hB
                  have hBw : Below w'.heap.size w' wB := by obtain ⟨_, _, _, _, _, hb, _⟩ := hB; exact hb
                  clear hB
                  go_wp2_with (at_make; refine wpList_make_full _ rfl (.tmp 207) (.tmp 207) 26 rfl wB.heap.size 28 i28 (.pointer none) 1 Try.underlying26 p1 p2 p3 _ _ _ _ el rfl rfl rfl rfl (by rw [p4]; omega) (by unfold maxLen; omega) (Nat.le_refl _) ?_; intro w3 hown3 hgrow3; have E0 := El.start hown3 hgrow3; clear hown3 hgrow3; generalize hge : wB.heap.size = ge at *)
                  clear hge
                  go_loopw [33] (fun i wx => ∃ j : Nat, j ≤ el ∧ i = .int .i64 j ∧ El wB wx ge el j) (fun i _ => el - (intOf i).toNat)
                  case atStart => exact ⟨0, Nat.zero_le _, rfl, E0⟩
                  case round =>
                    obtain ⟨j, hj, rfl, hE⟩ := hrel
                    clear E0
                    by_cases hlj : j < el
                    · obtain rfl := h'.addr (by omega)
                      have hbb : Below w'.heap.size w' wr := below_step hBw (Nat.le_refl _) hE.2.1
                      have c1 : wr.cell? ⟨eb, eo + j, none⟩ = some (.string (T j)) := (h'.below hbb).cell j hlj
                      obtain ⟨⟨y0, y1, y2⟩, lg⟩ := hE.cell hlj
                      have HE : Hid (El wB wr ge el j) := hE
                      clear hE hbb
                      go_wp2_with fail
                      go_roundw
                      case rel => exact ⟨j + 1, by omega, by go_num, HE.out.step hlj _ _⟩
                      case measure => simp [intOf]; omega
                    · clear hj
                      have HB2 : Hid (Bd w' wr k gv gm K k) := HB.out.below hE.2.1
                      have BW2 : Below w'.heap.size w' wr := below_step hBw (Nat.le_refl _) hE.2.1
                      clear hE HB hBw
                      cases nr
                      · go_wp2_with fail
                        have HB3 := HB2.out.alloc (.cells #[.string kind, .int .i64 ofs, .string text, .slice (some ⟨gm, 0, none⟩) k k, .slice (some ⟨ge, 0, none⟩) el el, .bool un] 31)
                        have BW3 := below_step BW2 (Nat.le_refl _) (one_new wr (.cells #[.string kind, .int .i64 ofs, .string text, .slice (some ⟨gm, 0, none⟩) k k, .slice (some ⟨ge, 0, none⟩) el el, .bool un] 31))
                        have hp3 : (wr.alloc (.cells #[.string kind, .int .i64 ofs, .string text, .slice (some ⟨gm, 0, none⟩) k k, .slice (some ⟨ge, 0, none⟩) el el, .bool un] 31)).cell? ⟨wr.heap.size, 3, none⟩ = some (.slice (some ⟨gm, 0, none⟩) k k) := by simp
                        clear HB2 BW2
                        generalize wr.alloc (.cells #[.string kind, .int .i64 ofs, .string text, .slice (some ⟨gm, 0, none⟩) k k, .slice (some ⟨ge, 0, none⟩) el el, .bool un] 31) = WX at *
                        generalize wr.heap.size = pv at *
                        obtain ⟨V, O, U, hP, hMm, _⟩ := HB3
                        refine (lookup_any key WX pv k gm k (some ⟨gm, 0, none⟩) K V (by omega) hp3 (fun _ => rfl) (fun i hi => ⟨(hMm.read i hi).1, (hMm.read i hi).2.2.1⟩)).mono ?_
                        rintro e wf ⟨rfl, rfl⟩
                        have HA := lastIx_at K V key k
                        have HAH : Hid ((lastIx K key k = -1 ∧ lastAt K V key k = none) ∨ ∃ j : Nat, j < k ∧ lastIx K key k = (j : Int) ∧ lastAt K V key k = V j) := HA
                        clear HA hMm hp3
                        generalize lastAt K V key k = got at *
                        go_wp2_with fail
                        go_loop [37, 38] (fun l i => ∃ j : Nat, j ≤ k ∧ i = .int .i64 j ∧ l = .int .i64 (lastIx K key j)) (fun _ i => k - (intOf i).toNat)
                        case atStart => exact ⟨0, Nat.zero_le _, rfl, rfl⟩
                        case round =>
                          obtain ⟨j2, hj2, rfl, rfl⟩ := hrel
                          by_cases hl2 : j2 < k
                          · obtain rfl := h.addr (by omega)
                            have c1 : wf.cell? ⟨b, off + j2, none⟩ = some (.string (K j2)) := (h.below BW3).cell j2 hl2
                            by_cases hm : ((K j2).toList == key.toList) = true
                            · have HX : Hid (lastIx K key (j2 + 1) = (j2 : Int)) := if_pos hm
                              go_wp2_with fail
                              go_round
                              case rel => exact ⟨j2 + 1, by omega, by go_num, by rw [HX.out]⟩
                              case measure => simp [intOf]; omega
                            · have HX : Hid (lastIx K key (j2 + 1) = lastIx K key j2) := if_neg hm
                              go_wp2_with fail
                              go_round
                              case rel => exact ⟨j2 + 1, by omega, by go_num, by rw [HX.out]⟩
                              case measure => simp [intOf]; omega
                          · obtain rfl : j2 = k := by omega
                            rcases HAH.out with ⟨e1, e2⟩ | ⟨j3, hj3, e1, e2⟩
                            · rw [e1]
                              subst e2
                              clear HAH e1
                              go_wp2_with fail
                              go_ret
                              exact ⟨rfl, BW3⟩
                            · have c4 := hP.read j3 hj3
                              rw [e1]
                              subst e2
                              clear HAH e1
                              go_wp2_with fail
                              rw [eqlP]
                              go_wp2_with fail
                              go_ret
                              exact ⟨rfl, BW3⟩
                      · go_wp2_with fail
                        refine (lookup_nil key _).mono ?_
                        rintro e wf ⟨rfl, rfl⟩
                        go_wp2_with fail
                        go_ret
                        exact ⟨rfl, BW2⟩
end Go.Proofs.Qxb6630316a
