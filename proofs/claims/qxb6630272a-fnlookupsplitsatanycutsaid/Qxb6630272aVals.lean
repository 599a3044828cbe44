import Derived.Test.Qxb6630272aDoc
namespace Go.Proofs.Qxb6630272a
open Go.RowKit Go.Lib

/-- The values of the elements lo .. hi - 1. -/
def valsOf (N : Nat → ByteArray) (T : Nat → Int) (A : Nat → Option Addr) (D : Nat → List Int) (lo n : Nat) : List Val :=
  (List.range n).map fun j => ⟨N (lo + j), T (lo + j), (A (lo + j)).isNone, D (lo + j)⟩
theorem valsOf_succ (N : Nat → ByteArray) (T : Nat → Int) (A : Nat → Option Addr) (D : Nat → List Int) (lo n : Nat) :
    valsOf N T A D lo (n + 1) = valsOf N T A D lo n ++ [⟨N (lo + n), T (lo + n), (A (lo + n)).isNone, D (lo + n)⟩] := by
  simp [valsOf, List.range_succ]
theorem valsOf_length (N : Nat → ByteArray) (T : Nat → Int) (A : Nat → Option Addr) (D : Nat → List Int) (lo n : Nat) : (valsOf N T A D lo n).length = n := by simp [valsOf]

/-- What the loop has gathered. -/
def Got (w wr : World) (v : Value) (vals : List Val) : Prop := ∃ ps, Doc wr w.heap.size v ps ∧ ps.map Prod.fst = vals ∧ Below w.heap.size w wr ∧ ∀ p ∈ ps, Over w.heap.size p.2

theorem Elems.below {w w' : World} {a : Option Addr} {len b off : Nat} {N : Nat → ByteArray} {T : Nat → Int} {A : Nat → Option Addr} {L C : Nat → Nat} {D : Nat → List Int} (h : Elems w a len b off N T A L C D) (hb : Below w.heap.size w w') : Elems w' a len b off N T A L C D :=
  { addr := h.addr
    name := fun i hi => (hb.cell (World.block_lt_of_cell? w _ (h.name i hi))).trans (h.name i hi)
    typ := fun i hi => (hb.cell (World.block_lt_of_cell? w _ (h.typ i hi))).trans (h.typ i hi)
    data := fun i hi => (hb.cell (World.block_lt_of_cell? w _ (h.data i hi))).trans (h.data i hi)
    bytes := fun i hi => (h.bytes i hi).below hb
    nameLen := h.nameLen, dataLen := h.dataLen }

theorem two_new (w : World) (o1 o2 : Obj) : Below w.heap.size w ((w.alloc o1).alloc o2) := ((Below.refl _ _).alloc (Nat.le_refl _) o1).alloc (by simp) o2

theorem over_snoc {B : Nat} {ps : List (Val × Value)} {p : Val × Value} (h : ∀ p ∈ ps, Over B p.2) (h1 : Over B p.2) : ∀ x ∈ ps ++ [p], Over B x.2 := by
  intro x hx
  simp only [List.mem_append, List.mem_singleton] at hx
  rcases hx with hx | rfl
  · exact h x hx
  · exact h1

/-- Behind the copy of the bytes. -/
theorem vals_a {w wr wa : World} {a : Option Addr} {len b off : Nat} {N : Nat → ByteArray} {T : Nat → Int} {A : Nat → Option Addr} {L C : Nat → Nat} {D : Nat → List Int} (hE : Elems wr a len b off N T A L C D) {k : Nat} (hk : k < len) {B : Nat} {v : Value} {ps : List (Val × Value)} (hD : Doc wr B v ps) (hB : Below w.heap.size w wr) (h : Below wr.drew.heap.size wr.drew wa) :
    (wa.cell? ⟨b, off + k * 3, none⟩ = some (.string (N k)) ∧ wa.cell? ⟨b, off + k * 3 + 1, none⟩ = some (.int .u8 (T k)) ∧ wa.cell? ⟨b, off + k * 3 + 2, none⟩ = some (.slice (A k) (L k) (C k))) ∧ Doc wa B v ps ∧ Below w.heap.size w wa ∧ b < wa.heap.size := by
  have h' : Below wr.heap.size wr wa := ((Below.refl _ _).drew).trans h
  have hE' := hE.below h'
  exact ⟨⟨hE'.name k hk, hE'.typ k hk, hE'.data k hk⟩, hD.below h', below_step hB (Nat.le_refl _) h', World.block_lt_of_cell? wa _ (hE'.name k hk)⟩
theorem vals_b {wa : World} (o : Obj) {b x y z : Nat} {p q r : Value} (h : wa.cell? ⟨b, x, none⟩ = some p ∧ wa.cell? ⟨b, y, none⟩ = some q ∧ wa.cell? ⟨b, z, none⟩ = some r) (hb : b < wa.heap.size) :
    (wa.alloc o).cell? ⟨b, x, none⟩ = some p ∧ (wa.alloc o).cell? ⟨b, y, none⟩ = some q ∧ (wa.alloc o).cell? ⟨b, z, none⟩ = some r := by
  have hB : Below wa.heap.size wa (wa.alloc o) := (Below.refl _ _).alloc (Nat.le_refl _) o
  exact ⟨(hB.cell hb).trans h.1, (hB.cell hb).trans h.2.1, (hB.cell hb).trans h.2.2⟩
/-- Behind the append. -/
theorem vals_c {w wa w4 : World} {a : Option Addr} {len b off : Nat} {N : Nat → ByteArray} {T : Nat → Int} {A : Nat → Option Addr} {L C : Nat → Nat} {D : Nat → List Int} (h : Elems w a len b off N T A L C D) {k : Nat} (hk : k < len) {v : Value} {ps : List (Val × Value)} {o1 o2 : Obj}
    (hBa : Below w.heap.size w wa) (G4 : ((wa.alloc o1).alloc o2).grownBy w4 v.ownBlock) (Dwa : Doc wa w.heap.size v ps) :
    (w4.cell? ⟨b, off + k * 3, none⟩ = some (.string (N k)) ∧ w4.cell? ⟨b, off + k * 3 + 1, none⟩ = some (.int .u8 (T k)) ∧ w4.cell? ⟨b, off + k * 3 + 2, none⟩ = some (.slice (A k) (L k) (C k))) ∧ Below w.heap.size w w4 := by
  have hs := hBa.size
  have h1 : Below w.heap.size w ((wa.alloc o1).alloc o2) := below_step hBa (Nat.le_refl _) (two_new wa o1 o2)
  have h2 : Below w.heap.size w w4 := h1.grown G4 h1.size fun q hq => (Dwa.1.lt q hq).1
  have hE := h.below h2
  exact ⟨⟨hE.name k hk, hE.typ k hk, hE.data k hk⟩, h2⟩

set_option maxHeartbeats 1000000 in
theorem values_any (a : Option Addr) (len cap b off : Nat) (N : Nat → ByteArray) (T : Nat → Int) (A : Nat → Option Addr) (L C : Nat → Nat) (D : Nat → List Int) (w : World) (h : Elems w a len b off N T A L C D) (hs : Small len L) (lo hi : Nat) (h1 : lo ≤ hi) (h2 : hi ≤ len) :
    Calls Try.prog 9 #[.slice a len cap, .int .i64 lo, .int .i64 hi] w fun e w' => ∃ v, e = .returned v ∧ Got w w' v (valsOf N T A D lo (hi - lo)) := by
  obtain ⟨hl, hL⟩ := hs
  obtain ⟨i, hi0, hz0, hz1, hz2⟩ := info33_parts
  go_enter Try.func9, Try.ntmps9
  go_wp2_with (first | (at_make; refine wpList_make_own _ rfl _ _ 26 rfl w.heap.size 33 i (.agg #[.string ByteArray.empty, .int .u8 0, .slice none 0 0]) 3 Try.underlying26 hi0 hz0 hz1 _ _ _ (hi - lo) rfl rfl (by omega) (by rw [hz2]; omega) (by unfold maxLen; omega) (Nat.le_refl _) ?_; intro w1 hown hgrow; have G0 : Got w w1 (.slice (some ⟨w.heap.size, 0, none⟩) 0 (hi - lo)) [] := ⟨[], ⟨hown, fun p hp => by cases hp⟩, rfl, (Below.refl _ _).grown hgrow (Nat.le_refl _) (by simp), fun p hp => by cases hp⟩; clear hown hgrow))
  go_loopw [7, 8] (fun v i wr => ∃ k : Nat, lo ≤ k ∧ k ≤ hi ∧ i = .int .i64 k ∧ Got w wr v (valsOf N T A D lo (k - lo))) (fun _ i _ => hi - (intOf i).toNat)
  case atStart => exact ⟨lo, Nat.le_refl _, h1, rfl, by rw [Nat.sub_self]; exact G0⟩
  case round =>
    obtain ⟨k, hk1, hk2, rfl, hG⟩ := hrel
    clear G0
    by_cases hlt : k < hi
    · obtain rfl := h.addr (by omega)
      obtain ⟨ps, hD, hps, hB, hO⟩ := hG
      have HO : Hid (∀ p ∈ ps, Over w.heap.size p.2) := hO
      clear hO
      have hE := h.below hB
      have c1 := hE.name k (by omega)
      have c2 := hE.typ k (by omega)
      have c3 := hE.data k (by omega)
      have b1 : (0 : Int) ≤ (k : Int) := by omega
      have b2 : (k : Int) < (len : Int) := by omega
      have n1 := World.new_ne wr ⟨b, off + k * 3, none⟩ c1
      have HPS : Hid (ps.map Prod.fst = valsOf N T A D lo (k - lo)) := hps
      have hlen : ps.length = k - lo := by have := congrArg List.length hps; simpa [valsOf_length] using this
      clear hps
      have hps2 : ps.length + 1 ≤ 16777216 := by omega
      have HLEN : Hid (ps.length = k - lo) := hlen
      clear hlen
      have HBy : Bytes wr.drew none (.slice (A k) (L k) (C k)) (A k).isNone (D k) := (hE.bytes k (by omega)).below (Below.refl _ _).drew
      have HDl : (D k).length ≤ 1048576 := by
        obtain ⟨_, _, e, _⟩ := id HBy
        simp at e
        have := hL k (by omega)
        omega
      have HR : ∀ q, u7.ownBlock = some q → q < wr.drew.heap.size := fun q hq => (hD.1.lt q hq).2
      have hlt' := hlt
      go_wp2
      go_region_held3 (fun w' => w'.cell? ⟨b, off + k * 3, none⟩ = some (.string (N k)) ∧ w'.cell? ⟨b, off + k * 3 + 1, none⟩ = some (.int .u8 (T k)) ∧ w'.cell? ⟨b, off + k * 3 + 2, none⟩ = some (.slice (A k) (L k) (C k)))
        (first | (go_keep; done) | exact S1 | exact S2 | exact S4)
        (first
          | (go_at_call 16; refine (clone_sl (w := wr.drew) HBy HDl u7.ownBlock HR).mono ?_; rintro e wa ⟨o1, l1, q1, rfl, HB1, HBel1, HO1⟩; obtain ⟨S1, Dwa, hBa, nS⟩ := vals_a hE (show k < len from by omega) hD hB HBel1; clear HR)
          | (go_at_call 15; refine (newValue_any _ _ _ _ _ _).mono ?_; rintro e wb ⟨rfl, o2, rfl⟩; have S2 := vals_b o2 S1 nS)
          | (refine step_doc (Dwa.below (two_new wa o2 _)) ⟨N k, T k, (A k).isNone, D k⟩ _ (HB1.below (two_new wa o2 _)) rfl (.tmp 19) (.tmp 37) rfl ⟨wa.heap.size + 1, 0, none⟩ 1 rfl rfl (by simpa using news_at (w := wa.alloc o2) 33) hps2 (by simp; have := hBa.size; omega) ?_; intro v4 w4 D4 G4; obtain ⟨S4, B4⟩ := vals_c h (show k < len from by omega) hBa G4 Dwa))
      clear S1 S2 S4 Dwa HB1 G4 hE HBy hD c1 c2 c3
      go_wp2
      go_roundw
      case rel =>
        refine ⟨k + 1, by omega, by omega, by go_num, _, D4, ?_, B4, over_snoc HO.out (HO1.mono hB.size)⟩
        rw [show k + 1 - lo = (k - lo) + 1 from by omega, valsOf_succ, List.map_append, HPS.out, show lo + (k - lo) = k from by omega]
        rfl
      case measure => simp [intOf]; omega
    · obtain rfl : k = hi := by omega
      go_wp2
      go_ret
      exact ⟨_, rfl, hG⟩
end Go.Proofs.Qxb6630272a
