import Derived.Test.Qxb6630316aRows
import Derived.Test.Qxb6630316aWalkL
import Derived.Test.Qxb6630316aEarly
import Derived.Test.Qxb6630316aOpen
import Derived.WalkKit
import Derived.ProofKit
import Derived.OpenShut
import Derived.ShutString
import Derived.ChangeOld
import Derived.Below
namespace Go.Proofs.Qxb6630316a.fnLookupIsLastMemberNamed
open Go.ChangeShapes Go.WideShapes Go.ChangeAt Go.RowKit
open Go.ChangeMaps (open_string shut_string)
set_option linter.unusedVariables false

theorem own : ownKnob Try.prog.godebug = none := by kernel_rfl
theorem laidOut : laidOutB Try.prog = true := by kernel_rfl

theorem law (nr un : Bool) (kind text key : ByteArray) (ofs : Int) (a : Option Addr) (len cap b off : Nat) (K : Nat → ByteArray) (ma ua na : Option Addr) (ml mc mb mo ul uc ub uo nl nc nb no : Nat) (M : Nat → Int) (Un F : Nat → Bool) (ea : Option Addr) (el ec eb eo : Nat) (T : Nat → ByteArray) (w : World)
    (h : Strs w a len b off K) (hK : Lens len K) (hM : Row w ma ml mb mo fun i => .int .i64 (M i)) (hU : Row w ua ul ub uo fun i => .bool (Un i)) (hF : Row w na nl nb no fun i => .bool (F i)) (h' : Strs w ea el eb eo T) (hT : Lens el T)
    (hl : len ≤ 9223372036854775807) (hml : ml ≤ 9223372036854775807) (hul : ul ≤ 9223372036854775807) (hnl : nl ≤ 9223372036854775807) (hel : el ≤ 9223372036854775807)
    (hkind : kind.size ≤ 9223372036854775807) (htext : text.size ≤ 9223372036854775807) (hkey : key.size ≤ 9223372036854775807) :
    Calls Try.prog 3 #[.bool nr, .string kind, .int .i64 ofs, .string text, .slice a len cap, .slice ma ml mc, .slice ua ul uc, .slice na nl nc, .slice ea el ec, .bool un, .string key] w fun e w' => e = .returned (.bool true) ∧ Below w.heap.size w w' := by
  by_cases g : kind.size ≤ 1048576 ∧ text.size ≤ 1048576 ∧ key.size ≤ 1048576 ∧ len ≤ 65536 ∧ ml ≤ 65536 ∧ ul ≤ 65536 ∧ nl ≤ 65536 ∧ el ≤ 65536
  · obtain ⟨g1, g2, g3, g4, g5, g6, g7, g8⟩ := g
    exact lawL_in nr un kind text key ofs a len cap b off K ma ua na ml mc mb mo ul uc ub uo nl nc nb no M Un F ea el ec eb eo T w h hK hM hU hF h' hT g1 g2 g3 g4 g5 g6 g7 g8
  · exact lawL_early nr un kind text key ofs a len cap b off K ma ua na ml mc ul uc nl nc ea el ec eb eo T w h hK h' hT hl hml hul hnl hel hkind htext hkey (by omega)

set_option maxRecDepth 100000 in
theorem lifted (os : Os) (started : os.Started) (H : Type) (enc : TypeId × Value → H) :
    ReturnsInHanded {} Try.checked os 3 .any (Rows.fnLookupIsLastMemberNamedSpec.pre6 enc Try.prog Try.f3 Rows.fnLookupIsLastMemberNamedRow.domain false) (Rows.fnLookupIsLastMemberNamedSpec.post enc Try.prog Try.f3 false true false false) := by
  refine returnsInHanded_of_change (C := Try.checked) own started (by kernel_rfl) Try.func3
    (ChangeSpec.witness6 (enc := enc) (C := Try.checked) false ⟨#[], #[.bool false, .string ByteArray.empty, .int .i64 0, .string ByteArray.empty, .slice none 0 0, .slice none 0 0, .slice none 0 0, .slice none 0 0, .slice none 0 0, .bool false, .string ByteArray.empty], []⟩ 8 (by kernel_rfl) (by kernel_rfl) (by kernel_rfl) (by kernel_rfl)) ?_
  intro W base args ds gs before hval0 hW hcnd _
  have hval : ∀ (j : Nat) t v, Try.f3.params[j]? = some t → args[j]? = some v → Value.okWide Try.prog W .any base t v := hval0
  have hW' := hW
  obtain ⟨p, q, hA0, hV, rfl, hfz, hnd⟩ := hW
  have hA : DataW.TrodAll enc Try.prog W 0 (fun _ => true) true Try.f3.params.toList args.toList ds p := hA0
  rw [Try.params3] at hA hval
  obtain ⟨v0, vs0, d0, ds0, p0, q0, hargs, rfl, rfl, h0, r0⟩ := trodAll_cons hA
  obtain ⟨v1, vs1, d1, ds1, p1, q1, rfl, rfl, rfl, h1, r1⟩ := trodAll_cons r0
  obtain ⟨v2, vs2, d2, ds2, p2, q2, rfl, rfl, rfl, h2, r2⟩ := trodAll_cons r1
  obtain ⟨v3, vs3, d3, ds3, p3, q3, rfl, rfl, rfl, h3, r3⟩ := trodAll_cons r2
  obtain ⟨v4, vs4, d4, ds4, p4, q4, rfl, rfl, rfl, h4, r4⟩ := trodAll_cons r3
  obtain ⟨v5, vs5, d5, ds5, p5, q5, rfl, rfl, rfl, h5, r5⟩ := trodAll_cons r4
  obtain ⟨v6, vs6, d6, ds6, p6, q6, rfl, rfl, rfl, h6, r6⟩ := trodAll_cons r5
  obtain ⟨v7, vs7, d7, ds7, p7, q7, rfl, rfl, rfl, h7, r7⟩ := trodAll_cons r6
  obtain ⟨v8, vs8, d8, ds8, p8, q8, rfl, rfl, rfl, h8, r8⟩ := trodAll_cons r7
  obtain ⟨v9, vs9, d9, ds9, p9, q9, rfl, rfl, rfl, h9, r9⟩ := trodAll_cons r8
  obtain ⟨v10, vs10, d10, ds10, p10, q10, rfl, rfl, rfl, h10, r10⟩ := trodAll_cons r9
  obtain ⟨rfl, rfl, rfl⟩ := trodAll_nil r10
  obtain rfl : args = #[v0, v1, v2, v3, v4, v5, v6, v7, v8, v9, v10] := by cases args; simp_all
  obtain ⟨rfl, rfl⟩ := trodVars_none hV
  obtain ⟨a0, rfl, rfl, rfl⟩ := open_bool Try.underlying4 (hval 0 4 v0 rfl rfl) h0
  obtain ⟨a1, rfl, rfl, rfl, w1⟩ := open_string Try.underlying9 (hval 1 9 v1 rfl rfl) h1
  obtain ⟨a2, rfl, rfl, rfl, w2⟩ := open_int Try.underlying2 (hval 2 2 v2 rfl rfl) h2
  obtain ⟨a3, rfl, rfl, rfl, w3⟩ := open_string Try.underlying9 (hval 3 9 v3 rfl rfl) h3
  obtain ⟨a4, len4, cap4, rfl⟩ := okWide_slice Try.underlying22 (hval 4 22 v4 rfl rfl)
  have k4 := h4
  have lt4 : ∀ x ∈ p4, x.block < W.heap.size := by obtain ⟨m, hm⟩ := k4; exact DataW.trod_lt m _ _ _ hm
  obtain ⟨b4, o4, F4, R4, S4, L4⟩ : ∃ b off K, Strs W a4 len4 b off K ∧ Lens len4 K ∧ len4 ≤ 9223372036854775807 := by
    obtain ⟨fuel, hf⟩ := h4
    exact open_strs (cap := cap4) (by simpa [Value.cells] using hf)
  obtain ⟨a5, len5, cap5, rfl⟩ := okWide_slice Try.underlying23 (hval 5 23 v5 rfl rfl)
  have k5 := h5
  have lt5 : ∀ x ∈ p5, x.block < W.heap.size := by obtain ⟨m, hm⟩ := k5; exact DataW.trod_lt m _ _ _ hm
  obtain ⟨b5, o5, F5, R5, L5⟩ : ∃ (b off : Nat) (F : Nat → Int), Row W a5 len5 b off (fun i => .int .i64 (F i)) ∧ len5 ≤ 9223372036854775807 := by
    obtain ⟨fuel, hf⟩ := h5
    exact open_i64s (cap := cap5) (by simpa [Value.cells] using hf)
  obtain ⟨a6, len6, cap6, rfl⟩ := okWide_slice Try.underlying24 (hval 6 24 v6 rfl rfl)
  have k6 := h6
  have lt6 : ∀ x ∈ p6, x.block < W.heap.size := by obtain ⟨m, hm⟩ := k6; exact DataW.trod_lt m _ _ _ hm
  obtain ⟨b6, o6, F6, R6, L6⟩ : ∃ (b off : Nat) (F : Nat → Bool), Row W a6 len6 b off (fun i => .bool (F i)) ∧ len6 ≤ 9223372036854775807 := by
    obtain ⟨fuel, hf⟩ := h6
    exact open_bools (cap := cap6) (by simpa [Value.cells] using hf)
  obtain ⟨a7, len7, cap7, rfl⟩ := okWide_slice Try.underlying24 (hval 7 24 v7 rfl rfl)
  have k7 := h7
  have lt7 : ∀ x ∈ p7, x.block < W.heap.size := by obtain ⟨m, hm⟩ := k7; exact DataW.trod_lt m _ _ _ hm
  obtain ⟨b7, o7, F7, R7, L7⟩ : ∃ (b off : Nat) (F : Nat → Bool), Row W a7 len7 b off (fun i => .bool (F i)) ∧ len7 ≤ 9223372036854775807 := by
    obtain ⟨fuel, hf⟩ := h7
    exact open_bools (cap := cap7) (by simpa [Value.cells] using hf)
  obtain ⟨a8, len8, cap8, rfl⟩ := okWide_slice Try.underlying22 (hval 8 22 v8 rfl rfl)
  have k8 := h8
  have lt8 : ∀ x ∈ p8, x.block < W.heap.size := by obtain ⟨m, hm⟩ := k8; exact DataW.trod_lt m _ _ _ hm
  obtain ⟨b8, o8, F8, R8, S8, L8⟩ : ∃ b off K, Strs W a8 len8 b off K ∧ Lens len8 K ∧ len8 ≤ 9223372036854775807 := by
    obtain ⟨fuel, hf⟩ := h8
    exact open_strs (cap := cap8) (by simpa [Value.cells] using hf)
  obtain ⟨a9, rfl, rfl, rfl⟩ := open_bool Try.underlying4 (hval 9 4 v9 rfl rfl) h9
  obtain ⟨a10, rfl, rfl, rfl, w10⟩ := open_string Try.underlying9 (hval 10 9 v10 rfl rfl) h10
  clear hA0 hval0
  refine (law a0 a9 a1 a3 a10 a2 a4 len4 cap4 b4 o4 F4 a5 a6 a7 len5 cap5 b5 o5 len6 cap6 b6 o6 len7 cap7 b7 o7 F5 F6 F7 a8 len8 cap8 b8 o8 F8 W R4 S4 R5 R6 R7 R8 S8 L4 L5 L6 L7 L8 (by unfold maxLen at w1; omega) (by unfold maxLen at w3; omega) (by unfold maxLen at w10; omega)).mono fun e W' ⟨he, bel⟩ => ?_
  subst he
  exact ⟨_, rfl, _, _, _, [], _, [], hW', trodAll_mk1 (shut_bool Try.underlying4 _), (trodAll_cons_mk (shut_bool Try.underlying4 _) (trodAll_cons_mk (shut_string Try.underlying9 w1) (trodAll_cons_mk (shut_int Try.underlying2 w2) (trodAll_cons_mk (shut_string Try.underlying9 w3)
    (trodAll_cons_mk (Below.trod laidOut (by kernel_rfl) (of_decide_eq_true (by kernel_rfl)) k4 bel lt4) (trodAll_cons_mk (Below.trod laidOut (by kernel_rfl) (of_decide_eq_true (by kernel_rfl)) k5 bel lt5) (trodAll_cons_mk (Below.trod laidOut (by kernel_rfl) (of_decide_eq_true (by kernel_rfl)) k6 bel lt6)
    (trodAll_cons_mk (Below.trod laidOut (by kernel_rfl) (of_decide_eq_true (by kernel_rfl)) k7 bel lt7) (trodAll_cons_mk (Below.trod laidOut (by kernel_rfl) (of_decide_eq_true (by kernel_rfl)) k8 bel lt8) (trodAll_cons_mk (shut_bool Try.underlying4 _) (trodAll_cons_mk (shut_string Try.underlying9 w10) trodAll_mk0))))))))))), rfl, bel.frame _, fun h => by cases h⟩

theorem over : Rows.fnLookupIsLastMemberNamedRow.holds Try.pinned (OpenSpec.ofChange Rows.fnLookupIsLastMemberNamedSpec) :=
  OpenClaim.holds_of_wide 3 Try.f3 rfl rfl rfl rfl rfl rfl rfl ⟨rfl, rfl, rfl, rfl, rfl⟩ rfl rfl rfl rfl rfl (by kernel_rfl) Try.func3 (by kernel_rfl)
    (of_decide_eq_true (by kernel_rfl)) (by unfold Func.isWrapper; first | (rw [if_pos (by decide +kernel)]; kernel_rfl) | (rw [if_neg (by decide +kernel)]; exact ⟨rfl, rfl⟩))
    (fun os started H enc _ => lifted os started H enc)

theorem proved : Rows.FnLookupIsLastMemberNamedSaid := over
#print axioms proved
end Go.Proofs.Qxb6630316a.fnLookupIsLastMemberNamed
