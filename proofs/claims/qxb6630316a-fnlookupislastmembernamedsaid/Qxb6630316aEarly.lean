import Derived.Test.Qxb6630316aState
namespace Go.Proofs.Qxb6630316a
open Go.RowKit Go.Lib

set_option maxRecDepth 100000 in
set_option maxHeartbeats 4000000 in
theorem lawL_early (nr un : Bool) (kind text key : ByteArray) (ofs : Int) (a : Option Addr) (len cap b off : Nat) (K : Nat → ByteArray) (ma ua na : Option Addr) (ml mc ul uc nl nc : Nat) (ea : Option Addr) (el ec eb eo : Nat) (T : Nat → ByteArray) (w : World)
    (h : Strs w a len b off K) (hK : Lens len K) (h' : Strs w ea el eb eo T) (hT : Lens el T) (hl : len ≤ 9223372036854775807) (hml : ml ≤ 9223372036854775807) (hul : ul ≤ 9223372036854775807) (hnl : nl ≤ 9223372036854775807) (hel : el ≤ 9223372036854775807)
    (hkind : kind.size ≤ 9223372036854775807) (htext : text.size ≤ 9223372036854775807) (hkey : key.size ≤ 9223372036854775807)
    (hc : ¬ kind.size ≤ 1048576 ∨ (kind.size ≤ 1048576 ∧ ¬ text.size ≤ 1048576) ∨ (kind.size ≤ 1048576 ∧ text.size ≤ 1048576 ∧ ¬ key.size ≤ 1048576) ∨ (kind.size ≤ 1048576 ∧ text.size ≤ 1048576 ∧ key.size ≤ 1048576 ∧
      (¬ len ≤ 65536 ∨ (len ≤ 65536 ∧ ¬ ml ≤ 65536) ∨ (len ≤ 65536 ∧ ml ≤ 65536 ∧ ¬ ul ≤ 65536) ∨ (len ≤ 65536 ∧ ml ≤ 65536 ∧ ul ≤ 65536 ∧ ¬ nl ≤ 65536) ∨ (len ≤ 65536 ∧ ml ≤ 65536 ∧ ul ≤ 65536 ∧ nl ≤ 65536 ∧ ¬ el ≤ 65536)))) :
    Calls Try.prog 3 #[.bool nr, .string kind, .int .i64 ofs, .string text, .slice a len cap, .slice ma ml mc, .slice ua ul uc, .slice na nl nc, .slice ea el ec, .bool un, .string key] w fun e w' => e = .returned (.bool true) ∧ Below w.heap.size w w' := by
  rcases hc with d1 | ⟨d1, d2⟩ | ⟨d1, d2, d3⟩ | ⟨d1, d2, d3, d4 | ⟨d4, d5⟩ | ⟨d4, d5, d6⟩ | ⟨d4, d5, d6, d7⟩ | ⟨d4, d5, d6, d7, d8⟩⟩
  all_goals
    go_enter Try.func3, Try.ntmps3
    go_wp2_with fail
    refine (bytes5 nr un kind text key ofs a len cap b off K ma ua na ml mc ul uc nl nc ea el ec eb eo T _ h hK h' hT hl hml hul hnl hel hkind htext hkey).mono ?_
    rintro e w' ⟨⟨b0, rfl, hup⟩, rfl⟩
    clear hup
    cases b0
    all_goals
      go_wp2_with fail
      go_ret
      exact ⟨rfl, Below.refl _ _⟩
end Go.Proofs.Qxb6630316a
