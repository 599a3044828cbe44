import Derived.Test.Qxb6630316aParts
namespace Go.Proofs.Qxb6630316a
open Go.RowKit Go.Lib

set_option maxRecDepth 100000 in
set_option maxHeartbeats 1000000 in
theorem bytes7 (a : Option Addr) (len cap b off : Nat) (K : Nat → ByteArray) (na : Option Addr) (nl nc : Nat) (p : Int) (k key : ByteArray) (w : World) (h : Strs w a len b off K) (hK : Lens len K) (hl : len ≤ 9223372036854775807) (hnl : nl ≤ 9223372036854775807) (hk : k.size ≤ 9223372036854775807) (hkey : key.size ≤ 9223372036854775807) :
    Calls Try.prog 7 #[.slice a len cap, .slice na nl nc, .int .i64 p, .string k, .string key] w fun e w' => SaysIf e (Upto len K) ∧ w' = w := by
  by_cases hl' : len ≤ 1048576
  · go_enter Try.func7, Try.ntmps7
    go_wp2
    go_loop [11, 12] (fun t i => ∃ q : Nat, q ≤ len ∧ i = .int .i64 q ∧ (∃ y : Int, 0 ≤ y ∧ y ≤ 1048576 ∧ t = .int .i64 y) ∧ Upto q K) (fun _ i => len - (intOf i).toNat)
    case atStart => exact ⟨0, Nat.zero_le _, rfl, ⟨_, by omega, by omega, rfl⟩, Upto.zero K⟩
    case round =>
      obtain ⟨q, hq, rfl, ⟨y, hy0, hy1, rfl⟩, hu⟩ := hrel
      by_cases hlt : q < len
      · obtain rfl := h.addr (by omega)
        have c1 := h.cell q hlt
        have n1 := hK q hlt
        by_cases z1 : (K q).size ≤ 1048576
        · by_cases z2 : y + ((K q).size : Int) ≤ 1048576
          · go_wp2
            go_round
            case rel => exact ⟨q + 1, by omega, by go_num, ⟨_, by omega, z2, rfl⟩, hu.next z1⟩
            case measure => simp [intOf]; omega
          · go_wp2
            go_ret
            exact ⟨saysNo _, rfl⟩
        · go_wp2
          go_ret
          exact ⟨saysNo _, rfl⟩
      · obtain rfl : q = len := by omega
        have HU : Hid (Upto q K) := hu
        clear hu
        go_wp2
        all_goals (go_ret; exact ⟨by first | exact saysNo _ | exact saysYes HU.out, rfl⟩)
  · go_enter Try.func7, Try.ntmps7
    go_wp2
    go_ret
    exact ⟨saysNo _, rfl⟩

set_option maxRecDepth 100000 in
set_option maxHeartbeats 2000000 in
theorem bytes5 (nr un : Bool) (kind text key : ByteArray) (ofs : Int) (a : Option Addr) (len cap b off : Nat) (K : Nat → ByteArray) (ma ua na : Option Addr) (ml mc ul uc nl nc : Nat) (ea : Option Addr) (el ec eb eo : Nat) (T : Nat → ByteArray) (w : World)
    (h : Strs w a len b off K) (hK : Lens len K) (h' : Strs w ea el eb eo T) (hT : Lens el T) (hl : len ≤ 9223372036854775807) (hml : ml ≤ 9223372036854775807) (hul : ul ≤ 9223372036854775807) (hnl : nl ≤ 9223372036854775807) (hel : el ≤ 9223372036854775807)
    (hkind : kind.size ≤ 9223372036854775807) (htext : text.size ≤ 9223372036854775807) (hkey : key.size ≤ 9223372036854775807) :
    Calls Try.prog 5 #[.bool nr, .string kind, .int .i64 ofs, .string text, .slice a len cap, .slice ma ml mc, .slice ua ul uc, .slice na nl nc, .slice ea el ec, .bool un, .string key] w fun e w' => SaysIf e (Upto len K ∧ Upto el T) ∧ w' = w := by
  go_enter Try.func5, Try.ntmps5
  go_wp2
  any_goals (go_ret; exact ⟨saysNo _, rfl⟩)
  go_loop [23, 24] (fun t i => ∃ q : Nat, q ≤ len ∧ i = .int .i64 q ∧ (∃ y : Int, 0 ≤ y ∧ y ≤ 1048576 ∧ t = .int .i64 y) ∧ Upto q K) (fun _ i => len - (intOf i).toNat)
  case atStart => exact ⟨0, Nat.zero_le _, rfl, ⟨_, by omega, by omega, rfl⟩, Upto.zero _⟩
  case round =>
    obtain ⟨q, hq, rfl, ⟨y, hy0, hy1, rfl⟩, hu⟩ := hrel
    by_cases hlt : q < len
    · obtain rfl := h.addr (by omega)
      have c1 := h.cell q hlt
      have n1 := hK q hlt
      by_cases z1 : (K q).size ≤ 1048576
      · by_cases z2 : y + ((K q).size : Int) ≤ 1048576
        · go_wp2
          go_round
          case rel => exact ⟨q + 1, by omega, by go_num, ⟨_, by omega, z2, rfl⟩, hu.next z1⟩
          case measure => simp [intOf]; omega
        · go_wp2
          go_ret
          exact ⟨saysNo _, rfl⟩
      · go_wp2
        go_ret
        exact ⟨saysNo _, rfl⟩
    · obtain rfl : q = len := by omega
      have HU : Hid (Upto q K) := hu
      clear hu
      go_wp2
      any_goals (go_ret; exact ⟨saysNo _, rfl⟩)
      clear hlt hq
      go_loop [23, 25] (fun t i => ∃ q : Nat, q ≤ el ∧ i = .int .i64 q ∧ (∃ y : Int, 0 ≤ y ∧ y ≤ 1048576 ∧ t = .int .i64 y) ∧ Upto q T) (fun _ i => el - (intOf i).toNat)
      case atStart => exact ⟨0, Nat.zero_le _, rfl, ⟨_, by omega, by omega, rfl⟩, Upto.zero _⟩
      case round =>
        obtain ⟨r, hr, rfl, ⟨x, hx0, hx1, rfl⟩, hv⟩ := hrel
        by_cases hlt : r < el
        · obtain rfl := h'.addr (by omega)
          have c1 := h'.cell r hlt
          have n1 := hT r hlt
          by_cases z1 : (T r).size ≤ 1048576
          · by_cases z2 : x + ((T r).size : Int) ≤ 1048576
            · go_wp2
              go_round
              case rel => exact ⟨r + 1, by omega, by go_num, ⟨_, by omega, z2, rfl⟩, hv.next z1⟩
              case measure => simp [intOf]; omega
            · go_wp2
              go_ret
              exact ⟨saysNo _, rfl⟩
          · go_wp2
            go_ret
            exact ⟨saysNo _, rfl⟩
        · obtain rfl : r = el := by omega
          have HV : Hid (Upto r T) := hv
          clear hv
          go_wp2
          all_goals (go_ret; exact ⟨by first | exact saysNo _ | exact saysYes ⟨HU.out, HV.out⟩, rfl⟩)
end Go.Proofs.Qxb6630316a
