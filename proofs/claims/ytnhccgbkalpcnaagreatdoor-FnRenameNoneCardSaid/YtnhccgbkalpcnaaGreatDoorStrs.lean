/- The tests on texts: each answers, and turns nothing. -/
import Derived.Test.YtnhccgbkalpcnaaGreatDoorTree
namespace Go.Proofs.YtnhccgbkalpcnaaGreatDoor
open Go.RowKit

set_option maxHeartbeats 1000000 in
theorem letter_any (c : UInt8) (w : World) : Calls Tryz.prog 78 #[.int .u8 c.toNat] w fun e w' => Says True e ∧ w = w' := by
  generalize (c.toNat : Int) = n
  go_enter Tryz.func78, Tryz.ntmps78
  go_wp2_with fail
  all_goals go_ret
  all_goals exact ⟨says_any rfl, rfl⟩

set_option maxRecDepth 100000 in
set_option maxHeartbeats 4000000 in
theorem hash_any (s : ByteArray) (w : World) : Calls Tryz.prog 77 #[.string s] w fun e w' => Says True e ∧ w = w' := by
  by_cases h17 : s.size = 17
  · have e1 : ((s.size : Int) == 17) = true := beq_iff_eq.2 (by omega)
    have e2 : ((s.size : Int) != 17) = false := by rw [bne, e1]; rfl
    cases e3 : (((s[0]'(by omega)).toNat : Int) != 104) with
    | true =>
      go_enter Tryz.func77, Tryz.ntmps77
      go_wp2_with fail
      go_ret
      exact ⟨says_any rfl, rfl⟩
    | false =>
      go_enter Tryz.func77, Tryz.ntmps77
      go_wp2_with fail
      go_loopg [3] 16 (fun k i wr => w = wr ∧ ∃ j : Nat, j + k = 17 ∧ i = .int .i64 j ∧ 1 ≤ j)
      case atStart => exact ⟨rfl, 1, by omega, rfl, by omega⟩
      case round =>
        obtain ⟨rfl, j, hj, rfl, h1⟩ := hrel
        by_cases hlt : j < 17
        · have hjs : j < s.size := by omega
          go_wp2_with fail
          all_goals first | (go_ret; exact ⟨says_any rfl, rfl⟩) | (go_roundg (gk - 1); (case measure => omega); (case rel => exact ⟨rfl, j + 1, by omega, by go_num, by omega⟩))
        · go_wp2_with fail
          go_ret
          exact ⟨says_any rfl, rfl⟩
  · have e1 : ((s.size : Int) == 17) = false := beq_eq_false_iff_ne.2 (by omega)
    have e2 : ((s.size : Int) != 17) = true := by rw [bne, e1]; rfl
    go_enter Tryz.func77, Tryz.ntmps77
    go_wp2_with fail
    go_ret
    exact ⟨says_any rfl, rfl⟩

set_option maxRecDepth 100000 in
set_option maxHeartbeats 4000000 in
theorem digits_any (s : ByteArray) (w : World) : Calls Tryz.prog 76 #[.string s] w fun e w' => Says True e ∧ w = w' := by
  by_cases h0 : 1 ≤ s.size ∧ s.size ≤ 9
  · obtain ⟨h1, h9⟩ := h0
    have d1 : decide ((s.size : Int) < 1) = false := decide_eq_false (by omega)
    have d2 : decide ((9 : Int) < s.size) = false := decide_eq_false (by omega)
    cases e3 : (((s[0]'(by omega)).toNat : Int) == 48) with
    | false =>
      go_enter Tryz.func76, Tryz.ntmps76
      go_wp2_with fail
      go_loopg [3] (s.size) (fun k i wr => w = wr ∧ ∃ j : Nat, j + k = s.size ∧ i = .int .i64 j)
      case atStart => exact ⟨rfl, 0, by omega, rfl⟩
      case round =>
        obtain ⟨rfl, j, hj, rfl⟩ := hrel
        by_cases hlt : j < s.size
        · go_wp2_with fail
          all_goals first | (go_ret; exact ⟨says_any rfl, rfl⟩) | (go_roundg (gk - 1); (case measure => omega); (case rel => exact ⟨rfl, j + 1, by omega, by go_num⟩))
        · go_wp2_with fail
          go_ret
          exact ⟨says_any rfl, rfl⟩
    | true =>
      cases d3 : decide ((1 : Int) < s.size) with
      | true =>
        go_enter Tryz.func76, Tryz.ntmps76
        go_wp2_with fail
        go_ret
        exact ⟨says_any rfl, rfl⟩
      | false =>
        go_enter Tryz.func76, Tryz.ntmps76
        go_wp2_with fail
        go_loopg [3] (s.size) (fun k i wr => w = wr ∧ ∃ j : Nat, j + k = s.size ∧ i = .int .i64 j)
        case atStart => exact ⟨rfl, 0, by omega, rfl⟩
        case round =>
          obtain ⟨rfl, j, hj, rfl⟩ := hrel
          by_cases hlt : j < s.size
          · go_wp2_with fail
            all_goals first | (go_ret; exact ⟨says_any rfl, rfl⟩) | (go_roundg (gk - 1); (case measure => omega); (case rel => exact ⟨rfl, j + 1, by omega, by go_num⟩))
          · go_wp2_with fail
            go_ret
            exact ⟨says_any rfl, rfl⟩
  · by_cases h1 : 1 ≤ s.size
    · have h9 : 9 < s.size := by omega
      clear h0
      go_enter Tryz.func76, Tryz.ntmps76
      go_wp2_with fail
      go_ret
      exact ⟨says_any rfl, rfl⟩
    · clear h0
      go_enter Tryz.func76, Tryz.ntmps76
      go_wp2_with fail
      go_ret
      exact ⟨says_any rfl, rfl⟩

set_option maxRecDepth 100000 in
set_option maxHeartbeats 8000000 in
theorem ident_loop (s : ByteArray) (w : World) (h1 : 1 ≤ s.size) (h40 : s.size ≤ 40) :
    Calls Tryz.prog 72 #[.string s] w fun e w' => Says True e ∧ w = w' := by
  have HH := Lib.hid (hash_any s w)
  have d1 : decide ((s.size : Int) < 1) = false := decide_eq_false (by omega)
  have d2 : decide ((40 : Int) < s.size) = false := decide_eq_false (by omega)
  cases c1 : decide ((48 : Int) ≤ (s[0]'(by omega)).toNat) with
  | false =>
    cases c8 : decide ((8 : Int) ≤ s.size) with
    | true =>
      have h8 : 8 ≤ s.size := by have := of_decide_eq_true c8; omega
      cases c9 : ((s.extract 0 8).toList == [95, 71, 76, 79, 66, 65, 76, 95]) with
      | true =>
        go_enter Tryz.func72, Tryz.ntmps72
        go_wp2_with fail
        refine (HH.out).mono ?_
        rintro e w1 ⟨⟨r, rfl, _⟩, rfl⟩
        cases r with
        | true =>
          go_wp2_with fail
          go_ret
          exact ⟨says_any rfl, rfl⟩
        | false =>
          go_wp2_with fail
          go_ret
          exact ⟨says_any rfl, rfl⟩
      | false =>
        go_enter Tryz.func72, Tryz.ntmps72
        go_wp2_with fail
        refine (HH.out).mono ?_
        rintro e w1 ⟨⟨r, rfl, _⟩, rfl⟩
        cases r with
        | true =>
          go_wp2_with fail
          go_ret
          exact ⟨says_any rfl, rfl⟩
        | false =>
          go_wp2_with fail
          go_loopg [3] (s.size) (fun k i wr => w = wr ∧ ∃ j : Nat, j + k = s.size ∧ i = .int .i64 j)
          case atStart => exact ⟨rfl, 0, by omega, rfl⟩
          case round =>
            obtain ⟨rfl, j, hj, rfl⟩ := hrel
            by_cases hlt : j < s.size
            · go_wp2_with fail
              refine (letter_any _ _).mono ?_
              rintro e w1 ⟨⟨r, rfl, _⟩, rfl⟩
              cases r with
              | true =>
                go_wp2_with fail
                go_roundg (gk - 1)
                case measure => omega
                case rel => exact ⟨rfl, j + 1, by omega, by go_num⟩
              | false =>
                go_wp2_with fail
                go_ret
                exact ⟨says_any rfl, rfl⟩
            · go_wp2_with fail
              go_ret
              exact ⟨says_any rfl, rfl⟩
    | false =>
      go_enter Tryz.func72, Tryz.ntmps72
      go_wp2_with fail
      refine (HH.out).mono ?_
      rintro e w1 ⟨⟨r, rfl, _⟩, rfl⟩
      cases r with
      | true =>
        go_wp2_with fail
        go_ret
        exact ⟨says_any rfl, rfl⟩
      | false =>
        go_wp2_with fail
        go_loopg [3] (s.size) (fun k i wr => w = wr ∧ ∃ j : Nat, j + k = s.size ∧ i = .int .i64 j)
        case atStart => exact ⟨rfl, 0, by omega, rfl⟩
        case round =>
          obtain ⟨rfl, j, hj, rfl⟩ := hrel
          by_cases hlt : j < s.size
          · go_wp2_with fail
            refine (letter_any _ _).mono ?_
            rintro e w1 ⟨⟨r, rfl, _⟩, rfl⟩
            cases r with
            | true =>
              go_wp2_with fail
              go_roundg (gk - 1)
              case measure => omega
              case rel => exact ⟨rfl, j + 1, by omega, by go_num⟩
            | false =>
              go_wp2_with fail
              go_ret
              exact ⟨says_any rfl, rfl⟩
          · go_wp2_with fail
            go_ret
            exact ⟨says_any rfl, rfl⟩
  | true =>
    cases c2 : decide (((s[0]'(by omega)).toNat : Int) ≤ 57) with
    | false =>
      cases c8 : decide ((8 : Int) ≤ s.size) with
      | true =>
        have h8 : 8 ≤ s.size := by have := of_decide_eq_true c8; omega
        cases c9 : ((s.extract 0 8).toList == [95, 71, 76, 79, 66, 65, 76, 95]) with
        | true =>
          go_enter Tryz.func72, Tryz.ntmps72
          go_wp2_with fail
          refine (HH.out).mono ?_
          rintro e w1 ⟨⟨r, rfl, _⟩, rfl⟩
          cases r with
          | true =>
            go_wp2_with fail
            go_ret
            exact ⟨says_any rfl, rfl⟩
          | false =>
            go_wp2_with fail
            go_ret
            exact ⟨says_any rfl, rfl⟩
        | false =>
          go_enter Tryz.func72, Tryz.ntmps72
          go_wp2_with fail
          refine (HH.out).mono ?_
          rintro e w1 ⟨⟨r, rfl, _⟩, rfl⟩
          cases r with
          | true =>
            go_wp2_with fail
            go_ret
            exact ⟨says_any rfl, rfl⟩
          | false =>
            go_wp2_with fail
            go_loopg [3] (s.size) (fun k i wr => w = wr ∧ ∃ j : Nat, j + k = s.size ∧ i = .int .i64 j)
            case atStart => exact ⟨rfl, 0, by omega, rfl⟩
            case round =>
              obtain ⟨rfl, j, hj, rfl⟩ := hrel
              by_cases hlt : j < s.size
              · go_wp2_with fail
                refine (letter_any _ _).mono ?_
                rintro e w1 ⟨⟨r, rfl, _⟩, rfl⟩
                cases r with
                | true =>
                  go_wp2_with fail
                  go_roundg (gk - 1)
                  case measure => omega
                  case rel => exact ⟨rfl, j + 1, by omega, by go_num⟩
                | false =>
                  go_wp2_with fail
                  go_ret
                  exact ⟨says_any rfl, rfl⟩
              · go_wp2_with fail
                go_ret
                exact ⟨says_any rfl, rfl⟩
      | false =>
        go_enter Tryz.func72, Tryz.ntmps72
        go_wp2_with fail
        refine (HH.out).mono ?_
        rintro e w1 ⟨⟨r, rfl, _⟩, rfl⟩
        cases r with
        | true =>
          go_wp2_with fail
          go_ret
          exact ⟨says_any rfl, rfl⟩
        | false =>
          go_wp2_with fail
          go_loopg [3] (s.size) (fun k i wr => w = wr ∧ ∃ j : Nat, j + k = s.size ∧ i = .int .i64 j)
          case atStart => exact ⟨rfl, 0, by omega, rfl⟩
          case round =>
            obtain ⟨rfl, j, hj, rfl⟩ := hrel
            by_cases hlt : j < s.size
            · go_wp2_with fail
              refine (letter_any _ _).mono ?_
              rintro e w1 ⟨⟨r, rfl, _⟩, rfl⟩
              cases r with
              | true =>
                go_wp2_with fail
                go_roundg (gk - 1)
                case measure => omega
                case rel => exact ⟨rfl, j + 1, by omega, by go_num⟩
              | false =>
                go_wp2_with fail
                go_ret
                exact ⟨says_any rfl, rfl⟩
            · go_wp2_with fail
              go_ret
              exact ⟨says_any rfl, rfl⟩
    | true =>
      go_enter Tryz.func72, Tryz.ntmps72
      go_wp2_with fail
      go_ret
      exact ⟨says_any rfl, rfl⟩

set_option maxRecDepth 100000 in
set_option maxHeartbeats 1000000 in
theorem ident_any (s : ByteArray) (w : World) : Calls Tryz.prog 72 #[.string s] w fun e w' => Says True e ∧ w = w' := by
  by_cases h0 : 1 ≤ s.size
  · by_cases h9 : s.size ≤ 40
    · exact ident_loop s w h0 h9
    · go_enter Tryz.func72, Tryz.ntmps72
      go_wp2_with fail
      go_ret
      exact ⟨says_any rfl, rfl⟩
  · go_enter Tryz.func72, Tryz.ntmps72
    go_wp2_with fail
    go_ret
    exact ⟨says_any rfl, rfl⟩

end Go.Proofs.YtnhccgbkalpcnaaGreatDoor
