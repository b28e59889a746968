/- isUnnamed, isLiteral, isArg. -/
import Derived.Test.YtnhccgbkalpcnaaGreatDoorIsTmpl
namespace Go.Proofs.YtnhccgbkalpcnaaGreatDoor
open Go.RowKit

set_option maxRecDepth 100000 in
set_option maxHeartbeats 2000000 in
theorem isUnnamed_step (W0 : World) (k x : ByteArray) (n : Int) (ks : List Tree) (ih : ∀ t ∈ ks, Test W0 53 t (Good t)) : Test W0 38 (.node k x n ks) (Good (.node k x n ks)) := by
  intro v hv w hw
  obtain ⟨sv, rfl, hl⟩ := hv.kids
  have HS := Lib.hid (areStraight_step W0 ks ih sv hl)
  obtain ⟨a, c, rfl, hc1, hc2, _⟩ := hl
  have S0 := Lib.hid (St.start hw (.string k) (.string x) (.int .i64 n) (.slice a ks.length c))
  clear hv ih hw
  by_cases hx : x = ⟨#[]⟩
  · subst hx
    cases c1 : decide (n < 0) with
    | true =>
      go_enter Tryz.func38, Tryz.ntmps38
      go_wp2_with fail
      go_ret
      exact ⟨says_no rfl, S0.out.below⟩
    | false =>
      cases c2 : decide ((1000 : Int) < n) with
      | true =>
        go_enter Tryz.func38, Tryz.ntmps38
        go_wp2_with fail
        go_ret
        exact ⟨says_no rfl, S0.out.below⟩
      | false =>
        by_cases hk : k = ⟨#[85, 110, 110, 97, 109, 101, 100, 84, 121, 112, 101]⟩
        · subst hk
          by_cases hk0 : ks = []
          · subst hk0
            simp only [List.length_nil] at *
            go_enter Tryz.func38, Tryz.ntmps38
            go_wp2_with fail
            go_ret
            exact ⟨⟨_, rfl, fun _ => .unnamedType n⟩, S0.out.below⟩
          · have hl0 : ((ks.length : Int) == 0) = false := beq_eq_false_iff_ne.2 (by have := List.length_pos_iff.2 hk0; omega)
            go_enter Tryz.func38, Tryz.ntmps38
            go_wp2_with fail
            go_ret
            exact ⟨says_no rfl, S0.out.below⟩
        · have hk' : (k.toList == [85, 110, 110, 97, 109, 101, 100, 84, 121, 112, 101]) = false := ne_of hk
          by_cases hk2 : k = ⟨#[67, 108, 111, 115, 117, 114, 101]⟩
          · subst hk2
            go_enter Tryz.func38, Tryz.ntmps38
            go_wp2_with fail
            refine (HS.out _ S0.out.later).mono ?_
            rintro e w1 ⟨⟨r, rfl, hr⟩, b1⟩
            have X := Lib.hid (And.intro hr (S0.out.on b1).below)
            clear hr b1
            go_wp2_with fail
            go_ret
            exact ⟨⟨r, rfl, fun h => .closure n (X.out.1 h)⟩, X.out.2⟩
          · have hk2' : (k.toList == [67, 108, 111, 115, 117, 114, 101]) = false := ne_of hk2
            go_enter Tryz.func38, Tryz.ntmps38
            go_wp2_with fail
            go_ret
            exact ⟨says_no rfl, S0.out.below⟩
  · have hx0 : x.toList.isEmpty = false := ne_empty hx
    go_enter Tryz.func38, Tryz.ntmps38
    go_wp2_with fail
    go_ret
    exact ⟨says_no rfl, S0.out.below⟩

/-- what isLiteral says of a node -/
def LitP (n : Int) (ks : List Tree) : Prop := ∃ a, ks = [a] ∧ (n = 0 ∨ n = 1) ∧ Good a

end Go.Proofs.YtnhccgbkalpcnaaGreatDoor
