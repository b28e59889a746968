/- areStraight, isTemplate's loop, a pack's. -/
import Derived.Test.YtnhccgbkalpcnaaGreatDoorLoops
namespace Go.Proofs.YtnhccgbkalpcnaaGreatDoor
open Go.RowKit

set_option maxRecDepth 100000 in
set_option maxHeartbeats 2000000 in
theorem areStraight_step (W0 : World) (ks : List Tree) (ih : ∀ t ∈ ks, Test W0 53 t (Good t)) : TestL W0 56 ks (∀ k ∈ ks, Good k) := by
  intro v hl w hw
  have HP := Lib.hid (areParams_step W0 ks ih v hl)
  obtain ⟨a, c, rfl, hc1, hc2, hk⟩ := hl
  have HK := Lib.hid hk
  have HW := Lib.hid hw
  have hnl : (ks.length : Int) ≤ 9223372036854775807 := by omega
  clear hk ih hw hc1 hc2
  go_enter Tryz.func56, Tryz.ntmps56
  go_wp2_with fail
  go_loopg [7] (ks.length) (fun k' i wr => ∃ j : Nat, j + k' = ks.length ∧ i = .int .i64 j ∧ Hid (True) ∧ Hid (Below w.heap.size w wr))
  case atStart => exact ⟨0, by omega, rfl, trivial, Below.refl _ _⟩
  case round =>
    obtain ⟨j, hj, rfl, hg, hb⟩ := hrel
    by_cases hlt : j < ks.length
    · obtain ⟨b, off, rfl, hk⟩ := HK.out.resolve_left (by intro e; subst e; simp at hlt)
      obtain ⟨ka, kc, hkid, hat⟩ := hk j hlt
      have L1 := HW.out.on hb.out
      obtain ⟨p0, p1, p2, p3⟩ := hkid wr L1
      have B1 := Lib.hid (hb.out.trans ((box_below wr (.cells #[.string ks[j].kind, .string ks[j].text, .int .i64 ks[j].num, .slice ka ks[j].kids.length kc] 24)).mono hb.out.size))
      have L2 := Lib.hid (L1.box (.cells #[.string ks[j].kind, .string ks[j].text, .int .i64 ks[j].num, .slice ka ks[j].kids.length kc] 24))
      have HT := Lib.hid (turned_any W0 ks[j] _ hat)
      clear hat
      clear hk hkid L1
      go_wp2_with fail
      refine (HT.out _ L2.out).mono ?_
      rintro e w2 ⟨⟨r, rfl, _⟩, b2⟩
      have B2 := Lib.hid (B1.out.trans (b2.mono (by have := hb.out.size; simp; omega)))
      clear b2
      cases r with
      | true =>
        go_wp2_with fail
        go_ret
        exact ⟨says_no rfl, B2.out⟩
      | false =>
        go_wp2_with fail
        go_roundg (gk - 1)
        case measure => omega
        case rel => exact ⟨j + 1, by omega, by go_num, trivial, B2.out⟩
    · go_wp2_with fail
      refine (HP.out _ (HW.out.on hb.out)).mono ?_
      rintro e w2 ⟨⟨r, rfl, hr⟩, b2⟩
      have X := Lib.hid (And.intro hr (hb.out.trans (b2.mono hb.out.size)))
      clear hr b2
      go_wp2_with fail
      go_ret
      exact ⟨⟨r, rfl, X.out.1⟩, X.out.2⟩


/-- isTemplate, of a node with two kids or more, no text and no number -/
def TmplP (x : ByteArray) (n : Int) (ks : List Tree) : Prop := x = ⟨#[]⟩ ∧ n = 0 ∧ ∃ p l, ks = p :: l ∧ l ≠ [] ∧ ∀ k ∈ l, Good k

end Go.Proofs.YtnhccgbkalpcnaaGreatDoor
