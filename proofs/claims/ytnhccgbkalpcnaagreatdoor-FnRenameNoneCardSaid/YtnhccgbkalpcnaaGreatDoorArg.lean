/- isArg. -/
import Derived.Test.YtnhccgbkalpcnaaGreatDoorCls
namespace Go.Proofs.YtnhccgbkalpcnaaGreatDoor
open Go.RowKit

theorem good_literal {x : ByteArray} {n : Int} {ks : List Tree} (h : LitP n ks) : Good (.node ⟨#[76, 105, 116, 101, 114, 97, 108]⟩ x n ks) := by
  obtain ⟨a, rfl, hn, ha⟩ := h
  exact .literal x hn ha

set_option maxRecDepth 100000 in
set_option maxHeartbeats 2000000 in
theorem arg_pack (W0 : World) (x : ByteArray) (n : Int) (ks : List Tree) (ih : ∀ t ∈ ks, Test W0 57 t (Good t)) : Test W0 57 (.node ⟨#[65, 114, 103, 117, 109, 101, 110, 116, 80, 97, 99, 107]⟩ x n ks) (Good (.node ⟨#[65, 114, 103, 117, 109, 101, 110, 116, 80, 97, 99, 107]⟩ x n ks)) := by
  intro v hv w hw
  by_cases hx : x = ⟨#[]⟩
  · subst hx
    by_cases hn : n = 0
    · subst hn
      obtain ⟨sv, rfl, a, c, rfl, hc1, hc2, hk⟩ := hv.kids
      have HK := Lib.hid hk
      have IH := Lib.hid ih
      have HW := Lib.hid hw
      have HF := Lib.hid (show (∀ k ∈ ks, Good k) → Good (.node ⟨#[65, 114, 103, 117, 109, 101, 110, 116, 80, 97, 99, 107]⟩ ⟨#[]⟩ 0 ks) from .argumentPack)
      have hnl : (ks.length : Int) ≤ 9223372036854775807 := by omega
      have B0 := Lib.hid (box_below w (.cells #[.string ⟨#[65, 114, 103, 117, 109, 101, 110, 116, 80, 97, 99, 107]⟩, .string ⟨#[]⟩, .int .i64 0, .slice a ks.length c] 24))
      clear hk ih hw hv hc1 hc2
      go_enter Tryz.func57, Tryz.ntmps57
      go_wp2_with fail
      go_loopg [24] (ks.length) (fun k' i wr => ∃ j : Nat, j + k' = ks.length ∧ i = .int .i64 j ∧ Hid (∀ k ∈ ks.take j, Good k) ∧ Hid (Below w.heap.size w wr))
      case atStart => exact ⟨0, by omega, rfl, Lib.hid (fun k hk => by simp at hk), Lib.hid B0.out⟩
      case round =>
        obtain ⟨j, hj, rfl, hg, hb⟩ := hrel
        by_cases hlt : j < ks.length
        · obtain ⟨b, off, rfl, hk⟩ := HK.out.resolve_left (by intro e; subst e; simp at hlt)
          obtain ⟨ka, kc, hkid, hat⟩ := hk j hlt
          have L1 := HW.out.on hb.out
          have TA := Lib.hid (fun h => take_all (P := Good) hg.out hlt h)
          have HT := Lib.hid (IH.out ks[j] (List.getElem_mem hlt) _ hat)
          generalize hKK : ks[j] = K at *
          obtain ⟨k, x, n, l⟩ := K
          obtain ⟨p0, p1, p2, p3⟩ := (hkid wr L1).fields rfl
          have B1 := Lib.hid (hb.out.trans ((box_below wr (.cells #[.string k, .string x, .int .i64 n, .slice ka l.length kc] 24)).mono hb.out.size))
          have L2 := Lib.hid (L1.box (.cells #[.string k, .string x, .int .i64 n, .slice ka l.length kc] 24))
          clear hk hkid hat hKK L1
          by_cases hk1 : k = ⟨#[65, 114, 103, 117, 109, 101, 110, 116, 80, 97, 99, 107]⟩
          · subst hk1
            clear HT TA
            go_wp2_with fail
            go_ret
            exact ⟨says_no rfl, B1.out⟩
          · have hk1' : (k.toList == [65, 114, 103, 117, 109, 101, 110, 116, 80, 97, 99, 107]) = false := ne_of hk1
            go_wp2_with fail
            refine (HT.out _ L2.out).mono ?_
            rintro e w2 ⟨⟨r, rfl, hr⟩, b2⟩
            have B2 := Lib.hid (B1.out.trans (b2.mono (by have := hb.out.size; simp; omega)))
            clear b2
            cases r with
            | false =>
              clear hr
              go_wp2_with fail
              go_ret
              exact ⟨says_no rfl, B2.out⟩
            | true =>
              have G := Lib.hid (TA.out (hr rfl))
              clear hr
              go_wp2_with fail
              go_roundg (gk - 1)
              case measure => omega
              case rel => exact ⟨j + 1, by omega, by go_num, G.out, B2.out⟩
        · have HN := Lib.hid (take_done hg.out hlt)
          go_wp2_with fail
          go_ret
          exact ⟨⟨true, rfl, fun _ => HF.out HN.out⟩, hb.out⟩
    · have hn' : (n == 0) = false := beq_eq_false_iff_ne.2 hn
      obtain ⟨a, c, rfl, _⟩ := hv.shut
      have S0 := Lib.hid (St.start hw (.string ⟨#[65, 114, 103, 117, 109, 101, 110, 116, 80, 97, 99, 107]⟩) (.string ⟨#[]⟩) (.int .i64 n) (.slice a ks.length c))
      clear hv hw ih
      go_enter Tryz.func57, Tryz.ntmps57
      go_wp2_with fail
      go_ret
      exact ⟨says_no rfl, S0.out.below⟩
  · have hx0 : x.toList.isEmpty = false := ne_empty hx
    obtain ⟨a, c, rfl, _⟩ := hv.shut
    have S0 := Lib.hid (St.start hw (.string ⟨#[65, 114, 103, 117, 109, 101, 110, 116, 80, 97, 99, 107]⟩) (.string x) (.int .i64 n) (.slice a ks.length c))
    clear hv hw ih
    go_enter Tryz.func57, Tryz.ntmps57
    go_wp2_with fail
    go_ret
    exact ⟨says_no rfl, S0.out.below⟩

set_option maxRecDepth 100000 in
set_option maxHeartbeats 2000000 in
theorem isArg_step (W0 : World) (t : Tree) (ih : ∀ p ∈ t.kids, Test W0 57 p (Good p)) (hli : Test W0 73 t (LitP t.num t.kids)) (hty : Test W0 53 t (Good t)) : Test W0 57 t (Good t) := by
  obtain ⟨k, x, n, ks⟩ := t
  by_cases hp : k = ⟨#[65, 114, 103, 117, 109, 101, 110, 116, 80, 97, 99, 107]⟩
  · subst hp
    exact arg_pack W0 x n ks ih
  have hp' : (k.toList == [65, 114, 103, 117, 109, 101, 110, 116, 80, 97, 99, 107]) = false := ne_of hp
  intro v hv w hw
  have HL := Lib.hid (hli _ hv)
  have HT := Lib.hid (hty _ hv)
  obtain ⟨a, c, rfl, _⟩ := hv.shut
  have S0 := Lib.hid (St.start hw (.string k) (.string x) (.int .i64 n) (.slice a ks.length c))
  clear hv hw ih hli hty
  by_cases h1 : k = ⟨#[76, 105, 116, 101, 114, 97, 108]⟩
  · subst h1
    have FIN := Lib.hid (show LitP n ks → Good (.node ⟨#[76, 105, 116, 101, 114, 97, 108]⟩ x n ks) from good_literal)
    go_enter Tryz.func57, Tryz.ntmps57
    go_wp2_with fail
    refine (HL.out _ S0.out.later).mono ?_
    rintro e w1 ⟨⟨r, rfl, hr⟩, b⟩
    have S1 := Lib.hid (S0.out.on b)
    clear b
    cases r with
    | false =>
      clear hr
      obtain ⟨x0, x1, x2, x3⟩ := S1.out.box
      go_wp2_with fail
      go_ret
      exact ⟨says_no rfl, S1.out.below⟩
    | true =>
      have R1 := Lib.hid (hr rfl)
      clear hr
      obtain ⟨x0, x1, x2, x3⟩ := S1.out.box
      go_wp2_with fail
      go_ret
      exact ⟨⟨_, rfl, fun _ => FIN.out R1.out⟩, S1.out.below⟩
  · have h1' : (k.toList == [76, 105, 116, 101, 114, 97, 108]) = false := ne_of h1
    go_enter Tryz.func57, Tryz.ntmps57
    go_wp2_with fail
    refine (HT.out _ S0.out.later).mono ?_
    rintro e w1 ⟨⟨r, rfl, hr⟩, b⟩
    have S1 := Lib.hid (S0.out.on b)
    clear b
    cases r with
    | false =>
      clear hr
      obtain ⟨x0, x1, x2, x3⟩ := S1.out.box
      go_wp2_with fail
      go_ret
      exact ⟨says_no rfl, S1.out.below⟩
    | true =>
      have R1 := Lib.hid (hr rfl)
      clear hr
      obtain ⟨x0, x1, x2, x3⟩ := S1.out.box
      go_wp2_with fail
      go_ret
      exact ⟨⟨_, rfl, fun _ => R1.out⟩, S1.out.below⟩

end Go.Proofs.YtnhccgbkalpcnaaGreatDoor
