/- isLiteral. -/
import Derived.Test.YtnhccgbkalpcnaaGreatDoorUnn
namespace Go.Proofs.YtnhccgbkalpcnaaGreatDoor
open Go.RowKit

set_option maxRecDepth 100000 in
set_option maxHeartbeats 8000000 in
theorem isLiteral_one (W0 : World) (k x : ByteArray) (n : Int) (p : Tree) (hn : n = 0 ∨ n = 1) (hcl : Test W0 20 p (Good p)) (hty : Test W0 53 p (Good p)) : Test W0 73 (.node k x n [p]) (LitP n [p]) := by
  intro v hv w hw
  obtain ⟨b, off, c, pa, pc, rfl, hc1, hc2, hkid, hp⟩ := hv.one
  have HC := Lib.hid (hcl _ hp)
  have HT := Lib.hid (hty _ hp)
  have HH := Lib.hid (has_any W0 ⟨#[76, 105, 116, 101, 114, 97, 108]⟩ p _ hp)
  have HD := Lib.hid (digits_any x)
  have HN := Lib.hid hn
  have S0 := Lib.hid (St.start hw (.string k) (.string x) (.int .i64 n) (.slice (some ⟨b, off, none⟩) 1 c))
  have hc1' : decide (n < 0) = false := decide_eq_false (by omega)
  have hc2' : decide ((1 : Int) < n) = false := decide_eq_false (by omega)
  obtain ⟨pk, px, pn, pl⟩ := p
  obtain ⟨p0, p1, p2, p3⟩ := (hkid _ S0.out.later).fields rfl
  have S1 := Lib.hid (S0.out.on (box_below _ (.cells #[.string pk, .string px, .int .i64 pn, .slice pa pl.length pc] 24)))
  clear hv hkid hp hw hcl hty hn
  by_cases hk : pk = ⟨#[66, 117, 105, 108, 116, 105, 110, 84, 121, 112, 101]⟩
  · subst hk
    by_cases hx2 : px = ⟨#[105, 110, 116]⟩
    · subst hx2
      go_enter Tryz.func73, Tryz.ntmps73
      go_wp2_with fail
      refine (HD.out _).mono ?_
      rintro e w1 ⟨⟨r, rfl, _⟩, rfl⟩
      cases r with
      | false =>
        go_wp2_with fail
        go_ret
        exact ⟨says_no rfl, S0.out.below⟩
      | true =>
        go_wp2_with fail
        refine (HT.out _ S1.out.later).mono ?_
        rintro e w2 ⟨⟨r, rfl, hr⟩, b2⟩
        have S2 := Lib.hid (S1.out.on b2)
        clear b2
        cases r with
        | false =>
          clear hr
          obtain ⟨x0, x1, x2, x3⟩ := S2.out.box
          go_wp2_with fail
          go_ret
          exact ⟨says_no rfl, S2.out.below⟩
        | true =>
          have G := Lib.hid (hr rfl)
          clear hr
          obtain ⟨x0, x1, x2, x3⟩ := S2.out.box
          go_wp2_with fail
          go_ret
          exact ⟨⟨_, rfl, fun _ => ⟨_, rfl, by first | exact HN.out | exact .inl rfl, G.out⟩⟩, S2.out.below⟩
    · have hx2' : (px.toList == [105, 110, 116]) = false := ne_of hx2
      by_cases hx3 : px = ⟨#[108, 111, 110, 103]⟩
      · subst hx3
        go_enter Tryz.func73, Tryz.ntmps73
        go_wp2_with fail
        refine (HD.out _).mono ?_
        rintro e w1 ⟨⟨r, rfl, _⟩, rfl⟩
        cases r with
        | false =>
          go_wp2_with fail
          go_ret
          exact ⟨says_no rfl, S0.out.below⟩
        | true =>
          go_wp2_with fail
          refine (HT.out _ S1.out.later).mono ?_
          rintro e w2 ⟨⟨r, rfl, hr⟩, b2⟩
          have S2 := Lib.hid (S1.out.on b2)
          clear b2
          cases r with
          | false =>
            clear hr
            obtain ⟨x0, x1, x2, x3⟩ := S2.out.box
            go_wp2_with fail
            go_ret
            exact ⟨says_no rfl, S2.out.below⟩
          | true =>
            have G := Lib.hid (hr rfl)
            clear hr
            obtain ⟨x0, x1, x2, x3⟩ := S2.out.box
            go_wp2_with fail
            go_ret
            exact ⟨⟨_, rfl, fun _ => ⟨_, rfl, by first | exact HN.out | exact .inl rfl, G.out⟩⟩, S2.out.below⟩
      · have hx3' : (px.toList == [108, 111, 110, 103]) = false := ne_of hx3
        by_cases hx4 : px = ⟨#[108, 111, 110, 103, 32, 108, 111, 110, 103]⟩
        · subst hx4
          go_enter Tryz.func73, Tryz.ntmps73
          go_wp2_with fail
          refine (HD.out _).mono ?_
          rintro e w1 ⟨⟨r, rfl, _⟩, rfl⟩
          cases r with
          | false =>
            go_wp2_with fail
            go_ret
            exact ⟨says_no rfl, S0.out.below⟩
          | true =>
            go_wp2_with fail
            refine (HT.out _ S1.out.later).mono ?_
            rintro e w2 ⟨⟨r, rfl, hr⟩, b2⟩
            have S2 := Lib.hid (S1.out.on b2)
            clear b2
            cases r with
            | false =>
              clear hr
              obtain ⟨x0, x1, x2, x3⟩ := S2.out.box
              go_wp2_with fail
              go_ret
              exact ⟨says_no rfl, S2.out.below⟩
            | true =>
              have G := Lib.hid (hr rfl)
              clear hr
              obtain ⟨x0, x1, x2, x3⟩ := S2.out.box
              go_wp2_with fail
              go_ret
              exact ⟨⟨_, rfl, fun _ => ⟨_, rfl, by first | exact HN.out | exact .inl rfl, G.out⟩⟩, S2.out.below⟩
        · have hx4' : (px.toList == [108, 111, 110, 103, 32, 108, 111, 110, 103]) = false := ne_of hx4
          by_cases hx5 : px = ⟨#[99, 104, 97, 114]⟩
          · subst hx5
            go_enter Tryz.func73, Tryz.ntmps73
            go_wp2_with fail
            refine (HD.out _).mono ?_
            rintro e w1 ⟨⟨r, rfl, _⟩, rfl⟩
            cases r with
            | false =>
              go_wp2_with fail
              go_ret
              exact ⟨says_no rfl, S0.out.below⟩
            | true =>
              go_wp2_with fail
              refine (HT.out _ S1.out.later).mono ?_
              rintro e w2 ⟨⟨r, rfl, hr⟩, b2⟩
              have S2 := Lib.hid (S1.out.on b2)
              clear b2
              cases r with
              | false =>
                clear hr
                obtain ⟨x0, x1, x2, x3⟩ := S2.out.box
                go_wp2_with fail
                go_ret
                exact ⟨says_no rfl, S2.out.below⟩
              | true =>
                have G := Lib.hid (hr rfl)
                clear hr
                obtain ⟨x0, x1, x2, x3⟩ := S2.out.box
                go_wp2_with fail
                go_ret
                exact ⟨⟨_, rfl, fun _ => ⟨_, rfl, by first | exact HN.out | exact .inl rfl, G.out⟩⟩, S2.out.below⟩
          · have hx5' : (px.toList == [99, 104, 97, 114]) = false := ne_of hx5
            by_cases hx6 : px = ⟨#[115, 105, 103, 110, 101, 100, 32, 99, 104, 97, 114]⟩
            · subst hx6
              go_enter Tryz.func73, Tryz.ntmps73
              go_wp2_with fail
              refine (HD.out _).mono ?_
              rintro e w1 ⟨⟨r, rfl, _⟩, rfl⟩
              cases r with
              | false =>
                go_wp2_with fail
                go_ret
                exact ⟨says_no rfl, S0.out.below⟩
              | true =>
                go_wp2_with fail
                refine (HT.out _ S1.out.later).mono ?_
                rintro e w2 ⟨⟨r, rfl, hr⟩, b2⟩
                have S2 := Lib.hid (S1.out.on b2)
                clear b2
                cases r with
                | false =>
                  clear hr
                  obtain ⟨x0, x1, x2, x3⟩ := S2.out.box
                  go_wp2_with fail
                  go_ret
                  exact ⟨says_no rfl, S2.out.below⟩
                | true =>
                  have G := Lib.hid (hr rfl)
                  clear hr
                  obtain ⟨x0, x1, x2, x3⟩ := S2.out.box
                  go_wp2_with fail
                  go_ret
                  exact ⟨⟨_, rfl, fun _ => ⟨_, rfl, by first | exact HN.out | exact .inl rfl, G.out⟩⟩, S2.out.below⟩
            · have hx6' : (px.toList == [115, 105, 103, 110, 101, 100, 32, 99, 104, 97, 114]) = false := ne_of hx6
              by_cases hx7 : px = ⟨#[115, 104, 111, 114, 116]⟩
              · subst hx7
                go_enter Tryz.func73, Tryz.ntmps73
                go_wp2_with fail
                refine (HD.out _).mono ?_
                rintro e w1 ⟨⟨r, rfl, _⟩, rfl⟩
                cases r with
                | false =>
                  go_wp2_with fail
                  go_ret
                  exact ⟨says_no rfl, S0.out.below⟩
                | true =>
                  go_wp2_with fail
                  refine (HT.out _ S1.out.later).mono ?_
                  rintro e w2 ⟨⟨r, rfl, hr⟩, b2⟩
                  have S2 := Lib.hid (S1.out.on b2)
                  clear b2
                  cases r with
                  | false =>
                    clear hr
                    obtain ⟨x0, x1, x2, x3⟩ := S2.out.box
                    go_wp2_with fail
                    go_ret
                    exact ⟨says_no rfl, S2.out.below⟩
                  | true =>
                    have G := Lib.hid (hr rfl)
                    clear hr
                    obtain ⟨x0, x1, x2, x3⟩ := S2.out.box
                    go_wp2_with fail
                    go_ret
                    exact ⟨⟨_, rfl, fun _ => ⟨_, rfl, by first | exact HN.out | exact .inl rfl, G.out⟩⟩, S2.out.below⟩
              · have hx7' : (px.toList == [115, 104, 111, 114, 116]) = false := ne_of hx7
                by_cases hx8 : px = ⟨#[117, 110, 115, 105, 103, 110, 101, 100, 32, 105, 110, 116]⟩
                · subst hx8
                  rcases HN.out with rfl | rfl
                  · go_enter Tryz.func73, Tryz.ntmps73
                    go_wp2_with fail
                    refine (HD.out _).mono ?_
                    rintro e w1 ⟨⟨r, rfl, _⟩, rfl⟩
                    cases r with
                    | false =>
                      go_wp2_with fail
                      go_ret
                      exact ⟨says_no rfl, S0.out.below⟩
                    | true =>
                      go_wp2_with fail
                      refine (HT.out _ S1.out.later).mono ?_
                      rintro e w2 ⟨⟨r, rfl, hr⟩, b2⟩
                      have S2 := Lib.hid (S1.out.on b2)
                      clear b2
                      cases r with
                      | false =>
                        clear hr
                        obtain ⟨x0, x1, x2, x3⟩ := S2.out.box
                        go_wp2_with fail
                        go_ret
                        exact ⟨says_no rfl, S2.out.below⟩
                      | true =>
                        have G := Lib.hid (hr rfl)
                        clear hr
                        obtain ⟨x0, x1, x2, x3⟩ := S2.out.box
                        go_wp2_with fail
                        go_ret
                        exact ⟨⟨_, rfl, fun _ => ⟨_, rfl, by first | exact HN.out | exact .inl rfl, G.out⟩⟩, S2.out.below⟩
                  · go_enter Tryz.func73, Tryz.ntmps73
                    go_wp2_with fail
                    refine (HD.out _).mono ?_
                    rintro e w1 ⟨⟨r, rfl, _⟩, rfl⟩
                    cases r with
                    | false =>
                      go_wp2_with fail
                      go_ret
                      exact ⟨says_no rfl, S0.out.below⟩
                    | true =>
                      go_wp2_with fail
                      refine (HT.out _ S1.out.later).mono ?_
                      rintro e w2 ⟨⟨r, rfl, hr⟩, b2⟩
                      have S2 := Lib.hid (S1.out.on b2)
                      clear b2
                      cases r with
                      | false =>
                        clear hr
                        obtain ⟨x0, x1, x2, x3⟩ := S2.out.box
                        go_wp2_with fail
                        go_ret
                        exact ⟨says_no rfl, S2.out.below⟩
                      | true =>
                        have G := Lib.hid (hr rfl)
                        clear hr
                        obtain ⟨x0, x1, x2, x3⟩ := S2.out.box
                        go_wp2_with fail
                        go_ret
                        exact ⟨says_no rfl, S2.out.below⟩
                · have hx8' : (px.toList == [117, 110, 115, 105, 103, 110, 101, 100, 32, 105, 110, 116]) = false := ne_of hx8
                  by_cases hx9 : px = ⟨#[117, 110, 115, 105, 103, 110, 101, 100, 32, 108, 111, 110, 103]⟩
                  · subst hx9
                    rcases HN.out with rfl | rfl
                    · go_enter Tryz.func73, Tryz.ntmps73
                      go_wp2_with fail
                      refine (HD.out _).mono ?_
                      rintro e w1 ⟨⟨r, rfl, _⟩, rfl⟩
                      cases r with
                      | false =>
                        go_wp2_with fail
                        go_ret
                        exact ⟨says_no rfl, S0.out.below⟩
                      | true =>
                        go_wp2_with fail
                        refine (HT.out _ S1.out.later).mono ?_
                        rintro e w2 ⟨⟨r, rfl, hr⟩, b2⟩
                        have S2 := Lib.hid (S1.out.on b2)
                        clear b2
                        cases r with
                        | false =>
                          clear hr
                          obtain ⟨x0, x1, x2, x3⟩ := S2.out.box
                          go_wp2_with fail
                          go_ret
                          exact ⟨says_no rfl, S2.out.below⟩
                        | true =>
                          have G := Lib.hid (hr rfl)
                          clear hr
                          obtain ⟨x0, x1, x2, x3⟩ := S2.out.box
                          go_wp2_with fail
                          go_ret
                          exact ⟨⟨_, rfl, fun _ => ⟨_, rfl, by first | exact HN.out | exact .inl rfl, G.out⟩⟩, S2.out.below⟩
                    · go_enter Tryz.func73, Tryz.ntmps73
                      go_wp2_with fail
                      refine (HD.out _).mono ?_
                      rintro e w1 ⟨⟨r, rfl, _⟩, rfl⟩
                      cases r with
                      | false =>
                        go_wp2_with fail
                        go_ret
                        exact ⟨says_no rfl, S0.out.below⟩
                      | true =>
                        go_wp2_with fail
                        refine (HT.out _ S1.out.later).mono ?_
                        rintro e w2 ⟨⟨r, rfl, hr⟩, b2⟩
                        have S2 := Lib.hid (S1.out.on b2)
                        clear b2
                        cases r with
                        | false =>
                          clear hr
                          obtain ⟨x0, x1, x2, x3⟩ := S2.out.box
                          go_wp2_with fail
                          go_ret
                          exact ⟨says_no rfl, S2.out.below⟩
                        | true =>
                          have G := Lib.hid (hr rfl)
                          clear hr
                          obtain ⟨x0, x1, x2, x3⟩ := S2.out.box
                          go_wp2_with fail
                          go_ret
                          exact ⟨says_no rfl, S2.out.below⟩
                  · have hx9' : (px.toList == [117, 110, 115, 105, 103, 110, 101, 100, 32, 108, 111, 110, 103]) = false := ne_of hx9
                    by_cases hx10 : px = ⟨#[117, 110, 115, 105, 103, 110, 101, 100, 32, 108, 111, 110, 103, 32, 108, 111, 110, 103]⟩
                    · subst hx10
                      rcases HN.out with rfl | rfl
                      · go_enter Tryz.func73, Tryz.ntmps73
                        go_wp2_with fail
                        refine (HD.out _).mono ?_
                        rintro e w1 ⟨⟨r, rfl, _⟩, rfl⟩
                        cases r with
                        | false =>
                          go_wp2_with fail
                          go_ret
                          exact ⟨says_no rfl, S0.out.below⟩
                        | true =>
                          go_wp2_with fail
                          refine (HT.out _ S1.out.later).mono ?_
                          rintro e w2 ⟨⟨r, rfl, hr⟩, b2⟩
                          have S2 := Lib.hid (S1.out.on b2)
                          clear b2
                          cases r with
                          | false =>
                            clear hr
                            obtain ⟨x0, x1, x2, x3⟩ := S2.out.box
                            go_wp2_with fail
                            go_ret
                            exact ⟨says_no rfl, S2.out.below⟩
                          | true =>
                            have G := Lib.hid (hr rfl)
                            clear hr
                            obtain ⟨x0, x1, x2, x3⟩ := S2.out.box
                            go_wp2_with fail
                            go_ret
                            exact ⟨⟨_, rfl, fun _ => ⟨_, rfl, by first | exact HN.out | exact .inl rfl, G.out⟩⟩, S2.out.below⟩
                      · go_enter Tryz.func73, Tryz.ntmps73
                        go_wp2_with fail
                        refine (HD.out _).mono ?_
                        rintro e w1 ⟨⟨r, rfl, _⟩, rfl⟩
                        cases r with
                        | false =>
                          go_wp2_with fail
                          go_ret
                          exact ⟨says_no rfl, S0.out.below⟩
                        | true =>
                          go_wp2_with fail
                          refine (HT.out _ S1.out.later).mono ?_
                          rintro e w2 ⟨⟨r, rfl, hr⟩, b2⟩
                          have S2 := Lib.hid (S1.out.on b2)
                          clear b2
                          cases r with
                          | false =>
                            clear hr
                            obtain ⟨x0, x1, x2, x3⟩ := S2.out.box
                            go_wp2_with fail
                            go_ret
                            exact ⟨says_no rfl, S2.out.below⟩
                          | true =>
                            have G := Lib.hid (hr rfl)
                            clear hr
                            obtain ⟨x0, x1, x2, x3⟩ := S2.out.box
                            go_wp2_with fail
                            go_ret
                            exact ⟨says_no rfl, S2.out.below⟩
                    · have hx10' : (px.toList == [117, 110, 115, 105, 103, 110, 101, 100, 32, 108, 111, 110, 103, 32, 108, 111, 110, 103]) = false := ne_of hx10
                      by_cases hx11 : px = ⟨#[117, 110, 115, 105, 103, 110, 101, 100, 32, 99, 104, 97, 114]⟩
                      · subst hx11
                        rcases HN.out with rfl | rfl
                        · go_enter Tryz.func73, Tryz.ntmps73
                          go_wp2_with fail
                          refine (HD.out _).mono ?_
                          rintro e w1 ⟨⟨r, rfl, _⟩, rfl⟩
                          cases r with
                          | false =>
                            go_wp2_with fail
                            go_ret
                            exact ⟨says_no rfl, S0.out.below⟩
                          | true =>
                            go_wp2_with fail
                            refine (HT.out _ S1.out.later).mono ?_
                            rintro e w2 ⟨⟨r, rfl, hr⟩, b2⟩
                            have S2 := Lib.hid (S1.out.on b2)
                            clear b2
                            cases r with
                            | false =>
                              clear hr
                              obtain ⟨x0, x1, x2, x3⟩ := S2.out.box
                              go_wp2_with fail
                              go_ret
                              exact ⟨says_no rfl, S2.out.below⟩
                            | true =>
                              have G := Lib.hid (hr rfl)
                              clear hr
                              obtain ⟨x0, x1, x2, x3⟩ := S2.out.box
                              go_wp2_with fail
                              go_ret
                              exact ⟨⟨_, rfl, fun _ => ⟨_, rfl, by first | exact HN.out | exact .inl rfl, G.out⟩⟩, S2.out.below⟩
                        · go_enter Tryz.func73, Tryz.ntmps73
                          go_wp2_with fail
                          refine (HD.out _).mono ?_
                          rintro e w1 ⟨⟨r, rfl, _⟩, rfl⟩
                          cases r with
                          | false =>
                            go_wp2_with fail
                            go_ret
                            exact ⟨says_no rfl, S0.out.below⟩
                          | true =>
                            go_wp2_with fail
                            refine (HT.out _ S1.out.later).mono ?_
                            rintro e w2 ⟨⟨r, rfl, hr⟩, b2⟩
                            have S2 := Lib.hid (S1.out.on b2)
                            clear b2
                            cases r with
                            | false =>
                              clear hr
                              obtain ⟨x0, x1, x2, x3⟩ := S2.out.box
                              go_wp2_with fail
                              go_ret
                              exact ⟨says_no rfl, S2.out.below⟩
                            | true =>
                              have G := Lib.hid (hr rfl)
                              clear hr
                              obtain ⟨x0, x1, x2, x3⟩ := S2.out.box
                              go_wp2_with fail
                              go_ret
                              exact ⟨says_no rfl, S2.out.below⟩
                      · have hx11' : (px.toList == [117, 110, 115, 105, 103, 110, 101, 100, 32, 99, 104, 97, 114]) = false := ne_of hx11
                        by_cases hx12 : px = ⟨#[117, 110, 115, 105, 103, 110, 101, 100, 32, 115, 104, 111, 114, 116]⟩
                        · subst hx12
                          rcases HN.out with rfl | rfl
                          · go_enter Tryz.func73, Tryz.ntmps73
                            go_wp2_with fail
                            refine (HD.out _).mono ?_
                            rintro e w1 ⟨⟨r, rfl, _⟩, rfl⟩
                            cases r with
                            | false =>
                              go_wp2_with fail
                              go_ret
                              exact ⟨says_no rfl, S0.out.below⟩
                            | true =>
                              go_wp2_with fail
                              refine (HT.out _ S1.out.later).mono ?_
                              rintro e w2 ⟨⟨r, rfl, hr⟩, b2⟩
                              have S2 := Lib.hid (S1.out.on b2)
                              clear b2
                              cases r with
                              | false =>
                                clear hr
                                obtain ⟨x0, x1, x2, x3⟩ := S2.out.box
                                go_wp2_with fail
                                go_ret
                                exact ⟨says_no rfl, S2.out.below⟩
                              | true =>
                                have G := Lib.hid (hr rfl)
                                clear hr
                                obtain ⟨x0, x1, x2, x3⟩ := S2.out.box
                                go_wp2_with fail
                                go_ret
                                exact ⟨⟨_, rfl, fun _ => ⟨_, rfl, by first | exact HN.out | exact .inl rfl, G.out⟩⟩, S2.out.below⟩
                          · go_enter Tryz.func73, Tryz.ntmps73
                            go_wp2_with fail
                            refine (HD.out _).mono ?_
                            rintro e w1 ⟨⟨r, rfl, _⟩, rfl⟩
                            cases r with
                            | false =>
                              go_wp2_with fail
                              go_ret
                              exact ⟨says_no rfl, S0.out.below⟩
                            | true =>
                              go_wp2_with fail
                              refine (HT.out _ S1.out.later).mono ?_
                              rintro e w2 ⟨⟨r, rfl, hr⟩, b2⟩
                              have S2 := Lib.hid (S1.out.on b2)
                              clear b2
                              cases r with
                              | false =>
                                clear hr
                                obtain ⟨x0, x1, x2, x3⟩ := S2.out.box
                                go_wp2_with fail
                                go_ret
                                exact ⟨says_no rfl, S2.out.below⟩
                              | true =>
                                have G := Lib.hid (hr rfl)
                                clear hr
                                obtain ⟨x0, x1, x2, x3⟩ := S2.out.box
                                go_wp2_with fail
                                go_ret
                                exact ⟨says_no rfl, S2.out.below⟩
                        · have hx12' : (px.toList == [117, 110, 115, 105, 103, 110, 101, 100, 32, 115, 104, 111, 114, 116]) = false := ne_of hx12
                          by_cases hx13 : px = ⟨#[119, 99, 104, 97, 114, 95, 116]⟩
                          · subst hx13
                            rcases HN.out with rfl | rfl
                            · go_enter Tryz.func73, Tryz.ntmps73
                              go_wp2_with fail
                              refine (HD.out _).mono ?_
                              rintro e w1 ⟨⟨r, rfl, _⟩, rfl⟩
                              cases r with
                              | false =>
                                go_wp2_with fail
                                go_ret
                                exact ⟨says_no rfl, S0.out.below⟩
                              | true =>
                                go_wp2_with fail
                                refine (HT.out _ S1.out.later).mono ?_
                                rintro e w2 ⟨⟨r, rfl, hr⟩, b2⟩
                                have S2 := Lib.hid (S1.out.on b2)
                                clear b2
                                cases r with
                                | false =>
                                  clear hr
                                  obtain ⟨x0, x1, x2, x3⟩ := S2.out.box
                                  go_wp2_with fail
                                  go_ret
                                  exact ⟨says_no rfl, S2.out.below⟩
                                | true =>
                                  have G := Lib.hid (hr rfl)
                                  clear hr
                                  obtain ⟨x0, x1, x2, x3⟩ := S2.out.box
                                  go_wp2_with fail
                                  go_ret
                                  exact ⟨⟨_, rfl, fun _ => ⟨_, rfl, by first | exact HN.out | exact .inl rfl, G.out⟩⟩, S2.out.below⟩
                            · go_enter Tryz.func73, Tryz.ntmps73
                              go_wp2_with fail
                              refine (HD.out _).mono ?_
                              rintro e w1 ⟨⟨r, rfl, _⟩, rfl⟩
                              cases r with
                              | false =>
                                go_wp2_with fail
                                go_ret
                                exact ⟨says_no rfl, S0.out.below⟩
                              | true =>
                                go_wp2_with fail
                                refine (HT.out _ S1.out.later).mono ?_
                                rintro e w2 ⟨⟨r, rfl, hr⟩, b2⟩
                                have S2 := Lib.hid (S1.out.on b2)
                                clear b2
                                cases r with
                                | false =>
                                  clear hr
                                  obtain ⟨x0, x1, x2, x3⟩ := S2.out.box
                                  go_wp2_with fail
                                  go_ret
                                  exact ⟨says_no rfl, S2.out.below⟩
                                | true =>
                                  have G := Lib.hid (hr rfl)
                                  clear hr
                                  obtain ⟨x0, x1, x2, x3⟩ := S2.out.box
                                  go_wp2_with fail
                                  go_ret
                                  exact ⟨says_no rfl, S2.out.below⟩
                          · have hx13' : (px.toList == [119, 99, 104, 97, 114, 95, 116]) = false := ne_of hx13
                            by_cases hx14 : px = ⟨#[98, 111, 111, 108]⟩
                            · subst hx14
                              rcases HN.out with rfl | rfl
                              · by_cases hz : x = ⟨#[48]⟩
                                · subst hz
                                  go_enter Tryz.func73, Tryz.ntmps73
                                  go_wp2_with fail
                                  refine (HD.out _).mono ?_
                                  rintro e w1 ⟨⟨r, rfl, _⟩, rfl⟩
                                  cases r with
                                  | false =>
                                    go_wp2_with fail
                                    go_ret
                                    exact ⟨says_no rfl, S0.out.below⟩
                                  | true =>
                                    go_wp2_with fail
                                    refine (HT.out _ S1.out.later).mono ?_
                                    rintro e w2 ⟨⟨r, rfl, hr⟩, b2⟩
                                    have S2 := Lib.hid (S1.out.on b2)
                                    clear b2
                                    cases r with
                                    | false =>
                                      clear hr
                                      obtain ⟨x0, x1, x2, x3⟩ := S2.out.box
                                      go_wp2_with fail
                                      go_ret
                                      exact ⟨says_no rfl, S2.out.below⟩
                                    | true =>
                                      have G := Lib.hid (hr rfl)
                                      clear hr
                                      obtain ⟨x0, x1, x2, x3⟩ := S2.out.box
                                      go_wp2_with fail
                                      go_ret
                                      exact ⟨⟨_, rfl, fun _ => ⟨_, rfl, by first | exact HN.out | exact .inl rfl, G.out⟩⟩, S2.out.below⟩
                                · have hz' : (x.toList == [48]) = false := ne_of hz
                                  go_enter Tryz.func73, Tryz.ntmps73
                                  go_wp2_with fail
                                  refine (HD.out _).mono ?_
                                  rintro e w1 ⟨⟨r, rfl, _⟩, rfl⟩
                                  cases r with
                                  | false =>
                                    go_wp2_with fail
                                    go_ret
                                    exact ⟨says_no rfl, S0.out.below⟩
                                  | true =>
                                    go_wp2_with fail
                                    refine (HT.out _ S1.out.later).mono ?_
                                    rintro e w2 ⟨⟨r, rfl, hr⟩, b2⟩
                                    have S2 := Lib.hid (S1.out.on b2)
                                    clear b2
                                    cases r with
                                    | false =>
                                      clear hr
                                      obtain ⟨x0, x1, x2, x3⟩ := S2.out.box
                                      go_wp2_with fail
                                      go_ret
                                      exact ⟨says_no rfl, S2.out.below⟩
                                    | true =>
                                      have G := Lib.hid (hr rfl)
                                      clear hr
                                      obtain ⟨x0, x1, x2, x3⟩ := S2.out.box
                                      go_wp2_with fail
                                      go_ret
                                      exact ⟨⟨_, rfl, fun _ => ⟨_, rfl, by first | exact HN.out | exact .inl rfl, G.out⟩⟩, S2.out.below⟩
                              · go_enter Tryz.func73, Tryz.ntmps73
                                go_wp2_with fail
                                refine (HD.out _).mono ?_
                                rintro e w1 ⟨⟨r, rfl, _⟩, rfl⟩
                                cases r with
                                | false =>
                                  go_wp2_with fail
                                  go_ret
                                  exact ⟨says_no rfl, S0.out.below⟩
                                | true =>
                                  go_wp2_with fail
                                  refine (HT.out _ S1.out.later).mono ?_
                                  rintro e w2 ⟨⟨r, rfl, hr⟩, b2⟩
                                  have S2 := Lib.hid (S1.out.on b2)
                                  clear b2
                                  cases r with
                                  | false =>
                                    clear hr
                                    obtain ⟨x0, x1, x2, x3⟩ := S2.out.box
                                    go_wp2_with fail
                                    go_ret
                                    exact ⟨says_no rfl, S2.out.below⟩
                                  | true =>
                                    have G := Lib.hid (hr rfl)
                                    clear hr
                                    obtain ⟨x0, x1, x2, x3⟩ := S2.out.box
                                    go_wp2_with fail
                                    go_ret
                                    exact ⟨says_no rfl, S2.out.below⟩
                            · have hx14' : (px.toList == [98, 111, 111, 108]) = false := ne_of hx14
                              go_enter Tryz.func73, Tryz.ntmps73
                              go_wp2_with fail
                              refine (HD.out _).mono ?_
                              rintro e w1 ⟨⟨r, rfl, _⟩, rfl⟩
                              cases r with
                              | false =>
                                go_wp2_with fail
                                go_ret
                                exact ⟨says_no rfl, S0.out.below⟩
                              | true =>
                                go_wp2_with fail
                                go_ret
                                exact ⟨says_no rfl, S1.out.below⟩
  · have hk' : (pk.toList == [66, 117, 105, 108, 116, 105, 110, 84, 121, 112, 101]) = false := ne_of hk
    go_enter Tryz.func73, Tryz.ntmps73
    go_wp2_with fail
    refine (HD.out _).mono ?_
    rintro e w1 ⟨⟨r, rfl, _⟩, rfl⟩
    cases r with
    | false =>
      go_wp2_with fail
      go_ret
      exact ⟨says_no rfl, S0.out.below⟩
    | true =>
      go_wp2_with fail
      refine (HC.out _ S1.out.later).mono ?_
      rintro e w2 ⟨⟨r, rfl, hr⟩, b2⟩
      have S2 := Lib.hid (S1.out.on b2)
      have F2 := Lib.hid (box_at (w := w.alloc (.cells #[.string k, .string x, .int .i64 n, .slice (some ⟨b, off, none⟩) 1 c] 24)) (w' := w2) (a := .string pk) (b := .string px) (c := .int .i64 pn) (d := .slice pa pl.length pc) (by simpa using b2))
      simp only [World.size_alloc] at F2
      clear b2
      cases r with
      | false =>
        clear hr
        obtain ⟨x0, x1, x2, x3⟩ := S2.out.box
        go_wp2_with fail
        go_ret
        exact ⟨says_no rfl, S2.out.below⟩
      | true =>
        have G := Lib.hid (hr rfl)
        clear hr
        obtain ⟨x0, x1, x2, x3⟩ := S2.out.box
        obtain ⟨y0, y1, y2, y3⟩ := F2.out
        go_wp2_with fail
        refine (HH.out _ S2.out.later).mono ?_
        rintro e w3 ⟨rfl, b3⟩
        have S3 := Lib.hid (S2.out.on b3)
        clear b3
        go_wp2_with fail
        go_ret
        exact ⟨⟨_, rfl, fun _ => ⟨_, rfl, HN.out, G.out⟩⟩, S3.out.below⟩

set_option maxRecDepth 100000 in
set_option maxHeartbeats 2000000 in
theorem isLiteral_step (W0 : World) (k x : ByteArray) (n : Int) (ks : List Tree) (hcl : ∀ t ∈ ks, Test W0 20 t (Good t)) (hty : ∀ t ∈ ks, Test W0 53 t (Good t)) : Test W0 73 (.node k x n ks) (LitP n ks) := by
  match ks, hcl, hty with
  | [], _, _ =>
    intro v hv w hw
    obtain ⟨a, c, rfl, _⟩ := hv.shut
    simp only [List.length_nil]
    clear hv
    go_enter Tryz.func73, Tryz.ntmps73
    go_wp2_with fail
    go_ret
    exact ⟨says_no rfl, box_below _ _⟩
  | p :: q :: l, _, _ =>
    intro v hv w hw
    obtain ⟨a, c, rfl, _⟩ := hv.shut
    simp only [List.length_cons]
    have e1 : ((l.length : Int) + 1 + 1 == 1) = false := beq_eq_false_iff_ne.2 (by omega)
    have e2 : ((l.length : Int) + 1 + 1 != 1) = true := by rw [bne, e1]; rfl
    clear hv
    go_enter Tryz.func73, Tryz.ntmps73
    go_wp2_with fail
    go_ret
    exact ⟨says_no rfl, box_below _ _⟩
  | [p], hcl, hty =>
    by_cases hn : n = 0 ∨ n = 1
    · exact isLiteral_one W0 k x n p hn (hcl p (by simp)) (hty p (by simp))
    · intro v hv w hw
      obtain ⟨a, c, rfl, _⟩ := hv.shut
      simp only [List.length_cons, List.length_nil, Nat.zero_add]
      have S0 := Lib.hid (St.start hw (.string k) (.string x) (.int .i64 n) (.slice a 1 c))
      have HD := Lib.hid (digits_any x)
      clear hv
      cases c1 : decide (n < 0) with
      | true =>
        go_enter Tryz.func73, Tryz.ntmps73
        go_wp2_with fail
        refine (HD.out _).mono ?_
        rintro e w1 ⟨⟨r, rfl, _⟩, rfl⟩
        cases r with
        | false =>
          go_wp2_with fail
          go_ret
          exact ⟨says_no rfl, S0.out.below⟩
        | true =>
          go_wp2_with fail
          go_ret
          exact ⟨says_no rfl, S0.out.below⟩
      | false =>
        have c2 : decide ((1 : Int) < n) = true := decide_eq_true (by have := of_decide_eq_false c1; omega)
        go_enter Tryz.func73, Tryz.ntmps73
        go_wp2_with fail
        refine (HD.out _).mono ?_
        rintro e w1 ⟨⟨r, rfl, _⟩, rfl⟩
        cases r with
        | false =>
          go_wp2_with fail
          go_ret
          exact ⟨says_no rfl, S0.out.below⟩
        | true =>
          go_wp2_with fail
          go_ret
          exact ⟨says_no rfl, S0.out.below⟩

end Go.Proofs.YtnhccgbkalpcnaaGreatDoor
