/- isNumber, isFloating, isObject, isQualified. -/
import Derived.Test.YtnhccgbkalpcnaaGreatDoorLit
namespace Go.Proofs.YtnhccgbkalpcnaaGreatDoor
open Go.RowKit

set_option maxRecDepth 100000 in
set_option maxHeartbeats 1000000 in
theorem isNumber_any (w : World) (k x : ByteArray) (n : Int) (l : Nat) (a : Option Addr) (cap : Nat) :
    Calls Tryz.prog 69 #[.agg #[.string k, .string x, .int .i64 n, .slice a l cap]] w fun e w' => Says (k = ⟨#[78, 97, 109, 101]⟩ ∧ n = 0 ∧ l = 0) e ∧ Below w.heap.size w w' := by
  have HI := Lib.hid (digits_any x)
  go_enter Tryz.func69, Tryz.ntmps69
  go_wp2_with fail
  all_goals first
    | (refine (HI.out _).mono ?_
       rintro e w1 ⟨⟨r, rfl, _⟩, rfl⟩
       have hk : k = ⟨#[78, 97, 109, 101]⟩ := str_of (l := [78, 97, 109, 101]) (by assumption)
       have X := Lib.hid (And.intro hk (And.intro (show n = 0 by assumption) (show l = 0 by assumption)))
       go_wp2_with fail
       go_ret
       exact ⟨⟨_, rfl, fun _ => X.out⟩, box_below _ _⟩)
    | (go_ret; exact ⟨says_no rfl, box_below _ _⟩)

set_option maxRecDepth 100000 in
set_option maxHeartbeats 2000000 in
theorem isObject_step (W0 : World) (t : Tree) (hty : Test W0 53 t (Good t)) : Test W0 70 t (Good t) := by
  have hrf := isReference_any W0 t
  have hvd := isVoid_any W0 t
  intro v hv w hw
  obtain ⟨k, x, n, ks⟩ := t
  obtain ⟨a, c, rfl, _⟩ := hv.shut
  have HT := Lib.hid (hty _ hv)
  have HR := Lib.hid (hrf _ hv)
  have HV := Lib.hid (hvd _ hv)
  clear hty hrf hvd
  have S0 := Lib.hid (St.start hw (.string k) (.string x) (.int .i64 n) (.slice a ks.length c))
  clear hv hw
  by_cases hk : k = ⟨#[70, 117, 110, 99, 116, 105, 111, 110, 84, 121, 112, 101]⟩
  · subst hk
    go_enter Tryz.func70, Tryz.ntmps70
    go_wp2_with fail
    refine (HT.out _ S0.out.later).mono ?_
    rintro e w1 ⟨⟨r, rfl, hr⟩, b⟩
    have S1 := Lib.hid (S0.out.on b)
    clear b
    cases r with
    | false =>
      clear hr
      obtain ⟨x0, x1, x2, x3⟩ := S1.out.box
      go_wp2_with fail
      go_ret
      exact ⟨says_no rfl, S1.out.below⟩
    | true =>
      have R1 := Lib.hid (hr rfl)
      clear hr
      obtain ⟨x0, x1, x2, x3⟩ := S1.out.box
      go_wp2_with fail
      refine (HR.out w1 S1.out.later).mono ?_
      rintro e w2 ⟨⟨r, rfl, hr⟩, b⟩
      have S2 := Lib.hid (S1.out.on b)
      clear b
      clear x0 x1 x2 x3
      cases r with
      | false =>
        clear hr
        obtain ⟨x0, x1, x2, x3⟩ := S2.out.box
        go_wp2_with fail
        go_ret
        exact ⟨says_no rfl, S2.out.below⟩
      | true =>
        clear hr
        obtain ⟨x0, x1, x2, x3⟩ := S2.out.box
        go_wp2_with fail
        go_ret
        exact ⟨says_no rfl, S2.out.below⟩
  · have hk' : (k.toList == [70, 117, 110, 99, 116, 105, 111, 110, 84, 121, 112, 101]) = false := ne_of hk
    have hk2 : (k.toList != [70, 117, 110, 99, 116, 105, 111, 110, 84, 121, 112, 101]) = true := by rw [bne, hk']; rfl
    go_enter Tryz.func70, Tryz.ntmps70
    go_wp2_with fail
    refine (HT.out _ S0.out.later).mono ?_
    rintro e w1 ⟨⟨r, rfl, hr⟩, b⟩
    have S1 := Lib.hid (S0.out.on b)
    clear b
    cases r with
    | false =>
      clear hr
      obtain ⟨x0, x1, x2, x3⟩ := S1.out.box
      go_wp2_with fail
      go_ret
      exact ⟨says_no rfl, S1.out.below⟩
    | true =>
      have R1 := Lib.hid (hr rfl)
      clear hr
      obtain ⟨x0, x1, x2, x3⟩ := S1.out.box
      go_wp2_with fail
      refine (HR.out w1 S1.out.later).mono ?_
      rintro e w2 ⟨⟨r, rfl, hr⟩, b⟩
      have S2 := Lib.hid (S1.out.on b)
      clear b
      clear x0 x1 x2 x3
      cases r with
      | false =>
        clear hr
        obtain ⟨x0, x1, x2, x3⟩ := S2.out.box
        go_wp2_with fail
        refine (HV.out w2 S2.out.later).mono ?_
        rintro e w3 ⟨⟨r, rfl, hr⟩, b⟩
        have S3 := Lib.hid (S2.out.on b)
        clear b
        clear x0 x1 x2 x3
        cases r with
        | false =>
          clear hr
          obtain ⟨x0, x1, x2, x3⟩ := S3.out.box
          go_wp2_with fail
          go_ret
          exact ⟨⟨_, rfl, fun _ => R1.out⟩, S3.out.below⟩
        | true =>
          clear hr
          obtain ⟨x0, x1, x2, x3⟩ := S3.out.box
          go_wp2_with fail
          go_ret
          exact ⟨says_no rfl, S3.out.below⟩
      | true =>
        clear hr
        obtain ⟨x0, x1, x2, x3⟩ := S2.out.box
        go_wp2_with fail
        go_ret
        exact ⟨says_no rfl, S2.out.below⟩

set_option maxRecDepth 100000 in
set_option maxHeartbeats 2000000 in
theorem isFloating_step (W0 : World) (t : Tree) (hty : Test W0 53 t (Good t)) : Test W0 67 t (Good t) := by
  intro v hv w hw
  obtain ⟨k, x, n, ks⟩ := t
  obtain ⟨a, c, rfl, _⟩ := hv.shut
  have HT := Lib.hid (hty _ hv)
  clear hty
  have S0 := Lib.hid (St.start hw (.string k) (.string x) (.int .i64 n) (.slice a ks.length c))
  clear hv hw
  by_cases hk : k = ⟨#[66, 117, 105, 108, 116, 105, 110, 84, 121, 112, 101]⟩
  · subst hk
    by_cases h0 : x = ⟨#[102, 108, 111, 97, 116]⟩
    · subst h0
      go_enter Tryz.func67, Tryz.ntmps67
      go_wp2_with fail
      refine (HT.out _ S0.out.later).mono ?_
      rintro e w1 ⟨⟨r, rfl, hr⟩, b⟩
      have S1 := Lib.hid (S0.out.on b)
      clear b
      cases r with
      | false =>
        clear hr
        obtain ⟨x0, x1, x2, x3⟩ := S1.out.box
        go_wp2_with fail
        go_ret
        exact ⟨says_no rfl, S1.out.below⟩
      | true =>
        have R1 := Lib.hid (hr rfl)
        clear hr
        obtain ⟨x0, x1, x2, x3⟩ := S1.out.box
        go_wp2_with fail
        go_ret
        exact ⟨⟨_, rfl, fun _ => R1.out⟩, S1.out.below⟩
    · have h0' : (x.toList == [102, 108, 111, 97, 116]) = false := ne_of h0
      by_cases h1 : x = ⟨#[100, 111, 117, 98, 108, 101]⟩
      · subst h1
        go_enter Tryz.func67, Tryz.ntmps67
        go_wp2_with fail
        refine (HT.out _ S0.out.later).mono ?_
        rintro e w1 ⟨⟨r, rfl, hr⟩, b⟩
        have S1 := Lib.hid (S0.out.on b)
        clear b
        cases r with
        | false =>
          clear hr
          obtain ⟨x0, x1, x2, x3⟩ := S1.out.box
          go_wp2_with fail
          go_ret
          exact ⟨says_no rfl, S1.out.below⟩
        | true =>
          have R1 := Lib.hid (hr rfl)
          clear hr
          obtain ⟨x0, x1, x2, x3⟩ := S1.out.box
          go_wp2_with fail
          go_ret
          exact ⟨⟨_, rfl, fun _ => R1.out⟩, S1.out.below⟩
      · have h1' : (x.toList == [100, 111, 117, 98, 108, 101]) = false := ne_of h1
        by_cases h2 : x = ⟨#[108, 111, 110, 103, 32, 100, 111, 117, 98, 108, 101]⟩
        · subst h2
          go_enter Tryz.func67, Tryz.ntmps67
          go_wp2_with fail
          refine (HT.out _ S0.out.later).mono ?_
          rintro e w1 ⟨⟨r, rfl, hr⟩, b⟩
          have S1 := Lib.hid (S0.out.on b)
          clear b
          cases r with
          | false =>
            clear hr
            obtain ⟨x0, x1, x2, x3⟩ := S1.out.box
            go_wp2_with fail
            go_ret
            exact ⟨says_no rfl, S1.out.below⟩
          | true =>
            have R1 := Lib.hid (hr rfl)
            clear hr
            obtain ⟨x0, x1, x2, x3⟩ := S1.out.box
            go_wp2_with fail
            go_ret
            exact ⟨⟨_, rfl, fun _ => R1.out⟩, S1.out.below⟩
        · have h2' : (x.toList == [108, 111, 110, 103, 32, 100, 111, 117, 98, 108, 101]) = false := ne_of h2
          go_enter Tryz.func67, Tryz.ntmps67
          go_wp2_with fail
          refine (HT.out _ S0.out.later).mono ?_
          rintro e w1 ⟨⟨r, rfl, hr⟩, b⟩
          have S1 := Lib.hid (S0.out.on b)
          clear b
          cases r with
          | false =>
            clear hr
            obtain ⟨x0, x1, x2, x3⟩ := S1.out.box
            go_wp2_with fail
            go_ret
            exact ⟨says_no rfl, S1.out.below⟩
          | true =>
            have R1 := Lib.hid (hr rfl)
            clear hr
            obtain ⟨x0, x1, x2, x3⟩ := S1.out.box
            go_wp2_with fail
            go_ret
            exact ⟨says_no rfl, S1.out.below⟩
  · have hk' : (k.toList == [66, 117, 105, 108, 116, 105, 110, 84, 121, 112, 101]) = false := ne_of hk
    go_enter Tryz.func67, Tryz.ntmps67
    go_wp2_with fail
    go_ret
    exact ⟨says_no rfl, S0.out.below⟩

set_option maxRecDepth 100000 in
set_option maxHeartbeats 2000000 in
theorem isQualified_step (W0 : World) (t : Tree) (hty : Test W0 53 t (Good t)) : Test W0 66 t (Good t) := by
  intro v hv w hw
  obtain ⟨k, x, n, ks⟩ := t
  obtain ⟨a, c, rfl, _⟩ := hv.shut
  have HT := Lib.hid (hty _ hv)
  clear hty
  have S0 := Lib.hid (St.start hw (.string k) (.string x) (.int .i64 n) (.slice a ks.length c))
  clear hv hw
  by_cases h0 : k = ⟨#[66, 117, 105, 108, 116, 105, 110, 84, 121, 112, 101]⟩
  · subst h0
    go_enter Tryz.func66, Tryz.ntmps66
    go_wp2_with fail
    refine (HT.out _ S0.out.later).mono ?_
    rintro e w1 ⟨⟨r, rfl, hr⟩, b⟩
    have S1 := Lib.hid (S0.out.on b)
    clear b
    cases r with
    | false =>
      clear hr
      obtain ⟨x0, x1, x2, x3⟩ := S1.out.box
      go_wp2_with fail
      go_ret
      exact ⟨says_no rfl, S1.out.below⟩
    | true =>
      have R1 := Lib.hid (hr rfl)
      clear hr
      obtain ⟨x0, x1, x2, x3⟩ := S1.out.box
      go_wp2_with fail
      go_ret
      exact ⟨⟨_, rfl, fun _ => R1.out⟩, S1.out.below⟩
  · have h0' : (k.toList == [66, 117, 105, 108, 116, 105, 110, 84, 121, 112, 101]) = false := ne_of h0
    by_cases h1 : k = ⟨#[80, 111, 105, 110, 116, 101, 114, 84, 121, 112, 101]⟩
    · subst h1
      go_enter Tryz.func66, Tryz.ntmps66
      go_wp2_with fail
      refine (HT.out _ S0.out.later).mono ?_
      rintro e w1 ⟨⟨r, rfl, hr⟩, b⟩
      have S1 := Lib.hid (S0.out.on b)
      clear b
      cases r with
      | false =>
        clear hr
        obtain ⟨x0, x1, x2, x3⟩ := S1.out.box
        go_wp2_with fail
        go_ret
        exact ⟨says_no rfl, S1.out.below⟩
      | true =>
        have R1 := Lib.hid (hr rfl)
        clear hr
        obtain ⟨x0, x1, x2, x3⟩ := S1.out.box
        go_wp2_with fail
        go_ret
        exact ⟨⟨_, rfl, fun _ => R1.out⟩, S1.out.below⟩
    · have h1' : (k.toList == [80, 111, 105, 110, 116, 101, 114, 84, 121, 112, 101]) = false := ne_of h1
      by_cases h2 : k = ⟨#[80, 116, 114, 77, 101, 109]⟩
      · subst h2
        go_enter Tryz.func66, Tryz.ntmps66
        go_wp2_with fail
        refine (HT.out _ S0.out.later).mono ?_
        rintro e w1 ⟨⟨r, rfl, hr⟩, b⟩
        have S1 := Lib.hid (S0.out.on b)
        clear b
        cases r with
        | false =>
          clear hr
          obtain ⟨x0, x1, x2, x3⟩ := S1.out.box
          go_wp2_with fail
          go_ret
          exact ⟨says_no rfl, S1.out.below⟩
        | true =>
          have R1 := Lib.hid (hr rfl)
          clear hr
          obtain ⟨x0, x1, x2, x3⟩ := S1.out.box
          go_wp2_with fail
          go_ret
          exact ⟨⟨_, rfl, fun _ => R1.out⟩, S1.out.below⟩
      · have h2' : (k.toList == [80, 116, 114, 77, 101, 109]) = false := ne_of h2
        by_cases h3 : k = ⟨#[78, 97, 109, 101]⟩
        · subst h3
          go_enter Tryz.func66, Tryz.ntmps66
          go_wp2_with fail
          refine (HT.out _ S0.out.later).mono ?_
          rintro e w1 ⟨⟨r, rfl, hr⟩, b⟩
          have S1 := Lib.hid (S0.out.on b)
          clear b
          cases r with
          | false =>
            clear hr
            obtain ⟨x0, x1, x2, x3⟩ := S1.out.box
            go_wp2_with fail
            go_ret
            exact ⟨says_no rfl, S1.out.below⟩
          | true =>
            have R1 := Lib.hid (hr rfl)
            clear hr
            obtain ⟨x0, x1, x2, x3⟩ := S1.out.box
            go_wp2_with fail
            go_ret
            exact ⟨⟨_, rfl, fun _ => R1.out⟩, S1.out.below⟩
        · have h3' : (k.toList == [78, 97, 109, 101]) = false := ne_of h3
          by_cases h4 : k = ⟨#[84, 97, 103, 103, 101, 100, 78, 97, 109, 101]⟩
          · subst h4
            go_enter Tryz.func66, Tryz.ntmps66
            go_wp2_with fail
            refine (HT.out _ S0.out.later).mono ?_
            rintro e w1 ⟨⟨r, rfl, hr⟩, b⟩
            have S1 := Lib.hid (S0.out.on b)
            clear b
            cases r with
            | false =>
              clear hr
              obtain ⟨x0, x1, x2, x3⟩ := S1.out.box
              go_wp2_with fail
              go_ret
              exact ⟨says_no rfl, S1.out.below⟩
            | true =>
              have R1 := Lib.hid (hr rfl)
              clear hr
              obtain ⟨x0, x1, x2, x3⟩ := S1.out.box
              go_wp2_with fail
              go_ret
              exact ⟨⟨_, rfl, fun _ => R1.out⟩, S1.out.below⟩
          · have h4' : (k.toList == [84, 97, 103, 103, 101, 100, 78, 97, 109, 101]) = false := ne_of h4
            by_cases h5 : k = ⟨#[81, 117, 97, 108, 105, 102, 105, 101, 100]⟩
            · subst h5
              go_enter Tryz.func66, Tryz.ntmps66
              go_wp2_with fail
              refine (HT.out _ S0.out.later).mono ?_
              rintro e w1 ⟨⟨r, rfl, hr⟩, b⟩
              have S1 := Lib.hid (S0.out.on b)
              clear b
              cases r with
              | false =>
                clear hr
                obtain ⟨x0, x1, x2, x3⟩ := S1.out.box
                go_wp2_with fail
                go_ret
                exact ⟨says_no rfl, S1.out.below⟩
              | true =>
                have R1 := Lib.hid (hr rfl)
                clear hr
                obtain ⟨x0, x1, x2, x3⟩ := S1.out.box
                go_wp2_with fail
                go_ret
                exact ⟨⟨_, rfl, fun _ => R1.out⟩, S1.out.below⟩
            · have h5' : (k.toList == [81, 117, 97, 108, 105, 102, 105, 101, 100]) = false := ne_of h5
              by_cases h6 : k = ⟨#[84, 101, 109, 112, 108, 97, 116, 101]⟩
              · subst h6
                go_enter Tryz.func66, Tryz.ntmps66
                go_wp2_with fail
                refine (HT.out _ S0.out.later).mono ?_
                rintro e w1 ⟨⟨r, rfl, hr⟩, b⟩
                have S1 := Lib.hid (S0.out.on b)
                clear b
                cases r with
                | false =>
                  clear hr
                  obtain ⟨x0, x1, x2, x3⟩ := S1.out.box
                  go_wp2_with fail
                  go_ret
                  exact ⟨says_no rfl, S1.out.below⟩
                | true =>
                  have R1 := Lib.hid (hr rfl)
                  clear hr
                  obtain ⟨x0, x1, x2, x3⟩ := S1.out.box
                  go_wp2_with fail
                  go_ret
                  exact ⟨⟨_, rfl, fun _ => R1.out⟩, S1.out.below⟩
              · have h6' : (k.toList == [84, 101, 109, 112, 108, 97, 116, 101]) = false := ne_of h6
                go_enter Tryz.func66, Tryz.ntmps66
                go_wp2_with fail
                go_ret
                exact ⟨says_no rfl, S0.out.below⟩

end Go.Proofs.YtnhccgbkalpcnaaGreatDoor
