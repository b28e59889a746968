/- IsClass. -/
import Derived.Test.YtnhccgbkalpcnaaGreatDoorMth
namespace Go.Proofs.YtnhccgbkalpcnaaGreatDoor
open Go.RowKit

theorem good_template {x : ByteArray} {n : Int} {p : Tree} {l : List Tree} (h : TmplP x n (p :: l)) (hp : Good p) : Good (.node ⟨#[84, 101, 109, 112, 108, 97, 116, 101]⟩ x n (p :: l)) := by
  obtain ⟨rfl, rfl, p', l', e, _, hl⟩ := h
  injection e with e1 e2
  subst e1 e2
  exact .template hp hl

set_option maxRecDepth 100000 in
set_option maxHeartbeats 2000000 in
theorem class_qualified (W0 : World) (x : ByteArray) (n : Int) (ks : List Tree) (hcl : ∀ p ∈ ks, Test W0 20 p (Good p)) (hun : ∀ p ∈ ks, Test W0 38 p (Good p)) : Test W0 20 (.node ⟨#[81, 117, 97, 108, 105, 102, 105, 101, 100]⟩ x n ks) (Good (.node ⟨#[81, 117, 97, 108, 105, 102, 105, 101, 100]⟩ x n ks)) := by
  intro v hv w hw
  by_cases hs : x = ⟨#[]⟩ ∧ n = 0 ∧ ks.length = 2
  · obtain ⟨rfl, rfl, hl⟩ := hs
    obtain ⟨p, q, rfl⟩ := two_kids hl
    obtain ⟨b, off, c, pa, pc, qa, qc, rfl, hc1, hc2, hkid, hp, hq⟩ := hv.two
    have HP := Lib.hid (fun W => plain_any W ⟨#[81, 117, 97, 108, 105, 102, 105, 101, 100]⟩ ⟨#[]⟩ 0 2 (some ⟨b, off, none⟩) c 2)
    have HK := Lib.hid hkid
    have I1 := Lib.hid (hcl p (by simp) _ hp)
    have I2 := Lib.hid (isTagged_any W0 q _ hq)
    have I3 := Lib.hid (hun q (by simp) _ hq)
    clear hcl hun
    have S0 := Lib.hid (St.start hw (.string ⟨#[81, 117, 97, 108, 105, 102, 105, 101, 100]⟩) (.string ⟨#[]⟩) (.int .i64 0) (.slice (some ⟨b, off, none⟩) 2 c))
    clear hv hkid hp hq hl hw
    go_enter Tryz.func20, Tryz.ntmps20
    go_wp2_with fail
    refine (HP.out _).mono ?_
    rintro e w1 ⟨⟨r, rfl, hr⟩, b⟩
    have S1 := Lib.hid (S0.out.on b)
    clear b
    cases r with
    | false =>
      clear hr
      obtain ⟨⟨p0, p1, p2, p3⟩, ⟨q0, q1, q2, q3⟩⟩ := HK.out _ S1.out.later
      obtain ⟨x0, x1, x2, x3⟩ := S1.out.box
      go_wp2_with fail
      go_ret
      exact ⟨says_no rfl, S1.out.below⟩
    | true =>
      clear hr
      obtain ⟨⟨p0, p1, p2, p3⟩, ⟨q0, q1, q2, q3⟩⟩ := HK.out _ S1.out.later
      obtain ⟨x0, x1, x2, x3⟩ := S1.out.box
      go_wp2_with fail
      refine (I1.out w1 S1.out.later).mono ?_
      rintro e w2 ⟨⟨r, rfl, hr⟩, b⟩
      have S2 := Lib.hid (S1.out.on b)
      clear b
      clear p0 p1 p2 p3 q0 q1 q2 q3 x0 x1 x2 x3
      cases r with
      | false =>
        clear hr
        obtain ⟨⟨p0, p1, p2, p3⟩, ⟨q0, q1, q2, q3⟩⟩ := HK.out _ S2.out.later
        obtain ⟨x0, x1, x2, x3⟩ := S2.out.box
        go_wp2_with fail
        go_ret
        exact ⟨says_no rfl, S2.out.below⟩
      | true =>
        have R1 := Lib.hid (hr rfl)
        clear hr
        obtain ⟨⟨p0, p1, p2, p3⟩, ⟨q0, q1, q2, q3⟩⟩ := HK.out _ S2.out.later
        obtain ⟨x0, x1, x2, x3⟩ := S2.out.box
        go_wp2_with fail
        refine (I2.out w2 S2.out.later).mono ?_
        rintro e w3 ⟨⟨r, rfl, hr⟩, b⟩
        have S3 := Lib.hid (S2.out.on b)
        clear b
        clear p0 p1 p2 p3 q0 q1 q2 q3 x0 x1 x2 x3
        cases r with
        | false =>
          clear hr
          obtain ⟨⟨p0, p1, p2, p3⟩, ⟨q0, q1, q2, q3⟩⟩ := HK.out _ S3.out.later
          obtain ⟨x0, x1, x2, x3⟩ := S3.out.box
          go_wp2_with fail
          refine (I3.out w3 S3.out.later).mono ?_
          rintro e w4 ⟨⟨r, rfl, hr⟩, b⟩
          have S4 := Lib.hid (S3.out.on b)
          clear b
          clear p0 p1 p2 p3 q0 q1 q2 q3 x0 x1 x2 x3
          cases r with
          | false =>
            clear hr
            obtain ⟨⟨p0, p1, p2, p3⟩, ⟨q0, q1, q2, q3⟩⟩ := HK.out _ S4.out.later
            obtain ⟨x0, x1, x2, x3⟩ := S4.out.box
            go_wp2_with fail
            go_ret
            exact ⟨says_no rfl, S4.out.below⟩
          | true =>
            have R3 := Lib.hid (hr rfl)
            clear hr
            obtain ⟨⟨p0, p1, p2, p3⟩, ⟨q0, q1, q2, q3⟩⟩ := HK.out _ S4.out.later
            obtain ⟨x0, x1, x2, x3⟩ := S4.out.box
            go_wp2_with fail
            go_ret
            exact ⟨⟨_, rfl, fun _ => .qualified R1.out R3.out⟩, S4.out.below⟩
        | true =>
          have R2 := Lib.hid (hr rfl)
          clear hr
          obtain ⟨⟨p0, p1, p2, p3⟩, ⟨q0, q1, q2, q3⟩⟩ := HK.out _ S3.out.later
          obtain ⟨x0, x1, x2, x3⟩ := S3.out.box
          go_wp2_with fail
          go_ret
          exact ⟨⟨_, rfl, fun _ => .qualified R1.out R2.out⟩, S3.out.below⟩
  · obtain ⟨a, c, rfl, _⟩ := hv.shut
    have HP := Lib.hid (fun W => plain_any W ⟨#[81, 117, 97, 108, 105, 102, 105, 101, 100]⟩ x n ks.length a c 2)
    have HS := Lib.hid hs
    have S0 := Lib.hid (St.start hw (.string ⟨#[81, 117, 97, 108, 105, 102, 105, 101, 100]⟩) (.string x) (.int .i64 n) (.slice a ks.length c))
    clear hv hs hw
    go_enter Tryz.func20, Tryz.ntmps20
    go_wp2_with fail
    refine (HP.out _).mono ?_
    rintro e w1 ⟨⟨r, rfl, hr⟩, b1⟩
    have S1 := Lib.hid (S0.out.on b1)
    cases r with
    | false =>
      clear hr b1
      go_wp2_with fail
      go_ret
      exact ⟨says_no rfl, S1.out.below⟩
    | true =>
      obtain ⟨h1, h2, h3⟩ := hr rfl
      exact absurd ⟨h1, h2, by omega⟩ HS.out

set_option maxRecDepth 100000 in
set_option maxHeartbeats 2000000 in
theorem class_template (W0 : World) (x : ByteArray) (n : Int) (ks : List Tree) (hcl : ∀ p ∈ ks, Test W0 20 p (Good p)) (htm : Test W0 39 (.node ⟨#[84, 101, 109, 112, 108, 97, 116, 101]⟩ x n ks) (TmplP x n ks)) : Test W0 20 (.node ⟨#[84, 101, 109, 112, 108, 97, 116, 101]⟩ x n ks) (Good (.node ⟨#[84, 101, 109, 112, 108, 97, 116, 101]⟩ x n ks)) := by
  intro v hv w hw
  match ks, hv, hcl, htm with
  | [], hv, _, htm =>
    have IT := Lib.hid (htm _ hv)
    have HX := Lib.hid (show TmplP x n [] → False from fun ⟨_, _, p, l, e, _⟩ => by cases e)
    obtain ⟨a, c, rfl, _⟩ := hv.shut
    have S0 := Lib.hid (St.start hw (.string ⟨#[84, 101, 109, 112, 108, 97, 116, 101]⟩) (.string x) (.int .i64 n) (.slice a 0 c))
    clear hv hw htm
    go_enter Tryz.func20, Tryz.ntmps20
    go_wp2_with fail
    refine (IT.out _ S0.out.later).mono ?_
    rintro e w1 ⟨⟨r, rfl, hr⟩, b1⟩
    have S1 := Lib.hid (S0.out.on b1)
    cases r with
    | false =>
      clear hr b1
      go_wp2_with fail
      go_ret
      exact ⟨says_no rfl, S1.out.below⟩
    | true => exact absurd (hr rfl) HX.out
  | p :: l, hv, hcl, htm =>
    obtain ⟨sv, hsv, hl⟩ := hv.kids
    subst hsv
    obtain ⟨b, off, c, pa, pc, rfl, hc1, hc2, hkid, hp⟩ := hl.first
    have IT := Lib.hid (htm _ hv)
    have IC := Lib.hid (hcl p (by simp) _ hp)
    have IS := Lib.hid (isStd_any W0 p _ hp)
    have FIN := Lib.hid (fun h1 h2 => good_template (x := x) (n := n) (p := p) (l := l) h1 h2)
    have hd0 : decide ((0 : Int) < (l.length : Int) + 1) = true := decide_eq_true (by omega)
    have S0 := Lib.hid (St.start hw (.string ⟨#[84, 101, 109, 112, 108, 97, 116, 101]⟩) (.string x) (.int .i64 n) (.slice (some ⟨b, off, none⟩) (l.length + 1) c))
    obtain ⟨k1, x1, n1, l1⟩ := p
    have HK := Lib.hid (fun W hW => (hkid W hW).fields rfl)
    clear hkid hv hl hp hcl htm hw
    by_cases hk1 : k1 = ⟨#[84, 101, 109, 112, 108, 97, 116, 101]⟩
    · subst hk1
      go_enter Tryz.func20, Tryz.ntmps20
      go_wp2_with fail
      refine (IT.out _ S0.out.later).mono ?_
      rintro e w1 ⟨⟨r, rfl, hr⟩, b⟩
      have S1 := Lib.hid (S0.out.on b)
      clear b
      cases r with
      | false =>
        clear hr
        obtain ⟨p0, p1, p2, p3⟩ := HK.out _ S1.out.later
        obtain ⟨x0, x1, x2, x3⟩ := S1.out.box
        go_wp2_with fail
        go_ret
        exact ⟨says_no rfl, S1.out.below⟩
      | true =>
        have R1 := Lib.hid (hr rfl)
        clear hr
        obtain ⟨p0, p1, p2, p3⟩ := HK.out _ S1.out.later
        obtain ⟨x0, x1, x2, x3⟩ := S1.out.box
        go_wp2_with fail
        refine (IC.out w1 S1.out.later).mono ?_
        rintro e w2 ⟨⟨r, rfl, hr⟩, b⟩
        have S2 := Lib.hid (S1.out.on b)
        clear b
        clear p0 p1 p2 p3 x0 x1 x2 x3
        cases r with
        | false =>
          clear hr
          obtain ⟨p0, p1, p2, p3⟩ := HK.out _ S2.out.later
          obtain ⟨x0, x1, x2, x3⟩ := S2.out.box
          go_wp2_with fail
          go_ret
          exact ⟨says_no rfl, S2.out.below⟩
        | true =>
          have R2 := Lib.hid (hr rfl)
          clear hr
          obtain ⟨p0, p1, p2, p3⟩ := HK.out _ S2.out.later
          obtain ⟨x0, x1, x2, x3⟩ := S2.out.box
          go_wp2_with fail
          go_ret
          exact ⟨says_no rfl, S2.out.below⟩
    · have hk1' : (k1.toList == [84, 101, 109, 112, 108, 97, 116, 101]) = false := ne_of hk1
      have hk2 : (k1.toList != [84, 101, 109, 112, 108, 97, 116, 101]) = true := by rw [bne, hk1']; rfl
      go_enter Tryz.func20, Tryz.ntmps20
      go_wp2_with fail
      refine (IT.out _ S0.out.later).mono ?_
      rintro e w1 ⟨⟨r, rfl, hr⟩, b⟩
      have S1 := Lib.hid (S0.out.on b)
      clear b
      cases r with
      | false =>
        clear hr
        obtain ⟨p0, p1, p2, p3⟩ := HK.out _ S1.out.later
        obtain ⟨x0, x1, x2, x3⟩ := S1.out.box
        go_wp2_with fail
        go_ret
        exact ⟨says_no rfl, S1.out.below⟩
      | true =>
        have R1 := Lib.hid (hr rfl)
        clear hr
        obtain ⟨p0, p1, p2, p3⟩ := HK.out _ S1.out.later
        obtain ⟨x0, x1, x2, x3⟩ := S1.out.box
        go_wp2_with fail
        refine (IC.out w1 S1.out.later).mono ?_
        rintro e w2 ⟨⟨r, rfl, hr⟩, b⟩
        have S2 := Lib.hid (S1.out.on b)
        clear b
        clear p0 p1 p2 p3 x0 x1 x2 x3
        cases r with
        | false =>
          clear hr
          obtain ⟨p0, p1, p2, p3⟩ := HK.out _ S2.out.later
          obtain ⟨x0, x1, x2, x3⟩ := S2.out.box
          go_wp2_with fail
          go_ret
          exact ⟨says_no rfl, S2.out.below⟩
        | true =>
          have R2 := Lib.hid (hr rfl)
          clear hr
          obtain ⟨p0, p1, p2, p3⟩ := HK.out _ S2.out.later
          obtain ⟨x0, x1, x2, x3⟩ := S2.out.box
          go_wp2_with fail
          refine (IS.out w2 S2.out.later).mono ?_
          rintro e w3 ⟨⟨r, rfl, hr⟩, b⟩
          have S3 := Lib.hid (S2.out.on b)
          clear b
          clear p0 p1 p2 p3 x0 x1 x2 x3
          cases r with
          | false =>
            clear hr
            obtain ⟨p0, p1, p2, p3⟩ := HK.out _ S3.out.later
            obtain ⟨x0, x1, x2, x3⟩ := S3.out.box
            go_wp2_with fail
            go_ret
            exact ⟨⟨_, rfl, fun _ => FIN.out R1.out R2.out⟩, S3.out.below⟩
          | true =>
            clear hr
            obtain ⟨p0, p1, p2, p3⟩ := HK.out _ S3.out.later
            obtain ⟨x0, x1, x2, x3⟩ := S3.out.box
            go_wp2_with fail
            go_ret
            exact ⟨says_no rfl, S3.out.below⟩

set_option maxRecDepth 100000 in
set_option maxHeartbeats 2000000 in
theorem isClass_step (W0 : World) (t : Tree) (hcl : ∀ p ∈ t.kids, Test W0 20 p (Good p)) (hun : ∀ p ∈ t.kids, Test W0 38 p (Good p)) (htm : Test W0 39 t (TmplP t.text t.num t.kids)) : Test W0 20 t (Good t) := by
  obtain ⟨k, x, n, ks⟩ := t
  by_cases hq : k = ⟨#[81, 117, 97, 108, 105, 102, 105, 101, 100]⟩
  · subst hq
    exact class_qualified W0 x n ks hcl hun
  by_cases ht : k = ⟨#[84, 101, 109, 112, 108, 97, 116, 101]⟩
  · subst ht
    exact class_template W0 x n ks hcl htm
  have hta := isTagged_any W0 (.node k x n ks)
  have hq' : (k.toList == [81, 117, 97, 108, 105, 102, 105, 101, 100]) = false := ne_of hq
  have ht' : (k.toList == [84, 101, 109, 112, 108, 97, 116, 101]) = false := ne_of ht
  intro v hv w hw
  obtain ⟨a, c, rfl, _⟩ := hv.shut
  have HT := Lib.hid (hta _ hv)
  clear hta hcl hun htm
  have S0 := Lib.hid (St.start hw (.string k) (.string x) (.int .i64 n) (.slice a ks.length c))
  clear hv hw
  by_cases h1 : k = ⟨#[78, 97, 109, 101]⟩
  · subst h1
    go_enter Tryz.func20, Tryz.ntmps20
    go_wp2_with fail
    refine (HT.out _ S0.out.later).mono ?_
    rintro e w1 ⟨⟨r, rfl, hr⟩, b⟩
    have S1 := Lib.hid (S0.out.on b)
    clear b
    cases r with
    | false =>
      clear hr
      obtain ⟨x0, x1, x2, x3⟩ := S1.out.box
      go_wp2_with fail
      go_ret
      exact ⟨says_no rfl, S1.out.below⟩
    | true =>
      have R1 := Lib.hid (hr rfl)
      clear hr
      obtain ⟨x0, x1, x2, x3⟩ := S1.out.box
      go_wp2_with fail
      go_ret
      exact ⟨⟨_, rfl, fun _ => R1.out⟩, S1.out.below⟩
  · have h1' : (k.toList == [78, 97, 109, 101]) = false := ne_of h1
    by_cases h2 : k = ⟨#[84, 97, 103, 103, 101, 100, 78, 97, 109, 101]⟩
    · subst h2
      go_enter Tryz.func20, Tryz.ntmps20
      go_wp2_with fail
      refine (HT.out _ S0.out.later).mono ?_
      rintro e w1 ⟨⟨r, rfl, hr⟩, b⟩
      have S1 := Lib.hid (S0.out.on b)
      clear b
      cases r with
      | false =>
        clear hr
        obtain ⟨x0, x1, x2, x3⟩ := S1.out.box
        go_wp2_with fail
        go_ret
        exact ⟨says_no rfl, S1.out.below⟩
      | true =>
        have R1 := Lib.hid (hr rfl)
        clear hr
        obtain ⟨x0, x1, x2, x3⟩ := S1.out.box
        go_wp2_with fail
        go_ret
        exact ⟨⟨_, rfl, fun _ => R1.out⟩, S1.out.below⟩
    · have h2' : (k.toList == [84, 97, 103, 103, 101, 100, 78, 97, 109, 101]) = false := ne_of h2
      go_enter Tryz.func20, Tryz.ntmps20
      go_wp2_with fail
      go_ret
      exact ⟨says_no rfl, S0.out.below⟩

end Go.Proofs.YtnhccgbkalpcnaaGreatDoor
