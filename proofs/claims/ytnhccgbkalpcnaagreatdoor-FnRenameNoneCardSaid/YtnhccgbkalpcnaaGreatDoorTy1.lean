/- IsType: the kinds whose kids are plain. -/
import Derived.Test.YtnhccgbkalpcnaaGreatDoorArg
namespace Go.Proofs.YtnhccgbkalpcnaaGreatDoor
open Go.RowKit

set_option maxRecDepth 100000 in
set_option maxHeartbeats 2000000 in
theorem ty_pointer (W0 : World) (x : ByteArray) (n : Int) (ks : List Tree) (hty : ∀ p ∈ ks, Test W0 53 p (Good p)) : Test W0 53 (.node ⟨#[80, 111, 105, 110, 116, 101, 114, 84, 121, 112, 101]⟩ x n ks) (Good (.node ⟨#[80, 111, 105, 110, 116, 101, 114, 84, 121, 112, 101]⟩ x n ks)) := by
  intro v hv w hw
  by_cases hs : x = ⟨#[]⟩ ∧ n = 0 ∧ ks.length = 1
  · obtain ⟨rfl, rfl, hl⟩ := hs
    obtain ⟨p, rfl⟩ := one_kid hl
    obtain ⟨b, off, c, pa, pc, rfl, hc1, hc2, hkid, hp⟩ := hv.one
    have HP := Lib.hid (fun W => plain_any W ⟨#[80, 111, 105, 110, 116, 101, 114, 84, 121, 112, 101]⟩ ⟨#[]⟩ 0 1 (some ⟨b, off, none⟩) c 1)
    have HK := Lib.hid hkid
    have I1 := Lib.hid (hty p (by simp) _ hp)
    have I2 := Lib.hid (isReference_any W0 p _ hp)
    clear hty
    have S0 := Lib.hid (St.start hw (.string ⟨#[80, 111, 105, 110, 116, 101, 114, 84, 121, 112, 101]⟩) (.string ⟨#[]⟩) (.int .i64 0) (.slice (some ⟨b, off, none⟩) 1 c))
    clear hv hkid hp hl hw
    go_enter Tryz.func53, Tryz.ntmps53
    go_wp2_with fail
    refine (HP.out _).mono ?_
    rintro e w1 ⟨⟨r, rfl, hr⟩, b⟩
    have S1 := Lib.hid (S0.out.on b)
    clear b
    cases r with
    | false =>
      clear hr
      obtain ⟨p0, p1, p2, p3⟩ := HK.out _ S1.out.later
      obtain ⟨x0, x1, x2, x3⟩ := S1.out.box
      go_wp2_with fail
      go_ret
      exact ⟨says_no rfl, S1.out.below⟩
    | true =>
      clear hr
      obtain ⟨p0, p1, p2, p3⟩ := HK.out _ S1.out.later
      obtain ⟨x0, x1, x2, x3⟩ := S1.out.box
      go_wp2_with fail
      refine (I1.out w1 S1.out.later).mono ?_
      rintro e w2 ⟨⟨r, rfl, hr⟩, b⟩
      have S2 := Lib.hid (S1.out.on b)
      clear b
      clear p0 p1 p2 p3 x0 x1 x2 x3
      cases r with
      | false =>
        clear hr
        obtain ⟨p0, p1, p2, p3⟩ := HK.out _ S2.out.later
        obtain ⟨x0, x1, x2, x3⟩ := S2.out.box
        go_wp2_with fail
        go_ret
        exact ⟨says_no rfl, S2.out.below⟩
      | true =>
        have R1 := Lib.hid (hr rfl)
        clear hr
        obtain ⟨p0, p1, p2, p3⟩ := HK.out _ S2.out.later
        obtain ⟨x0, x1, x2, x3⟩ := S2.out.box
        go_wp2_with fail
        refine (I2.out w2 S2.out.later).mono ?_
        rintro e w3 ⟨⟨r, rfl, hr⟩, b⟩
        have S3 := Lib.hid (S2.out.on b)
        clear b
        clear p0 p1 p2 p3 x0 x1 x2 x3
        cases r with
        | false =>
          clear hr
          obtain ⟨p0, p1, p2, p3⟩ := HK.out _ S3.out.later
          obtain ⟨x0, x1, x2, x3⟩ := S3.out.box
          go_wp2_with fail
          go_ret
          exact ⟨⟨_, rfl, fun _ => .pointerType R1.out⟩, S3.out.below⟩
        | true =>
          clear hr
          obtain ⟨p0, p1, p2, p3⟩ := HK.out _ S3.out.later
          obtain ⟨x0, x1, x2, x3⟩ := S3.out.box
          go_wp2_with fail
          go_ret
          exact ⟨says_no rfl, S3.out.below⟩
  · obtain ⟨a, c, rfl, _⟩ := hv.shut
    have HP := Lib.hid (fun W => plain_any W ⟨#[80, 111, 105, 110, 116, 101, 114, 84, 121, 112, 101]⟩ x n ks.length a c 1)
    have HS := Lib.hid hs
    have S0 := Lib.hid (St.start hw (.string ⟨#[80, 111, 105, 110, 116, 101, 114, 84, 121, 112, 101]⟩) (.string x) (.int .i64 n) (.slice a ks.length c))
    clear hv hs hw
    go_enter Tryz.func53, Tryz.ntmps53
    go_wp2_with fail
    refine (HP.out _).mono ?_
    rintro e w1 ⟨⟨r, rfl, hr⟩, b1⟩
    have S1 := Lib.hid (S0.out.on b1)
    cases r with
    | false =>
      clear hr b1
      go_wp2_with fail
      go_ret
      exact ⟨says_no rfl, S1.out.below⟩
    | true =>
      obtain ⟨h1, h2, h3⟩ := hr rfl
      exact absurd ⟨h1, h2, by omega⟩ HS.out

set_option maxRecDepth 100000 in
set_option maxHeartbeats 2000000 in
theorem ty_reference (W0 : World) (x : ByteArray) (n : Int) (ks : List Tree) (hty : ∀ p ∈ ks, Test W0 53 p (Good p)) : Test W0 53 (.node ⟨#[82, 101, 102, 101, 114, 101, 110, 99, 101, 84, 121, 112, 101]⟩ x n ks) (Good (.node ⟨#[82, 101, 102, 101, 114, 101, 110, 99, 101, 84, 121, 112, 101]⟩ x n ks)) := by
  intro v hv w hw
  by_cases hs : x = ⟨#[]⟩ ∧ n = 0 ∧ ks.length = 1
  · obtain ⟨rfl, rfl, hl⟩ := hs
    obtain ⟨p, rfl⟩ := one_kid hl
    obtain ⟨b, off, c, pa, pc, rfl, hc1, hc2, hkid, hp⟩ := hv.one
    have HP := Lib.hid (fun W => plain_any W ⟨#[82, 101, 102, 101, 114, 101, 110, 99, 101, 84, 121, 112, 101]⟩ ⟨#[]⟩ 0 1 (some ⟨b, off, none⟩) c 1)
    have HK := Lib.hid hkid
    have I1 := Lib.hid (hty p (by simp) _ hp)
    have I2 := Lib.hid (isReference_any W0 p _ hp)
    have I3 := Lib.hid (isVoid_any W0 p _ hp)
    clear hty
    have S0 := Lib.hid (St.start hw (.string ⟨#[82, 101, 102, 101, 114, 101, 110, 99, 101, 84, 121, 112, 101]⟩) (.string ⟨#[]⟩) (.int .i64 0) (.slice (some ⟨b, off, none⟩) 1 c))
    clear hv hkid hp hl hw
    go_enter Tryz.func53, Tryz.ntmps53
    go_wp2_with fail
    refine (HP.out _).mono ?_
    rintro e w1 ⟨⟨r, rfl, hr⟩, b⟩
    have S1 := Lib.hid (S0.out.on b)
    clear b
    cases r with
    | false =>
      clear hr
      obtain ⟨p0, p1, p2, p3⟩ := HK.out _ S1.out.later
      obtain ⟨x0, x1, x2, x3⟩ := S1.out.box
      go_wp2_with fail
      go_ret
      exact ⟨says_no rfl, S1.out.below⟩
    | true =>
      clear hr
      obtain ⟨p0, p1, p2, p3⟩ := HK.out _ S1.out.later
      obtain ⟨x0, x1, x2, x3⟩ := S1.out.box
      go_wp2_with fail
      refine (I1.out w1 S1.out.later).mono ?_
      rintro e w2 ⟨⟨r, rfl, hr⟩, b⟩
      have S2 := Lib.hid (S1.out.on b)
      clear b
      clear p0 p1 p2 p3 x0 x1 x2 x3
      cases r with
      | false =>
        clear hr
        obtain ⟨p0, p1, p2, p3⟩ := HK.out _ S2.out.later
        obtain ⟨x0, x1, x2, x3⟩ := S2.out.box
        go_wp2_with fail
        go_ret
        exact ⟨says_no rfl, S2.out.below⟩
      | true =>
        have R1 := Lib.hid (hr rfl)
        clear hr
        obtain ⟨p0, p1, p2, p3⟩ := HK.out _ S2.out.later
        obtain ⟨x0, x1, x2, x3⟩ := S2.out.box
        go_wp2_with fail
        refine (I2.out w2 S2.out.later).mono ?_
        rintro e w3 ⟨⟨r, rfl, hr⟩, b⟩
        have S3 := Lib.hid (S2.out.on b)
        clear b
        clear p0 p1 p2 p3 x0 x1 x2 x3
        cases r with
        | false =>
          clear hr
          obtain ⟨p0, p1, p2, p3⟩ := HK.out _ S3.out.later
          obtain ⟨x0, x1, x2, x3⟩ := S3.out.box
          go_wp2_with fail
          refine (I3.out w3 S3.out.later).mono ?_
          rintro e w4 ⟨⟨r, rfl, hr⟩, b⟩
          have S4 := Lib.hid (S3.out.on b)
          clear b
          clear p0 p1 p2 p3 x0 x1 x2 x3
          cases r with
          | false =>
            clear hr
            obtain ⟨p0, p1, p2, p3⟩ := HK.out _ S4.out.later
            obtain ⟨x0, x1, x2, x3⟩ := S4.out.box
            go_wp2_with fail
            go_ret
            exact ⟨⟨_, rfl, fun _ => .referenceType R1.out⟩, S4.out.below⟩
          | true =>
            clear hr
            obtain ⟨p0, p1, p2, p3⟩ := HK.out _ S4.out.later
            obtain ⟨x0, x1, x2, x3⟩ := S4.out.box
            go_wp2_with fail
            go_ret
            exact ⟨says_no rfl, S4.out.below⟩
        | true =>
          clear hr
          obtain ⟨p0, p1, p2, p3⟩ := HK.out _ S3.out.later
          obtain ⟨x0, x1, x2, x3⟩ := S3.out.box
          go_wp2_with fail
          go_ret
          exact ⟨says_no rfl, S3.out.below⟩
  · obtain ⟨a, c, rfl, _⟩ := hv.shut
    have HP := Lib.hid (fun W => plain_any W ⟨#[82, 101, 102, 101, 114, 101, 110, 99, 101, 84, 121, 112, 101]⟩ x n ks.length a c 1)
    have HS := Lib.hid hs
    have S0 := Lib.hid (St.start hw (.string ⟨#[82, 101, 102, 101, 114, 101, 110, 99, 101, 84, 121, 112, 101]⟩) (.string x) (.int .i64 n) (.slice a ks.length c))
    clear hv hs hw
    go_enter Tryz.func53, Tryz.ntmps53
    go_wp2_with fail
    refine (HP.out _).mono ?_
    rintro e w1 ⟨⟨r, rfl, hr⟩, b1⟩
    have S1 := Lib.hid (S0.out.on b1)
    cases r with
    | false =>
      clear hr b1
      go_wp2_with fail
      go_ret
      exact ⟨says_no rfl, S1.out.below⟩
    | true =>
      obtain ⟨h1, h2, h3⟩ := hr rfl
      exact absurd ⟨h1, h2, by omega⟩ HS.out

set_option maxRecDepth 100000 in
set_option maxHeartbeats 2000000 in
theorem ty_rvalueReference (W0 : World) (x : ByteArray) (n : Int) (ks : List Tree) (hty : ∀ p ∈ ks, Test W0 53 p (Good p)) : Test W0 53 (.node ⟨#[82, 118, 97, 108, 117, 101, 82, 101, 102, 101, 114, 101, 110, 99, 101, 84, 121, 112, 101]⟩ x n ks) (Good (.node ⟨#[82, 118, 97, 108, 117, 101, 82, 101, 102, 101, 114, 101, 110, 99, 101, 84, 121, 112, 101]⟩ x n ks)) := by
  intro v hv w hw
  by_cases hs : x = ⟨#[]⟩ ∧ n = 0 ∧ ks.length = 1
  · obtain ⟨rfl, rfl, hl⟩ := hs
    obtain ⟨p, rfl⟩ := one_kid hl
    obtain ⟨b, off, c, pa, pc, rfl, hc1, hc2, hkid, hp⟩ := hv.one
    have HP := Lib.hid (fun W => plain_any W ⟨#[82, 118, 97, 108, 117, 101, 82, 101, 102, 101, 114, 101, 110, 99, 101, 84, 121, 112, 101]⟩ ⟨#[]⟩ 0 1 (some ⟨b, off, none⟩) c 1)
    have HK := Lib.hid hkid
    have I1 := Lib.hid (hty p (by simp) _ hp)
    have I2 := Lib.hid (isReference_any W0 p _ hp)
    have I3 := Lib.hid (isVoid_any W0 p _ hp)
    clear hty
    have S0 := Lib.hid (St.start hw (.string ⟨#[82, 118, 97, 108, 117, 101, 82, 101, 102, 101, 114, 101, 110, 99, 101, 84, 121, 112, 101]⟩) (.string ⟨#[]⟩) (.int .i64 0) (.slice (some ⟨b, off, none⟩) 1 c))
    clear hv hkid hp hl hw
    go_enter Tryz.func53, Tryz.ntmps53
    go_wp2_with fail
    refine (HP.out _).mono ?_
    rintro e w1 ⟨⟨r, rfl, hr⟩, b⟩
    have S1 := Lib.hid (S0.out.on b)
    clear b
    cases r with
    | false =>
      clear hr
      obtain ⟨p0, p1, p2, p3⟩ := HK.out _ S1.out.later
      obtain ⟨x0, x1, x2, x3⟩ := S1.out.box
      go_wp2_with fail
      go_ret
      exact ⟨says_no rfl, S1.out.below⟩
    | true =>
      clear hr
      obtain ⟨p0, p1, p2, p3⟩ := HK.out _ S1.out.later
      obtain ⟨x0, x1, x2, x3⟩ := S1.out.box
      go_wp2_with fail
      refine (I1.out w1 S1.out.later).mono ?_
      rintro e w2 ⟨⟨r, rfl, hr⟩, b⟩
      have S2 := Lib.hid (S1.out.on b)
      clear b
      clear p0 p1 p2 p3 x0 x1 x2 x3
      cases r with
      | false =>
        clear hr
        obtain ⟨p0, p1, p2, p3⟩ := HK.out _ S2.out.later
        obtain ⟨x0, x1, x2, x3⟩ := S2.out.box
        go_wp2_with fail
        go_ret
        exact ⟨says_no rfl, S2.out.below⟩
      | true =>
        have R1 := Lib.hid (hr rfl)
        clear hr
        obtain ⟨p0, p1, p2, p3⟩ := HK.out _ S2.out.later
        obtain ⟨x0, x1, x2, x3⟩ := S2.out.box
        go_wp2_with fail
        refine (I2.out w2 S2.out.later).mono ?_
        rintro e w3 ⟨⟨r, rfl, hr⟩, b⟩
        have S3 := Lib.hid (S2.out.on b)
        clear b
        clear p0 p1 p2 p3 x0 x1 x2 x3
        cases r with
        | false =>
          clear hr
          obtain ⟨p0, p1, p2, p3⟩ := HK.out _ S3.out.later
          obtain ⟨x0, x1, x2, x3⟩ := S3.out.box
          go_wp2_with fail
          refine (I3.out w3 S3.out.later).mono ?_
          rintro e w4 ⟨⟨r, rfl, hr⟩, b⟩
          have S4 := Lib.hid (S3.out.on b)
          clear b
          clear p0 p1 p2 p3 x0 x1 x2 x3
          cases r with
          | false =>
            clear hr
            obtain ⟨p0, p1, p2, p3⟩ := HK.out _ S4.out.later
            obtain ⟨x0, x1, x2, x3⟩ := S4.out.box
            go_wp2_with fail
            go_ret
            exact ⟨⟨_, rfl, fun _ => .rvalueReferenceType R1.out⟩, S4.out.below⟩
          | true =>
            clear hr
            obtain ⟨p0, p1, p2, p3⟩ := HK.out _ S4.out.later
            obtain ⟨x0, x1, x2, x3⟩ := S4.out.box
            go_wp2_with fail
            go_ret
            exact ⟨says_no rfl, S4.out.below⟩
        | true =>
          clear hr
          obtain ⟨p0, p1, p2, p3⟩ := HK.out _ S3.out.later
          obtain ⟨x0, x1, x2, x3⟩ := S3.out.box
          go_wp2_with fail
          go_ret
          exact ⟨says_no rfl, S3.out.below⟩
  · obtain ⟨a, c, rfl, _⟩ := hv.shut
    have HP := Lib.hid (fun W => plain_any W ⟨#[82, 118, 97, 108, 117, 101, 82, 101, 102, 101, 114, 101, 110, 99, 101, 84, 121, 112, 101]⟩ x n ks.length a c 1)
    have HS := Lib.hid hs
    have S0 := Lib.hid (St.start hw (.string ⟨#[82, 118, 97, 108, 117, 101, 82, 101, 102, 101, 114, 101, 110, 99, 101, 84, 121, 112, 101]⟩) (.string x) (.int .i64 n) (.slice a ks.length c))
    clear hv hs hw
    go_enter Tryz.func53, Tryz.ntmps53
    go_wp2_with fail
    refine (HP.out _).mono ?_
    rintro e w1 ⟨⟨r, rfl, hr⟩, b1⟩
    have S1 := Lib.hid (S0.out.on b1)
    cases r with
    | false =>
      clear hr b1
      go_wp2_with fail
      go_ret
      exact ⟨says_no rfl, S1.out.below⟩
    | true =>
      obtain ⟨h1, h2, h3⟩ := hr rfl
      exact absurd ⟨h1, h2, by omega⟩ HS.out

set_option maxRecDepth 100000 in
set_option maxHeartbeats 2000000 in
theorem ty_complex (W0 : World) (x : ByteArray) (n : Int) (ks : List Tree) (hfl : ∀ p ∈ ks, Test W0 67 p (Good p)) : Test W0 53 (.node ⟨#[67, 111, 109, 112, 108, 101, 120, 84, 121, 112, 101]⟩ x n ks) (Good (.node ⟨#[67, 111, 109, 112, 108, 101, 120, 84, 121, 112, 101]⟩ x n ks)) := by
  intro v hv w hw
  by_cases hs : x = ⟨#[]⟩ ∧ n = 0 ∧ ks.length = 1
  · obtain ⟨rfl, rfl, hl⟩ := hs
    obtain ⟨p, rfl⟩ := one_kid hl
    obtain ⟨b, off, c, pa, pc, rfl, hc1, hc2, hkid, hp⟩ := hv.one
    have HP := Lib.hid (fun W => plain_any W ⟨#[67, 111, 109, 112, 108, 101, 120, 84, 121, 112, 101]⟩ ⟨#[]⟩ 0 1 (some ⟨b, off, none⟩) c 1)
    have HK := Lib.hid hkid
    have I1 := Lib.hid (hfl p (by simp) _ hp)
    clear hfl
    have S0 := Lib.hid (St.start hw (.string ⟨#[67, 111, 109, 112, 108, 101, 120, 84, 121, 112, 101]⟩) (.string ⟨#[]⟩) (.int .i64 0) (.slice (some ⟨b, off, none⟩) 1 c))
    clear hv hkid hp hl hw
    go_enter Tryz.func53, Tryz.ntmps53
    go_wp2_with fail
    refine (HP.out _).mono ?_
    rintro e w1 ⟨⟨r, rfl, hr⟩, b⟩
    have S1 := Lib.hid (S0.out.on b)
    clear b
    cases r with
    | false =>
      clear hr
      obtain ⟨p0, p1, p2, p3⟩ := HK.out _ S1.out.later
      obtain ⟨x0, x1, x2, x3⟩ := S1.out.box
      go_wp2_with fail
      go_ret
      exact ⟨says_no rfl, S1.out.below⟩
    | true =>
      clear hr
      obtain ⟨p0, p1, p2, p3⟩ := HK.out _ S1.out.later
      obtain ⟨x0, x1, x2, x3⟩ := S1.out.box
      go_wp2_with fail
      refine (I1.out w1 S1.out.later).mono ?_
      rintro e w2 ⟨⟨r, rfl, hr⟩, b⟩
      have S2 := Lib.hid (S1.out.on b)
      clear b
      clear p0 p1 p2 p3 x0 x1 x2 x3
      cases r with
      | false =>
        clear hr
        obtain ⟨p0, p1, p2, p3⟩ := HK.out _ S2.out.later
        obtain ⟨x0, x1, x2, x3⟩ := S2.out.box
        go_wp2_with fail
        go_ret
        exact ⟨says_no rfl, S2.out.below⟩
      | true =>
        have R1 := Lib.hid (hr rfl)
        clear hr
        obtain ⟨p0, p1, p2, p3⟩ := HK.out _ S2.out.later
        obtain ⟨x0, x1, x2, x3⟩ := S2.out.box
        go_wp2_with fail
        go_ret
        exact ⟨⟨_, rfl, fun _ => .complexType R1.out⟩, S2.out.below⟩
  · obtain ⟨a, c, rfl, _⟩ := hv.shut
    have HP := Lib.hid (fun W => plain_any W ⟨#[67, 111, 109, 112, 108, 101, 120, 84, 121, 112, 101]⟩ x n ks.length a c 1)
    have HS := Lib.hid hs
    have S0 := Lib.hid (St.start hw (.string ⟨#[67, 111, 109, 112, 108, 101, 120, 84, 121, 112, 101]⟩) (.string x) (.int .i64 n) (.slice a ks.length c))
    clear hv hs hw
    go_enter Tryz.func53, Tryz.ntmps53
    go_wp2_with fail
    refine (HP.out _).mono ?_
    rintro e w1 ⟨⟨r, rfl, hr⟩, b1⟩
    have S1 := Lib.hid (S0.out.on b1)
    cases r with
    | false =>
      clear hr b1
      go_wp2_with fail
      go_ret
      exact ⟨says_no rfl, S1.out.below⟩
    | true =>
      obtain ⟨h1, h2, h3⟩ := hr rfl
      exact absurd ⟨h1, h2, by omega⟩ HS.out

set_option maxRecDepth 100000 in
set_option maxHeartbeats 2000000 in
theorem ty_imaginary (W0 : World) (x : ByteArray) (n : Int) (ks : List Tree) (hfl : ∀ p ∈ ks, Test W0 67 p (Good p)) : Test W0 53 (.node ⟨#[73, 109, 97, 103, 105, 110, 97, 114, 121, 84, 121, 112, 101]⟩ x n ks) (Good (.node ⟨#[73, 109, 97, 103, 105, 110, 97, 114, 121, 84, 121, 112, 101]⟩ x n ks)) := by
  intro v hv w hw
  by_cases hs : x = ⟨#[]⟩ ∧ n = 0 ∧ ks.length = 1
  · obtain ⟨rfl, rfl, hl⟩ := hs
    obtain ⟨p, rfl⟩ := one_kid hl
    obtain ⟨b, off, c, pa, pc, rfl, hc1, hc2, hkid, hp⟩ := hv.one
    have HP := Lib.hid (fun W => plain_any W ⟨#[73, 109, 97, 103, 105, 110, 97, 114, 121, 84, 121, 112, 101]⟩ ⟨#[]⟩ 0 1 (some ⟨b, off, none⟩) c 1)
    have HK := Lib.hid hkid
    have I1 := Lib.hid (hfl p (by simp) _ hp)
    clear hfl
    have S0 := Lib.hid (St.start hw (.string ⟨#[73, 109, 97, 103, 105, 110, 97, 114, 121, 84, 121, 112, 101]⟩) (.string ⟨#[]⟩) (.int .i64 0) (.slice (some ⟨b, off, none⟩) 1 c))
    clear hv hkid hp hl hw
    go_enter Tryz.func53, Tryz.ntmps53
    go_wp2_with fail
    refine (HP.out _).mono ?_
    rintro e w1 ⟨⟨r, rfl, hr⟩, b⟩
    have S1 := Lib.hid (S0.out.on b)
    clear b
    cases r with
    | false =>
      clear hr
      obtain ⟨p0, p1, p2, p3⟩ := HK.out _ S1.out.later
      obtain ⟨x0, x1, x2, x3⟩ := S1.out.box
      go_wp2_with fail
      go_ret
      exact ⟨says_no rfl, S1.out.below⟩
    | true =>
      clear hr
      obtain ⟨p0, p1, p2, p3⟩ := HK.out _ S1.out.later
      obtain ⟨x0, x1, x2, x3⟩ := S1.out.box
      go_wp2_with fail
      refine (I1.out w1 S1.out.later).mono ?_
      rintro e w2 ⟨⟨r, rfl, hr⟩, b⟩
      have S2 := Lib.hid (S1.out.on b)
      clear b
      clear p0 p1 p2 p3 x0 x1 x2 x3
      cases r with
      | false =>
        clear hr
        obtain ⟨p0, p1, p2, p3⟩ := HK.out _ S2.out.later
        obtain ⟨x0, x1, x2, x3⟩ := S2.out.box
        go_wp2_with fail
        go_ret
        exact ⟨says_no rfl, S2.out.below⟩
      | true =>
        have R1 := Lib.hid (hr rfl)
        clear hr
        obtain ⟨p0, p1, p2, p3⟩ := HK.out _ S2.out.later
        obtain ⟨x0, x1, x2, x3⟩ := S2.out.box
        go_wp2_with fail
        go_ret
        exact ⟨⟨_, rfl, fun _ => .imaginaryType R1.out⟩, S2.out.below⟩
  · obtain ⟨a, c, rfl, _⟩ := hv.shut
    have HP := Lib.hid (fun W => plain_any W ⟨#[73, 109, 97, 103, 105, 110, 97, 114, 121, 84, 121, 112, 101]⟩ x n ks.length a c 1)
    have HS := Lib.hid hs
    have S0 := Lib.hid (St.start hw (.string ⟨#[73, 109, 97, 103, 105, 110, 97, 114, 121, 84, 121, 112, 101]⟩) (.string x) (.int .i64 n) (.slice a ks.length c))
    clear hv hs hw
    go_enter Tryz.func53, Tryz.ntmps53
    go_wp2_with fail
    refine (HP.out _).mono ?_
    rintro e w1 ⟨⟨r, rfl, hr⟩, b1⟩
    have S1 := Lib.hid (S0.out.on b1)
    cases r with
    | false =>
      clear hr b1
      go_wp2_with fail
      go_ret
      exact ⟨says_no rfl, S1.out.below⟩
    | true =>
      obtain ⟨h1, h2, h3⟩ := hr rfl
      exact absurd ⟨h1, h2, by omega⟩ HS.out

set_option maxRecDepth 100000 in
set_option maxHeartbeats 2000000 in
theorem ty_array (W0 : World) (x : ByteArray) (n : Int) (ks : List Tree) (hob : ∀ p ∈ ks, Test W0 70 p (Good p)) : Test W0 53 (.node ⟨#[65, 114, 114, 97, 121, 84, 121, 112, 101]⟩ x n ks) (Good (.node ⟨#[65, 114, 114, 97, 121, 84, 121, 112, 101]⟩ x n ks)) := by
  intro v hv w hw
  by_cases hs : x = ⟨#[]⟩ ∧ n = 0 ∧ ks.length = 2
  · obtain ⟨rfl, rfl, hl⟩ := hs
    obtain ⟨p, q, rfl⟩ := two_kids hl
    obtain ⟨b, off, c, pa, pc, qa, qc, rfl, hc1, hc2, hkid, hp, hq⟩ := hv.two
    have HP := Lib.hid (fun W => plain_any W ⟨#[65, 114, 114, 97, 121, 84, 121, 112, 101]⟩ ⟨#[]⟩ 0 2 (some ⟨b, off, none⟩) c 2)
    have HK := Lib.hid hkid
    have I1 := Lib.hid (fun W => isNumber_any W p.kind p.text p.num p.kids.length pa pc)
    have I2 := Lib.hid (hob q (by simp) _ hq)
    clear hob
    have S0 := Lib.hid (St.start hw (.string ⟨#[65, 114, 114, 97, 121, 84, 121, 112, 101]⟩) (.string ⟨#[]⟩) (.int .i64 0) (.slice (some ⟨b, off, none⟩) 2 c))
    clear hv hkid hp hq hl hw
    go_enter Tryz.func53, Tryz.ntmps53
    go_wp2_with fail
    refine (HP.out _).mono ?_
    rintro e w1 ⟨⟨r, rfl, hr⟩, b⟩
    have S1 := Lib.hid (S0.out.on b)
    clear b
    cases r with
    | false =>
      clear hr
      obtain ⟨⟨p0, p1, p2, p3⟩, ⟨q0, q1, q2, q3⟩⟩ := HK.out _ S1.out.later
      obtain ⟨x0, x1, x2, x3⟩ := S1.out.box
      go_wp2_with fail
      go_ret
      exact ⟨says_no rfl, S1.out.below⟩
    | true =>
      clear hr
      obtain ⟨⟨p0, p1, p2, p3⟩, ⟨q0, q1, q2, q3⟩⟩ := HK.out _ S1.out.later
      obtain ⟨x0, x1, x2, x3⟩ := S1.out.box
      go_wp2_with fail
      refine (I1.out w1).mono ?_
      rintro e w2 ⟨⟨r, rfl, hr⟩, b⟩
      have S2 := Lib.hid (S1.out.on b)
      clear b
      clear p0 p1 p2 p3 q0 q1 q2 q3 x0 x1 x2 x3
      cases r with
      | false =>
        clear hr
        obtain ⟨⟨p0, p1, p2, p3⟩, ⟨q0, q1, q2, q3⟩⟩ := HK.out _ S2.out.later
        obtain ⟨x0, x1, x2, x3⟩ := S2.out.box
        go_wp2_with fail
        go_ret
        exact ⟨says_no rfl, S2.out.below⟩
      | true =>
        have R1 := Lib.hid (hr rfl)
        clear hr
        obtain ⟨⟨p0, p1, p2, p3⟩, ⟨q0, q1, q2, q3⟩⟩ := HK.out _ S2.out.later
        obtain ⟨x0, x1, x2, x3⟩ := S2.out.box
        go_wp2_with fail
        refine (I2.out w2 S2.out.later).mono ?_
        rintro e w3 ⟨⟨r, rfl, hr⟩, b⟩
        have S3 := Lib.hid (S2.out.on b)
        clear b
        clear p0 p1 p2 p3 q0 q1 q2 q3 x0 x1 x2 x3
        cases r with
        | false =>
          clear hr
          obtain ⟨⟨p0, p1, p2, p3⟩, ⟨q0, q1, q2, q3⟩⟩ := HK.out _ S3.out.later
          obtain ⟨x0, x1, x2, x3⟩ := S3.out.box
          go_wp2_with fail
          go_ret
          exact ⟨says_no rfl, S3.out.below⟩
        | true =>
          have R2 := Lib.hid (hr rfl)
          clear hr
          obtain ⟨⟨p0, p1, p2, p3⟩, ⟨q0, q1, q2, q3⟩⟩ := HK.out _ S3.out.later
          obtain ⟨x0, x1, x2, x3⟩ := S3.out.box
          go_wp2_with fail
          go_ret
          exact ⟨⟨_, rfl, fun _ => .arrayType (good_name R1.out) R2.out⟩, S3.out.below⟩
  · obtain ⟨a, c, rfl, _⟩ := hv.shut
    have HP := Lib.hid (fun W => plain_any W ⟨#[65, 114, 114, 97, 121, 84, 121, 112, 101]⟩ x n ks.length a c 2)
    have HS := Lib.hid hs
    have S0 := Lib.hid (St.start hw (.string ⟨#[65, 114, 114, 97, 121, 84, 121, 112, 101]⟩) (.string x) (.int .i64 n) (.slice a ks.length c))
    clear hv hs hw
    go_enter Tryz.func53, Tryz.ntmps53
    go_wp2_with fail
    refine (HP.out _).mono ?_
    rintro e w1 ⟨⟨r, rfl, hr⟩, b1⟩
    have S1 := Lib.hid (S0.out.on b1)
    cases r with
    | false =>
      clear hr b1
      go_wp2_with fail
      go_ret
      exact ⟨says_no rfl, S1.out.below⟩
    | true =>
      obtain ⟨h1, h2, h3⟩ := hr rfl
      exact absurd ⟨h1, h2, by omega⟩ HS.out

set_option maxRecDepth 100000 in
set_option maxHeartbeats 2000000 in
theorem ty_ptrMem (W0 : World) (x : ByteArray) (n : Int) (ks : List Tree) (hcl : ∀ p ∈ ks, Test W0 20 p (Good p)) (hme : ∀ p ∈ ks, Test W0 71 p (Good p)) : Test W0 53 (.node ⟨#[80, 116, 114, 77, 101, 109]⟩ x n ks) (Good (.node ⟨#[80, 116, 114, 77, 101, 109]⟩ x n ks)) := by
  intro v hv w hw
  by_cases hs : x = ⟨#[]⟩ ∧ n = 0 ∧ ks.length = 2
  · obtain ⟨rfl, rfl, hl⟩ := hs
    obtain ⟨p, q, rfl⟩ := two_kids hl
    obtain ⟨b, off, c, pa, pc, qa, qc, rfl, hc1, hc2, hkid, hp, hq⟩ := hv.two
    have HP := Lib.hid (fun W => plain_any W ⟨#[80, 116, 114, 77, 101, 109]⟩ ⟨#[]⟩ 0 2 (some ⟨b, off, none⟩) c 2)
    have HK := Lib.hid hkid
    have I1 := Lib.hid (hcl p (by simp) _ hp)
    have I2 := Lib.hid (hme q (by simp) _ hq)
    clear hcl hme
    have S0 := Lib.hid (St.start hw (.string ⟨#[80, 116, 114, 77, 101, 109]⟩) (.string ⟨#[]⟩) (.int .i64 0) (.slice (some ⟨b, off, none⟩) 2 c))
    clear hv hkid hp hq hl hw
    go_enter Tryz.func53, Tryz.ntmps53
    go_wp2_with fail
    refine (HP.out _).mono ?_
    rintro e w1 ⟨⟨r, rfl, hr⟩, b⟩
    have S1 := Lib.hid (S0.out.on b)
    clear b
    cases r with
    | false =>
      clear hr
      obtain ⟨⟨p0, p1, p2, p3⟩, ⟨q0, q1, q2, q3⟩⟩ := HK.out _ S1.out.later
      obtain ⟨x0, x1, x2, x3⟩ := S1.out.box
      go_wp2_with fail
      go_ret
      exact ⟨says_no rfl, S1.out.below⟩
    | true =>
      clear hr
      obtain ⟨⟨p0, p1, p2, p3⟩, ⟨q0, q1, q2, q3⟩⟩ := HK.out _ S1.out.later
      obtain ⟨x0, x1, x2, x3⟩ := S1.out.box
      go_wp2_with fail
      refine (I1.out w1 S1.out.later).mono ?_
      rintro e w2 ⟨⟨r, rfl, hr⟩, b⟩
      have S2 := Lib.hid (S1.out.on b)
      clear b
      clear p0 p1 p2 p3 q0 q1 q2 q3 x0 x1 x2 x3
      cases r with
      | false =>
        clear hr
        obtain ⟨⟨p0, p1, p2, p3⟩, ⟨q0, q1, q2, q3⟩⟩ := HK.out _ S2.out.later
        obtain ⟨x0, x1, x2, x3⟩ := S2.out.box
        go_wp2_with fail
        go_ret
        exact ⟨says_no rfl, S2.out.below⟩
      | true =>
        have R1 := Lib.hid (hr rfl)
        clear hr
        obtain ⟨⟨p0, p1, p2, p3⟩, ⟨q0, q1, q2, q3⟩⟩ := HK.out _ S2.out.later
        obtain ⟨x0, x1, x2, x3⟩ := S2.out.box
        go_wp2_with fail
        refine (I2.out w2 S2.out.later).mono ?_
        rintro e w3 ⟨⟨r, rfl, hr⟩, b⟩
        have S3 := Lib.hid (S2.out.on b)
        clear b
        clear p0 p1 p2 p3 q0 q1 q2 q3 x0 x1 x2 x3
        cases r with
        | false =>
          clear hr
          obtain ⟨⟨p0, p1, p2, p3⟩, ⟨q0, q1, q2, q3⟩⟩ := HK.out _ S3.out.later
          obtain ⟨x0, x1, x2, x3⟩ := S3.out.box
          go_wp2_with fail
          go_ret
          exact ⟨says_no rfl, S3.out.below⟩
        | true =>
          have R2 := Lib.hid (hr rfl)
          clear hr
          obtain ⟨⟨p0, p1, p2, p3⟩, ⟨q0, q1, q2, q3⟩⟩ := HK.out _ S3.out.later
          obtain ⟨x0, x1, x2, x3⟩ := S3.out.box
          go_wp2_with fail
          go_ret
          exact ⟨⟨_, rfl, fun _ => .ptrMem R1.out R2.out⟩, S3.out.below⟩
  · obtain ⟨a, c, rfl, _⟩ := hv.shut
    have HP := Lib.hid (fun W => plain_any W ⟨#[80, 116, 114, 77, 101, 109]⟩ x n ks.length a c 2)
    have HS := Lib.hid hs
    have S0 := Lib.hid (St.start hw (.string ⟨#[80, 116, 114, 77, 101, 109]⟩) (.string x) (.int .i64 n) (.slice a ks.length c))
    clear hv hs hw
    go_enter Tryz.func53, Tryz.ntmps53
    go_wp2_with fail
    refine (HP.out _).mono ?_
    rintro e w1 ⟨⟨r, rfl, hr⟩, b1⟩
    have S1 := Lib.hid (S0.out.on b1)
    cases r with
    | false =>
      clear hr b1
      go_wp2_with fail
      go_ret
      exact ⟨says_no rfl, S1.out.below⟩
    | true =>
      obtain ⟨h1, h2, h3⟩ := hr rfl
      exact absurd ⟨h1, h2, by omega⟩ HS.out

set_option maxRecDepth 100000 in
set_option maxHeartbeats 2000000 in
theorem ty_vector (W0 : World) (x : ByteArray) (n : Int) (ks : List Tree) (hob : ∀ p ∈ ks, Test W0 70 p (Good p)) : Test W0 53 (.node ⟨#[86, 101, 99, 116, 111, 114, 84, 121, 112, 101]⟩ x n ks) (Good (.node ⟨#[86, 101, 99, 116, 111, 114, 84, 121, 112, 101]⟩ x n ks)) := by
  intro v hv w hw
  by_cases hs : x = ⟨#[]⟩ ∧ n = 0 ∧ ks.length = 2
  · obtain ⟨rfl, rfl, hl⟩ := hs
    obtain ⟨p, q, rfl⟩ := two_kids hl
    obtain ⟨b, off, c, pa, pc, qa, qc, rfl, hc1, hc2, hkid, hp, hq⟩ := hv.two
    have HP := Lib.hid (fun W => plain_any W ⟨#[86, 101, 99, 116, 111, 114, 84, 121, 112, 101]⟩ ⟨#[]⟩ 0 2 (some ⟨b, off, none⟩) c 2)
    have I1 := Lib.hid (fun W => isNumber_any W p.kind p.text p.num p.kids.length pa pc)
    have I2 := Lib.hid (hob q (by simp) _ hq)
    clear hob
    have S0 := Lib.hid (St.start hw (.string ⟨#[86, 101, 99, 116, 111, 114, 84, 121, 112, 101]⟩) (.string ⟨#[]⟩) (.int .i64 0) (.slice (some ⟨b, off, none⟩) 2 c))
    clear hv hp hq hl hw
    obtain ⟨k2, x2, n2, l2⟩ := q
    have HK := Lib.hid (fun W hW => And.intro (hkid W hW).1 ((hkid W hW).2.fields rfl))
    clear hkid
    by_cases hk2 : k2 = ⟨#[66, 117, 105, 108, 116, 105, 110, 84, 121, 112, 101]⟩
    · subst hk2
      go_enter Tryz.func53, Tryz.ntmps53
      go_wp2_with fail
      refine (HP.out _).mono ?_
      rintro e w1 ⟨⟨r, rfl, hr⟩, b⟩
      have S1 := Lib.hid (S0.out.on b)
      clear b
      cases r with
      | false =>
        clear hr
        obtain ⟨⟨p0, p1, p2, p3⟩, ⟨q0, q1, q2, q3⟩⟩ := HK.out _ S1.out.later
        obtain ⟨x0, x1, x2, x3⟩ := S1.out.box
        go_wp2_with fail
        go_ret
        exact ⟨says_no rfl, S1.out.below⟩
      | true =>
        clear hr
        obtain ⟨⟨p0, p1, p2, p3⟩, ⟨q0, q1, q2, q3⟩⟩ := HK.out _ S1.out.later
        obtain ⟨x0, x1, x2, x3⟩ := S1.out.box
        go_wp2_with fail
        refine (I1.out w1).mono ?_
        rintro e w2 ⟨⟨r, rfl, hr⟩, b⟩
        have S2 := Lib.hid (S1.out.on b)
        clear b
        clear p0 p1 p2 p3 q0 q1 q2 q3 x0 x1 x2 x3
        cases r with
        | false =>
          clear hr
          obtain ⟨⟨p0, p1, p2, p3⟩, ⟨q0, q1, q2, q3⟩⟩ := HK.out _ S2.out.later
          obtain ⟨x0, x1, x2, x3⟩ := S2.out.box
          go_wp2_with fail
          go_ret
          exact ⟨says_no rfl, S2.out.below⟩
        | true =>
          have R1 := Lib.hid (hr rfl)
          clear hr
          obtain ⟨⟨p0, p1, p2, p3⟩, ⟨q0, q1, q2, q3⟩⟩ := HK.out _ S2.out.later
          obtain ⟨x0, x1, x2, x3⟩ := S2.out.box
          go_wp2_with fail
          refine (I2.out w2 S2.out.later).mono ?_
          rintro e w3 ⟨⟨r, rfl, hr⟩, b⟩
          have S3 := Lib.hid (S2.out.on b)
          clear b
          clear p0 p1 p2 p3 q0 q1 q2 q3 x0 x1 x2 x3
          cases r with
          | false =>
            clear hr
            obtain ⟨⟨p0, p1, p2, p3⟩, ⟨q0, q1, q2, q3⟩⟩ := HK.out _ S3.out.later
            obtain ⟨x0, x1, x2, x3⟩ := S3.out.box
            go_wp2_with fail
            go_ret
            exact ⟨says_no rfl, S3.out.below⟩
          | true =>
            have R2 := Lib.hid (hr rfl)
            clear hr
            obtain ⟨⟨p0, p1, p2, p3⟩, ⟨q0, q1, q2, q3⟩⟩ := HK.out _ S3.out.later
            obtain ⟨x0, x1, x2, x3⟩ := S3.out.box
            go_wp2_with fail
            go_ret
            exact ⟨⟨_, rfl, fun _ => .vectorType (good_name R1.out) R2.out⟩, S3.out.below⟩
    · have hk2' : (k2.toList == [66, 117, 105, 108, 116, 105, 110, 84, 121, 112, 101]) = false := ne_of hk2
      go_enter Tryz.func53, Tryz.ntmps53
      go_wp2_with fail
      refine (HP.out _).mono ?_
      rintro e w1 ⟨⟨r, rfl, hr⟩, b⟩
      have S1 := Lib.hid (S0.out.on b)
      clear b
      cases r with
      | false =>
        clear hr
        obtain ⟨⟨p0, p1, p2, p3⟩, ⟨q0, q1, q2, q3⟩⟩ := HK.out _ S1.out.later
        obtain ⟨x0, x1, x2, x3⟩ := S1.out.box
        go_wp2_with fail
        go_ret
        exact ⟨says_no rfl, S1.out.below⟩
      | true =>
        clear hr
        obtain ⟨⟨p0, p1, p2, p3⟩, ⟨q0, q1, q2, q3⟩⟩ := HK.out _ S1.out.later
        obtain ⟨x0, x1, x2, x3⟩ := S1.out.box
        go_wp2_with fail
        refine (I1.out w1).mono ?_
        rintro e w2 ⟨⟨r, rfl, hr⟩, b⟩
        have S2 := Lib.hid (S1.out.on b)
        clear b
        clear p0 p1 p2 p3 q0 q1 q2 q3 x0 x1 x2 x3
        cases r with
        | false =>
          clear hr
          obtain ⟨⟨p0, p1, p2, p3⟩, ⟨q0, q1, q2, q3⟩⟩ := HK.out _ S2.out.later
          obtain ⟨x0, x1, x2, x3⟩ := S2.out.box
          go_wp2_with fail
          go_ret
          exact ⟨says_no rfl, S2.out.below⟩
        | true =>
          have R1 := Lib.hid (hr rfl)
          clear hr
          obtain ⟨⟨p0, p1, p2, p3⟩, ⟨q0, q1, q2, q3⟩⟩ := HK.out _ S2.out.later
          obtain ⟨x0, x1, x2, x3⟩ := S2.out.box
          go_wp2_with fail
          go_ret
          exact ⟨says_no rfl, S2.out.below⟩
  · obtain ⟨a, c, rfl, _⟩ := hv.shut
    have HP := Lib.hid (fun W => plain_any W ⟨#[86, 101, 99, 116, 111, 114, 84, 121, 112, 101]⟩ x n ks.length a c 2)
    have HS := Lib.hid hs
    have S0 := Lib.hid (St.start hw (.string ⟨#[86, 101, 99, 116, 111, 114, 84, 121, 112, 101]⟩) (.string x) (.int .i64 n) (.slice a ks.length c))
    clear hv hs hw
    go_enter Tryz.func53, Tryz.ntmps53
    go_wp2_with fail
    refine (HP.out _).mono ?_
    rintro e w1 ⟨⟨r, rfl, hr⟩, b1⟩
    have S1 := Lib.hid (S0.out.on b1)
    cases r with
    | false =>
      clear hr b1
      go_wp2_with fail
      go_ret
      exact ⟨says_no rfl, S1.out.below⟩
    | true =>
      obtain ⟨h1, h2, h3⟩ := hr rfl
      exact absurd ⟨h1, h2, by omega⟩ HS.out

set_option maxRecDepth 100000 in
set_option maxHeartbeats 2000000 in
theorem ty_vendor (W0 : World) (x : ByteArray) (n : Int) (ks : List Tree) (hob : ∀ p ∈ ks, Test W0 70 p (Good p)) (hcl : ∀ p ∈ ks, Test W0 20 p (Good p)) : Test W0 53 (.node ⟨#[86, 101, 110, 100, 111, 114, 81, 117, 97, 108, 105, 102, 105, 101, 114]⟩ x n ks) (Good (.node ⟨#[86, 101, 110, 100, 111, 114, 81, 117, 97, 108, 105, 102, 105, 101, 114]⟩ x n ks)) := by
  intro v hv w hw
  by_cases hs : x = ⟨#[]⟩ ∧ n = 0 ∧ ks.length = 2
  · obtain ⟨rfl, rfl, hl⟩ := hs
    obtain ⟨p, q, rfl⟩ := two_kids hl
    obtain ⟨b, off, c, pa, pc, qa, qc, rfl, hc1, hc2, hkid, hp, hq⟩ := hv.two
    have HP := Lib.hid (fun W => plain_any W ⟨#[86, 101, 110, 100, 111, 114, 81, 117, 97, 108, 105, 102, 105, 101, 114]⟩ ⟨#[]⟩ 0 2 (some ⟨b, off, none⟩) c 2)
    have I1 := Lib.hid (fun W => isName_any W p.kind p.text p.num p.kids.length pa pc)
    have I2 := Lib.hid (hob q (by simp) _ hq)
    have I3 := Lib.hid (hcl q (by simp) _ hq)
    clear hob hcl
    have S0 := Lib.hid (St.start hw (.string ⟨#[86, 101, 110, 100, 111, 114, 81, 117, 97, 108, 105, 102, 105, 101, 114]⟩) (.string ⟨#[]⟩) (.int .i64 0) (.slice (some ⟨b, off, none⟩) 2 c))
    clear hv hp hq hl hw
    obtain ⟨k2, x2, n2, l2⟩ := q
    have HK := Lib.hid (fun W hW => And.intro (hkid W hW).1 ((hkid W hW).2.fields rfl))
    clear hkid
    by_cases hk2 : k2 = ⟨#[66, 117, 105, 108, 116, 105, 110, 84, 121, 112, 101]⟩
    · subst hk2
      go_enter Tryz.func53, Tryz.ntmps53
      go_wp2_with fail
      refine (HP.out _).mono ?_
      rintro e w1 ⟨⟨r, rfl, hr⟩, b⟩
      have S1 := Lib.hid (S0.out.on b)
      clear b
      cases r with
      | false =>
        clear hr
        obtain ⟨⟨p0, p1, p2, p3⟩, ⟨q0, q1, q2, q3⟩⟩ := HK.out _ S1.out.later
        obtain ⟨x0, x1, x2, x3⟩ := S1.out.box
        go_wp2_with fail
        go_ret
        exact ⟨says_no rfl, S1.out.below⟩
      | true =>
        clear hr
        obtain ⟨⟨p0, p1, p2, p3⟩, ⟨q0, q1, q2, q3⟩⟩ := HK.out _ S1.out.later
        obtain ⟨x0, x1, x2, x3⟩ := S1.out.box
        go_wp2_with fail
        refine (I1.out w1).mono ?_
        rintro e w2 ⟨⟨r, rfl, hr⟩, b⟩
        have S2 := Lib.hid (S1.out.on b)
        clear b
        clear p0 p1 p2 p3 q0 q1 q2 q3 x0 x1 x2 x3
        cases r with
        | false =>
          clear hr
          obtain ⟨⟨p0, p1, p2, p3⟩, ⟨q0, q1, q2, q3⟩⟩ := HK.out _ S2.out.later
          obtain ⟨x0, x1, x2, x3⟩ := S2.out.box
          go_wp2_with fail
          go_ret
          exact ⟨says_no rfl, S2.out.below⟩
        | true =>
          have R1 := Lib.hid (hr rfl)
          clear hr
          obtain ⟨⟨p0, p1, p2, p3⟩, ⟨q0, q1, q2, q3⟩⟩ := HK.out _ S2.out.later
          obtain ⟨x0, x1, x2, x3⟩ := S2.out.box
          go_wp2_with fail
          refine (I2.out w2 S2.out.later).mono ?_
          rintro e w3 ⟨⟨r, rfl, hr⟩, b⟩
          have S3 := Lib.hid (S2.out.on b)
          clear b
          clear p0 p1 p2 p3 q0 q1 q2 q3 x0 x1 x2 x3
          cases r with
          | false =>
            clear hr
            obtain ⟨⟨p0, p1, p2, p3⟩, ⟨q0, q1, q2, q3⟩⟩ := HK.out _ S3.out.later
            obtain ⟨x0, x1, x2, x3⟩ := S3.out.box
            go_wp2_with fail
            refine (I3.out w3 S3.out.later).mono ?_
            rintro e w4 ⟨⟨r, rfl, hr⟩, b⟩
            have S4 := Lib.hid (S3.out.on b)
            clear b
            clear p0 p1 p2 p3 q0 q1 q2 q3 x0 x1 x2 x3
            cases r with
            | false =>
              clear hr
              obtain ⟨⟨p0, p1, p2, p3⟩, ⟨q0, q1, q2, q3⟩⟩ := HK.out _ S4.out.later
              obtain ⟨x0, x1, x2, x3⟩ := S4.out.box
              go_wp2_with fail
              go_ret
              exact ⟨says_no rfl, S4.out.below⟩
            | true =>
              have R3 := Lib.hid (hr rfl)
              clear hr
              obtain ⟨⟨p0, p1, p2, p3⟩, ⟨q0, q1, q2, q3⟩⟩ := HK.out _ S4.out.later
              obtain ⟨x0, x1, x2, x3⟩ := S4.out.box
              go_wp2_with fail
              go_ret
              exact ⟨⟨_, rfl, fun _ => .vendorQualifier (good_name R1.out) R3.out⟩, S4.out.below⟩
          | true =>
            have R2 := Lib.hid (hr rfl)
            clear hr
            obtain ⟨⟨p0, p1, p2, p3⟩, ⟨q0, q1, q2, q3⟩⟩ := HK.out _ S3.out.later
            obtain ⟨x0, x1, x2, x3⟩ := S3.out.box
            go_wp2_with fail
            go_ret
            exact ⟨⟨_, rfl, fun _ => .vendorQualifier (good_name R1.out) R2.out⟩, S3.out.below⟩
    · have hk2' : (k2.toList == [66, 117, 105, 108, 116, 105, 110, 84, 121, 112, 101]) = false := ne_of hk2
      go_enter Tryz.func53, Tryz.ntmps53
      go_wp2_with fail
      refine (HP.out _).mono ?_
      rintro e w1 ⟨⟨r, rfl, hr⟩, b⟩
      have S1 := Lib.hid (S0.out.on b)
      clear b
      cases r with
      | false =>
        clear hr
        obtain ⟨⟨p0, p1, p2, p3⟩, ⟨q0, q1, q2, q3⟩⟩ := HK.out _ S1.out.later
        obtain ⟨x0, x1, x2, x3⟩ := S1.out.box
        go_wp2_with fail
        go_ret
        exact ⟨says_no rfl, S1.out.below⟩
      | true =>
        clear hr
        obtain ⟨⟨p0, p1, p2, p3⟩, ⟨q0, q1, q2, q3⟩⟩ := HK.out _ S1.out.later
        obtain ⟨x0, x1, x2, x3⟩ := S1.out.box
        go_wp2_with fail
        refine (I1.out w1).mono ?_
        rintro e w2 ⟨⟨r, rfl, hr⟩, b⟩
        have S2 := Lib.hid (S1.out.on b)
        clear b
        clear p0 p1 p2 p3 q0 q1 q2 q3 x0 x1 x2 x3
        cases r with
        | false =>
          clear hr
          obtain ⟨⟨p0, p1, p2, p3⟩, ⟨q0, q1, q2, q3⟩⟩ := HK.out _ S2.out.later
          obtain ⟨x0, x1, x2, x3⟩ := S2.out.box
          go_wp2_with fail
          go_ret
          exact ⟨says_no rfl, S2.out.below⟩
        | true =>
          have R1 := Lib.hid (hr rfl)
          clear hr
          obtain ⟨⟨p0, p1, p2, p3⟩, ⟨q0, q1, q2, q3⟩⟩ := HK.out _ S2.out.later
          obtain ⟨x0, x1, x2, x3⟩ := S2.out.box
          go_wp2_with fail
          refine (I3.out w2 S2.out.later).mono ?_
          rintro e w3 ⟨⟨r, rfl, hr⟩, b⟩
          have S3 := Lib.hid (S2.out.on b)
          clear b
          clear p0 p1 p2 p3 q0 q1 q2 q3 x0 x1 x2 x3
          cases r with
          | false =>
            clear hr
            obtain ⟨⟨p0, p1, p2, p3⟩, ⟨q0, q1, q2, q3⟩⟩ := HK.out _ S3.out.later
            obtain ⟨x0, x1, x2, x3⟩ := S3.out.box
            go_wp2_with fail
            go_ret
            exact ⟨says_no rfl, S3.out.below⟩
          | true =>
            have R3 := Lib.hid (hr rfl)
            clear hr
            obtain ⟨⟨p0, p1, p2, p3⟩, ⟨q0, q1, q2, q3⟩⟩ := HK.out _ S3.out.later
            obtain ⟨x0, x1, x2, x3⟩ := S3.out.box
            go_wp2_with fail
            go_ret
            exact ⟨⟨_, rfl, fun _ => .vendorQualifier (good_name R1.out) R3.out⟩, S3.out.below⟩
  · obtain ⟨a, c, rfl, _⟩ := hv.shut
    have HP := Lib.hid (fun W => plain_any W ⟨#[86, 101, 110, 100, 111, 114, 81, 117, 97, 108, 105, 102, 105, 101, 114]⟩ x n ks.length a c 2)
    have HS := Lib.hid hs
    have S0 := Lib.hid (St.start hw (.string ⟨#[86, 101, 110, 100, 111, 114, 81, 117, 97, 108, 105, 102, 105, 101, 114]⟩) (.string x) (.int .i64 n) (.slice a ks.length c))
    clear hv hs hw
    go_enter Tryz.func53, Tryz.ntmps53
    go_wp2_with fail
    refine (HP.out _).mono ?_
    rintro e w1 ⟨⟨r, rfl, hr⟩, b1⟩
    have S1 := Lib.hid (S0.out.on b1)
    cases r with
    | false =>
      clear hr b1
      go_wp2_with fail
      go_ret
      exact ⟨says_no rfl, S1.out.below⟩
    | true =>
      obtain ⟨h1, h2, h3⟩ := hr rfl
      exact absurd ⟨h1, h2, by omega⟩ HS.out

end Go.Proofs.YtnhccgbkalpcnaaGreatDoor
