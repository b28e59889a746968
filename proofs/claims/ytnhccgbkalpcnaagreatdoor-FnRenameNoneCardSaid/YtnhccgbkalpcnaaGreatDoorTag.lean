/- isTagged, and the small tests. -/
import Derived.Test.YtnhccgbkalpcnaaGreatDoorGood
namespace Go.Proofs.YtnhccgbkalpcnaaGreatDoor
open Go.RowKit

set_option maxHeartbeats 1000000 in
theorem isStd_any (W0 : World) (t : Tree) : Test W0 40 t True := by
  intro v hv w _
  obtain ⟨k, x, n, ks⟩ := t
  obtain ⟨a, c, rfl, _⟩ := hv.shut
  go_enter Tryz.func40, Tryz.ntmps40
  go_wp2_with fail
  all_goals go_ret
  all_goals exact ⟨says_any rfl, box_below _ _⟩

set_option maxHeartbeats 1000000 in
theorem isVoid_any (W0 : World) (t : Tree) : Test W0 65 t True := by
  intro v hv w _
  obtain ⟨k, x, n, ks⟩ := t
  obtain ⟨a, c, rfl, _⟩ := hv.shut
  go_enter Tryz.func65, Tryz.ntmps65
  go_wp2_with fail
  all_goals go_ret
  all_goals exact ⟨says_any rfl, box_below _ _⟩

set_option maxHeartbeats 1000000 in
theorem isReference_any (W0 : World) (t : Tree) : Test W0 63 t True := by
  intro v hv w _
  obtain ⟨k, x, n, ks⟩ := t
  obtain ⟨a, c, rfl, _⟩ := hv.shut
  go_enter Tryz.func63, Tryz.ntmps63
  go_wp2_with fail
  all_goals go_ret
  all_goals exact ⟨says_any rfl, box_below _ _⟩

set_option maxRecDepth 100000 in
set_option maxHeartbeats 2000000 in
theorem isTagged_any (W0 : World) (t : Tree) : Test W0 37 t (Good t) := by
  induction hn : t.sz using Nat.strongRecOn generalizing t with
  | ind m ih =>
  intro v hv w hw
  obtain ⟨k, x, n, ks⟩ := t
  by_cases hk : k = ⟨#[84, 97, 103, 103, 101, 100, 78, 97, 109, 101]⟩
  · subst hk
    by_cases hs : x = ⟨#[]⟩ ∧ n = 0 ∧ ks.length = 2
    · obtain ⟨rfl, rfl, hl⟩ := hs
      obtain ⟨p, q, rfl⟩ := two_kids hl
      obtain ⟨b, off, c, pa, pc, qa, qc, rfl, hc1, hc2, hkid, hp, hq⟩ := hv.two
      have HP := Lib.hid (fun W => plain_any W ⟨#[84, 97, 103, 103, 101, 100, 78, 97, 109, 101]⟩ ⟨#[]⟩ 0 2 (some ⟨b, off, none⟩) c 2)
      have HK := Lib.hid hkid
      have I1 := Lib.hid (ih p.sz (by rw [← hn]; exact sz_two.1) p rfl _ hp)
      have I2 := Lib.hid (fun W => isName_any W q.kind q.text q.num q.kids.length qa qc)
      clear ih hn
      have S0 := Lib.hid (St.start hw (.string ⟨#[84, 97, 103, 103, 101, 100, 78, 97, 109, 101]⟩) (.string ⟨#[]⟩) (.int .i64 0) (.slice (some ⟨b, off, none⟩) 2 c))
      clear hv hkid hp hq hl hw
      go_enter Tryz.func37, Tryz.ntmps37
      go_wp2_with fail
      refine (HP.out _).mono ?_
      rintro e w1 ⟨⟨r, rfl, hr⟩, b⟩
      have S1 := Lib.hid (S0.out.on b)
      clear b
      cases r with
      | false =>
        clear hr
        obtain ⟨⟨p0, p1, p2, p3⟩, ⟨q0, q1, q2, q3⟩⟩ := HK.out _ S1.out.later
        obtain ⟨x0, x1, x2, x3⟩ := S1.out.box
        go_wp2_with fail
        go_ret
        exact ⟨says_no rfl, S1.out.below⟩
      | true =>
        clear hr
        obtain ⟨⟨p0, p1, p2, p3⟩, ⟨q0, q1, q2, q3⟩⟩ := HK.out _ S1.out.later
        obtain ⟨x0, x1, x2, x3⟩ := S1.out.box
        go_wp2_with fail
        refine (I1.out w1 S1.out.later).mono ?_
        rintro e w2 ⟨⟨r, rfl, hr⟩, b⟩
        have S2 := Lib.hid (S1.out.on b)
        clear b
        clear p0 p1 p2 p3 q0 q1 q2 q3 x0 x1 x2 x3
        cases r with
        | false =>
          clear hr
          obtain ⟨⟨p0, p1, p2, p3⟩, ⟨q0, q1, q2, q3⟩⟩ := HK.out _ S2.out.later
          obtain ⟨x0, x1, x2, x3⟩ := S2.out.box
          go_wp2_with fail
          go_ret
          exact ⟨says_no rfl, S2.out.below⟩
        | true =>
          have R1 := Lib.hid (hr rfl)
          clear hr
          obtain ⟨⟨p0, p1, p2, p3⟩, ⟨q0, q1, q2, q3⟩⟩ := HK.out _ S2.out.later
          obtain ⟨x0, x1, x2, x3⟩ := S2.out.box
          go_wp2_with fail
          refine (I2.out w2).mono ?_
          rintro e w3 ⟨⟨r, rfl, hr⟩, b⟩
          have S3 := Lib.hid (S2.out.on b)
          clear b
          clear p0 p1 p2 p3 q0 q1 q2 q3 x0 x1 x2 x3
          cases r with
          | false =>
            clear hr
            obtain ⟨⟨p0, p1, p2, p3⟩, ⟨q0, q1, q2, q3⟩⟩ := HK.out _ S3.out.later
            obtain ⟨x0, x1, x2, x3⟩ := S3.out.box
            go_wp2_with fail
            go_ret
            exact ⟨says_no rfl, S3.out.below⟩
          | true =>
            have R2 := Lib.hid (hr rfl)
            clear hr
            obtain ⟨⟨p0, p1, p2, p3⟩, ⟨q0, q1, q2, q3⟩⟩ := HK.out _ S3.out.later
            obtain ⟨x0, x1, x2, x3⟩ := S3.out.box
            go_wp2_with fail
            go_ret
            exact ⟨⟨_, rfl, fun _ => Good.taggedName R1.out (good_name R2.out)⟩, S3.out.below⟩
    · obtain ⟨a, c, rfl, _⟩ := hv.shut
      have HP := Lib.hid (fun W => plain_any W ⟨#[84, 97, 103, 103, 101, 100, 78, 97, 109, 101]⟩ x n ks.length a c 2)
      have HS := Lib.hid hs
      have S0 := Lib.hid (St.start hw (.string ⟨#[84, 97, 103, 103, 101, 100, 78, 97, 109, 101]⟩) (.string x) (.int .i64 n) (.slice a ks.length c))
      clear hv hs hw
      go_enter Tryz.func37, Tryz.ntmps37
      go_wp2_with fail
      refine (HP.out _).mono ?_
      rintro e w1 ⟨⟨r, rfl, hr⟩, b1⟩
      have S1 := Lib.hid (S0.out.on b1)
      cases r with
      | false =>
        clear hr b1
        go_wp2_with fail
        go_ret
        exact ⟨says_no rfl, S1.out.below⟩
      | true =>
        obtain ⟨h1, h2, h3⟩ := hr rfl
        exact absurd ⟨h1, h2, by omega⟩ HS.out
  · have hne : (k.toList == [84, 97, 103, 103, 101, 100, 78, 97, 109, 101]) = false := ne_of hk
    obtain ⟨a, c, rfl, _⟩ := hv.shut
    have I2 := Lib.hid (fun W => isName_any W k x n ks.length a c)
    clear hv ih
    go_enter Tryz.func37, Tryz.ntmps37
    go_wp2_with fail
    refine (I2.out _).mono ?_
    rintro e w1 ⟨⟨r, rfl, hr⟩, b1⟩
    have X := Lib.hid (And.intro hr ((box_below w _).trans (b1.mono (by simp))))
    clear hr b1
    go_wp2_with fail
    go_ret
    exact ⟨⟨r, rfl, fun h => good_name (t := .node k x n ks) (X.out.1 h)⟩, X.out.2⟩

end Go.Proofs.YtnhccgbkalpcnaaGreatDoor
