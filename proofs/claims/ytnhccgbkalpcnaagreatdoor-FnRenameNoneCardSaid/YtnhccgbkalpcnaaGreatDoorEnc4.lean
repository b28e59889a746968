/- Functions, methods, encodings: the tests themselves. -/
import Derived.Test.YtnhccgbkalpcnaaGreatDoorEnc3
namespace Go.Proofs.YtnhccgbkalpcnaaGreatDoor
open Go.RowKit

set_option maxRecDepth 100000 in
set_option maxHeartbeats 4000000 in
theorem IsFunction_ok (W0 : World) (t : Tree) (hfn : ∀ p, Test W0 30 p (Good p)) (hre : ∀ p, Test W0 33 p (Good p)) (hty : ∀ p, Test W0 53 p (Good p)) (hm : ∀ p, Test W0 51 p (Good p)) : Test W0 18 t (FunP t) := by
  intro v hv w hw
  obtain ⟨k, x, n, ks⟩ := t
  by_cases hk : k = ⟨#[84, 121, 112, 101, 100]⟩
  · subst hk
    by_cases hs : x = ⟨#[]⟩ ∧ n = 0 ∧ (ks.length : Int) = 2
    · obtain ⟨rfl, rfl, hl⟩ := hs
      obtain ⟨p, q, rfl⟩ := two_kids (ks := ks) (by omega)
      obtain ⟨b, off, c, pa, pc, qa, qc, rfl, hc1, hc2, hkid, hp, hq⟩ := hv.two
      have HP := Lib.hid (fun W => plain_two W ⟨#[84, 121, 112, 101, 100]⟩ (some ⟨b, off, none⟩) c)
      have HK := Lib.hid hkid
      have I1 := Lib.hid (hfn p _ hp)
      clear HK hfn
      have S0 := Lib.hid (St.start hw (.string ⟨#[84, 121, 112, 101, 100]⟩) (.string ⟨#[]⟩) (.int .i64 0) (.slice (some ⟨b, off, none⟩) 2 c))
      obtain ⟨k2, x2, n2, l2⟩ := q
      have HK := Lib.hid (fun W hW => And.intro (hkid W hW).1 ((hkid W hW).2.fields rfl))
      have IR := Lib.hid (fun (hg : Good p) W hW => returns_any W0 p hg hm _ hp W hW)
      clear hkid hv hp hl hw
      by_cases hk2 : k2 = ⟨#[70, 117, 110, 99, 116, 105, 111, 110, 84, 121, 112, 101]⟩
      · subst hk2
        by_cases hx2 : x2 = ⟨#[]⟩
        · subst hx2
          by_cases hn2 : n2 = 0
          · subst hn2
            obtain ⟨sv, esv, hl⟩ := hq.kids
            simp only [val, Tree.kind, Tree.text, Tree.num, Tree.kids, Value.agg.injEq, Array.mk.injEq, List.cons.injEq, and_true, true_and] at esv
            subst esv
            match l2, hl, HK with
            | [], hl, HK =>
              clear hl hq
              simp only [List.length_nil] at HK
              go_enter Tryz.func18, Tryz.ntmps18
              go_wp2_with fail
              refine (HP.out _).mono ?_
              rintro e w1 ⟨rfl, b⟩
              have S1 := Lib.hid (S0.out.on b)
              clear b
              obtain ⟨⟨p0, p1, p2, p3⟩, ⟨q0, q1, q2, q3⟩⟩ := HK.out _ S1.out.later
              obtain ⟨bx0, bx1, bx2, bx3⟩ := S1.out.box
              go_wp2_with fail
              refine (I1.out _ S1.out.later).mono ?_
              rintro e w2 ⟨⟨r, rfl, hr⟩, b⟩
              have S2 := Lib.hid (S1.out.on b)
              clear b
              try clear p0 p1 p2 p3 q0 q1 q2 q3 bx0 bx1 bx2 bx3
              cases r with
              | false =>
                clear hr
                obtain ⟨⟨p0, p1, p2, p3⟩, ⟨q0, q1, q2, q3⟩⟩ := HK.out _ S2.out.later
                obtain ⟨bx0, bx1, bx2, bx3⟩ := S2.out.box
                go_wp2_with fail
                go_ret
                exact ⟨says_no rfl, S2.out.below⟩
              | true =>
                have R1 := Lib.hid (hr rfl)
                clear hr
                obtain ⟨⟨p0, p1, p2, p3⟩, ⟨q0, q1, q2, q3⟩⟩ := HK.out _ S2.out.later
                obtain ⟨bx0, bx1, bx2, bx3⟩ := S2.out.box
                have S3 := Lib.hid (S2.out.on (box_below w2 (.cells #[.string ⟨#[70, 117, 110, 99, 116, 105, 111, 110, 84, 121, 112, 101]⟩, .string ⟨#[]⟩, .int .i64 0, .slice qa 0 qc] 24)))
                have B3 := Lib.hid (Below.refl (w2.heap.size + 1) (w2.alloc (.cells #[.string ⟨#[70, 117, 110, 99, 116, 105, 111, 110, 84, 121, 112, 101]⟩, .string ⟨#[]⟩, .int .i64 0, .slice qa 0 qc] 24)))
                go_wp2_with fail
                go_ret
                exact ⟨says_no rfl, S3.out.below⟩
            | r :: l, hl, HK =>
              obtain ⟨b2, off2, c2, za, zc, e2, hd1, hd2, hkid2, hz⟩ := hl.first
              simp only [Value.slice.injEq, true_and, List.length_cons] at e2
              obtain ⟨rfl, rfl⟩ := e2
              obtain ⟨_, _, e, _, ht, _⟩ := AtL.tail hl
              simp only [Option.some.injEq, Addr.mk.injEq, and_true] at e
              obtain ⟨rfl, rfl⟩ := e
              have HZ := Lib.hid hkid2
              have J1 := Lib.hid (hre r _ hz)
              have J2 := Lib.hid (turned_any W0 r _ hz)
              have JN := Lib.hid (fun W hW => same_says W0 r _ hz W hW)
              simp only [List.length_cons] at HK
              have hd0 : decide ((0 : Int) < (l.length : Int) + 1) = true := decide_eq_true (by omega)
              have hd3 : (((l.length : Int) + 1) == 0) = false := beq_eq_false_iff_ne.2 (by omega)
              by_cases hcc : qc = 1
              · subst hcc
                obtain rfl : l = [] := List.eq_nil_of_length_eq_zero (by omega)
                have IP := Lib.hid (areParams_step W0 [] (fun t h => by cases h) (.slice (some ⟨b2, off2, none⟩) 0 0) ⟨_, _, rfl, by simp, by omega, .inl rfl⟩)
                simp only [List.length_nil, Nat.zero_add] at *
                clear hl hkid2 hz ht hq hre hty hm
                go_enter Tryz.func18, Tryz.ntmps18
                go_wp2_with fail
                refine (HP.out _).mono ?_
                rintro e w1 ⟨rfl, b⟩
                have S1 := Lib.hid (S0.out.on b)
                clear b
                obtain ⟨⟨p0, p1, p2, p3⟩, ⟨q0, q1, q2, q3⟩⟩ := HK.out _ S1.out.later
                obtain ⟨bx0, bx1, bx2, bx3⟩ := S1.out.box
                go_wp2_with fail
                refine (I1.out _ S1.out.later).mono ?_
                rintro e w2 ⟨⟨r, rfl, hr⟩, b⟩
                have S2 := Lib.hid (S1.out.on b)
                clear b
                try clear p0 p1 p2 p3 q0 q1 q2 q3 bx0 bx1 bx2 bx3
                cases r with
                | false =>
                  clear hr
                  obtain ⟨⟨p0, p1, p2, p3⟩, ⟨q0, q1, q2, q3⟩⟩ := HK.out _ S2.out.later
                  obtain ⟨bx0, bx1, bx2, bx3⟩ := S2.out.box
                  go_wp2_with fail
                  go_ret
                  exact ⟨says_no rfl, S2.out.below⟩
                | true =>
                  have R1 := Lib.hid (hr rfl)
                  clear hr
                  obtain ⟨⟨p0, p1, p2, p3⟩, ⟨q0, q1, q2, q3⟩⟩ := HK.out _ S2.out.later
                  obtain ⟨bx0, bx1, bx2, bx3⟩ := S2.out.box
                  have S3 := Lib.hid (S2.out.on (box_below w2 (.cells #[.string ⟨#[70, 117, 110, 99, 116, 105, 111, 110, 84, 121, 112, 101]⟩, .string ⟨#[]⟩, .int .i64 0, .slice (some ⟨b2, off2, none⟩) 1 1] 24)))
                  have B3 := Lib.hid (Below.refl (w2.heap.size + 1) (w2.alloc (.cells #[.string ⟨#[70, 117, 110, 99, 116, 105, 111, 110, 84, 121, 112, 101]⟩, .string ⟨#[]⟩, .int .i64 0, .slice (some ⟨b2, off2, none⟩) 1 1] 24)))
                  go_wp2_with fail
                  refine (IP.out _ S3.out.later).mono ?_
                  rintro e w4 ⟨⟨r, rfl, hr⟩, b⟩
                  have S4 := Lib.hid (S3.out.on b)
                  have B4 := Lib.hid (bx_on B3.out b)
                  clear b
                  try clear y0 y1 y2 y3 z0 z1 z2 z3 p0 p1 p2 p3 q0 q1 q2 q3 bx0 bx1 bx2 bx3
                  cases r with
                  | false =>
                    clear hr
                    obtain ⟨y0, y1, y2, y3⟩ := box_at B4.out
                    obtain ⟨z0, z1, z2, z3⟩ := HZ.out _ S4.out.later
                    obtain ⟨⟨p0, p1, p2, p3⟩, ⟨q0, q1, q2, q3⟩⟩ := HK.out _ S4.out.later
                    obtain ⟨bx0, bx1, bx2, bx3⟩ := S4.out.box
                    go_wp2_with fail
                    go_ret
                    exact ⟨says_no rfl, S4.out.below⟩
                  | true =>
                    have R2 := Lib.hid (hr rfl)
                    clear hr
                    obtain ⟨y0, y1, y2, y3⟩ := box_at B4.out
                    obtain ⟨z0, z1, z2, z3⟩ := HZ.out _ S4.out.later
                    obtain ⟨⟨p0, p1, p2, p3⟩, ⟨q0, q1, q2, q3⟩⟩ := HK.out _ S4.out.later
                    obtain ⟨bx0, bx1, bx2, bx3⟩ := S4.out.box
                    go_wp2_with fail
                    refine (IR.out R1.out _ S4.out.later).mono ?_
                    rintro e w5 ⟨⟨r', rfl, _⟩, b⟩
                    have S5 := Lib.hid (S4.out.on b)
                    have B5 := Lib.hid (bx_on B4.out b)
                    clear b
                    try clear y0 y1 y2 y3 z0 z1 z2 z3 p0 p1 p2 p3 q0 q1 q2 q3 bx0 bx1 bx2 bx3
                    cases r' with
                    | true =>
                      obtain ⟨y0, y1, y2, y3⟩ := box_at B5.out
                      obtain ⟨z0, z1, z2, z3⟩ := HZ.out _ S5.out.later
                      obtain ⟨⟨p0, p1, p2, p3⟩, ⟨q0, q1, q2, q3⟩⟩ := HK.out _ S5.out.later
                      obtain ⟨bx0, bx1, bx2, bx3⟩ := S5.out.box
                      go_wp2_with fail
                      refine (J1.out _ S5.out.later).mono ?_
                      rintro e w6 ⟨⟨r, rfl, hr⟩, b⟩
                      have S6 := Lib.hid (S5.out.on b)
                      have B6 := Lib.hid (bx_on B5.out b)
                      clear b
                      try clear y0 y1 y2 y3 z0 z1 z2 z3 p0 p1 p2 p3 q0 q1 q2 q3 bx0 bx1 bx2 bx3
                      cases r with
                      | false =>
                        clear hr
                        obtain ⟨y0, y1, y2, y3⟩ := box_at B6.out
                        obtain ⟨z0, z1, z2, z3⟩ := HZ.out _ S6.out.later
                        obtain ⟨⟨p0, p1, p2, p3⟩, ⟨q0, q1, q2, q3⟩⟩ := HK.out _ S6.out.later
                        obtain ⟨bx0, bx1, bx2, bx3⟩ := S6.out.box
                        go_wp2_with fail
                        go_ret
                        exact ⟨says_no rfl, S6.out.below⟩
                      | true =>
                        have R3 := Lib.hid (hr rfl)
                        clear hr
                        obtain ⟨y0, y1, y2, y3⟩ := box_at B6.out
                        obtain ⟨z0, z1, z2, z3⟩ := HZ.out _ S6.out.later
                        obtain ⟨⟨p0, p1, p2, p3⟩, ⟨q0, q1, q2, q3⟩⟩ := HK.out _ S6.out.later
                        obtain ⟨bx0, bx1, bx2, bx3⟩ := S6.out.box
                        go_wp2_with fail
                        refine (J2.out _ S6.out.later).mono ?_
                        rintro e w7 ⟨⟨r, rfl, hr⟩, b⟩
                        have S7 := Lib.hid (S6.out.on b)
                        have B7 := Lib.hid (bx_on B6.out b)
                        clear b
                        try clear y0 y1 y2 y3 z0 z1 z2 z3 p0 p1 p2 p3 q0 q1 q2 q3 bx0 bx1 bx2 bx3
                        cases r with
                        | false =>
                          clear hr
                          obtain ⟨y0, y1, y2, y3⟩ := box_at B7.out
                          obtain ⟨z0, z1, z2, z3⟩ := HZ.out _ S7.out.later
                          obtain ⟨⟨p0, p1, p2, p3⟩, ⟨q0, q1, q2, q3⟩⟩ := HK.out _ S7.out.later
                          obtain ⟨bx0, bx1, bx2, bx3⟩ := S7.out.box
                          go_wp2_with fail
                          go_ret
                          exact ⟨⟨_, rfl, fun _ => ⟨p, _, rfl, R1.out, .functionType R3.out R2.out⟩⟩, S7.out.below⟩
                        | true =>
                          clear hr
                          obtain ⟨y0, y1, y2, y3⟩ := box_at B7.out
                          obtain ⟨z0, z1, z2, z3⟩ := HZ.out _ S7.out.later
                          obtain ⟨⟨p0, p1, p2, p3⟩, ⟨q0, q1, q2, q3⟩⟩ := HK.out _ S7.out.later
                          obtain ⟨bx0, bx1, bx2, bx3⟩ := S7.out.box
                          go_wp2_with fail
                          go_ret
                          exact ⟨says_no rfl, S7.out.below⟩
                    | false =>
                      obtain ⟨y0, y1, y2, y3⟩ := box_at B5.out
                      obtain ⟨z0, z1, z2, z3⟩ := HZ.out _ S5.out.later
                      obtain ⟨⟨p0, p1, p2, p3⟩, ⟨q0, q1, q2, q3⟩⟩ := HK.out _ S5.out.later
                      obtain ⟨bx0, bx1, bx2, bx3⟩ := S5.out.box
                      go_wp2_with fail
                      refine (JN.out _ S5.out.later).mono ?_
                      rintro e w6 ⟨⟨r, rfl, hr⟩, b⟩
                      have S6 := Lib.hid (S5.out.on b)
                      have HN := Lib.hid hr
                      clear b hr
                      go_wp2_with fail
                      go_ret
                      exact ⟨⟨r, rfl, fun h => ⟨p, _, rfl, R1.out, by rw [HN.out h]; exact .functionNil R2.out⟩⟩, S6.out.below⟩
              · have IP := Lib.hid (areParams_step W0 l (fun t _ => hty t) _ ht)
                clear hl hkid2 hz ht hq hre hty hm
                go_enter Tryz.func18, Tryz.ntmps18
                go_wp2_with fail
                refine (HP.out _).mono ?_
                rintro e w1 ⟨rfl, b⟩
                have S1 := Lib.hid (S0.out.on b)
                clear b
                obtain ⟨⟨p0, p1, p2, p3⟩, ⟨q0, q1, q2, q3⟩⟩ := HK.out _ S1.out.later
                obtain ⟨bx0, bx1, bx2, bx3⟩ := S1.out.box
                go_wp2_with fail
                refine (I1.out _ S1.out.later).mono ?_
                rintro e w2 ⟨⟨r, rfl, hr⟩, b⟩
                have S2 := Lib.hid (S1.out.on b)
                clear b
                try clear p0 p1 p2 p3 q0 q1 q2 q3 bx0 bx1 bx2 bx3
                cases r with
                | false =>
                  clear hr
                  obtain ⟨⟨p0, p1, p2, p3⟩, ⟨q0, q1, q2, q3⟩⟩ := HK.out _ S2.out.later
                  obtain ⟨bx0, bx1, bx2, bx3⟩ := S2.out.box
                  go_wp2_with fail
                  go_ret
                  exact ⟨says_no rfl, S2.out.below⟩
                | true =>
                  have R1 := Lib.hid (hr rfl)
                  clear hr
                  obtain ⟨⟨p0, p1, p2, p3⟩, ⟨q0, q1, q2, q3⟩⟩ := HK.out _ S2.out.later
                  obtain ⟨bx0, bx1, bx2, bx3⟩ := S2.out.box
                  have S3 := Lib.hid (S2.out.on (box_below w2 (.cells #[.string ⟨#[70, 117, 110, 99, 116, 105, 111, 110, 84, 121, 112, 101]⟩, .string ⟨#[]⟩, .int .i64 0, .slice (some ⟨b2, off2, none⟩) (l.length + 1) qc] 24)))
                  have B3 := Lib.hid (Below.refl (w2.heap.size + 1) (w2.alloc (.cells #[.string ⟨#[70, 117, 110, 99, 116, 105, 111, 110, 84, 121, 112, 101]⟩, .string ⟨#[]⟩, .int .i64 0, .slice (some ⟨b2, off2, none⟩) (l.length + 1) qc] 24)))
                  go_wp2_with fail
                  refine (IP.out _ S3.out.later).mono ?_
                  rintro e w4 ⟨⟨r, rfl, hr⟩, b⟩
                  have S4 := Lib.hid (S3.out.on b)
                  have B4 := Lib.hid (bx_on B3.out b)
                  clear b
                  try clear y0 y1 y2 y3 z0 z1 z2 z3 p0 p1 p2 p3 q0 q1 q2 q3 bx0 bx1 bx2 bx3
                  cases r with
                  | false =>
                    clear hr
                    obtain ⟨y0, y1, y2, y3⟩ := box_at B4.out
                    obtain ⟨z0, z1, z2, z3⟩ := HZ.out _ S4.out.later
                    obtain ⟨⟨p0, p1, p2, p3⟩, ⟨q0, q1, q2, q3⟩⟩ := HK.out _ S4.out.later
                    obtain ⟨bx0, bx1, bx2, bx3⟩ := S4.out.box
                    go_wp2_with fail
                    go_ret
                    exact ⟨says_no rfl, S4.out.below⟩
                  | true =>
                    have R2 := Lib.hid (hr rfl)
                    clear hr
                    obtain ⟨y0, y1, y2, y3⟩ := box_at B4.out
                    obtain ⟨z0, z1, z2, z3⟩ := HZ.out _ S4.out.later
                    obtain ⟨⟨p0, p1, p2, p3⟩, ⟨q0, q1, q2, q3⟩⟩ := HK.out _ S4.out.later
                    obtain ⟨bx0, bx1, bx2, bx3⟩ := S4.out.box
                    go_wp2_with fail
                    refine (IR.out R1.out _ S4.out.later).mono ?_
                    rintro e w5 ⟨⟨r', rfl, _⟩, b⟩
                    have S5 := Lib.hid (S4.out.on b)
                    have B5 := Lib.hid (bx_on B4.out b)
                    clear b
                    try clear y0 y1 y2 y3 z0 z1 z2 z3 p0 p1 p2 p3 q0 q1 q2 q3 bx0 bx1 bx2 bx3
                    cases r' with
                    | true =>
                      obtain ⟨y0, y1, y2, y3⟩ := box_at B5.out
                      obtain ⟨z0, z1, z2, z3⟩ := HZ.out _ S5.out.later
                      obtain ⟨⟨p0, p1, p2, p3⟩, ⟨q0, q1, q2, q3⟩⟩ := HK.out _ S5.out.later
                      obtain ⟨bx0, bx1, bx2, bx3⟩ := S5.out.box
                      go_wp2_with fail
                      refine (J1.out _ S5.out.later).mono ?_
                      rintro e w6 ⟨⟨r, rfl, hr⟩, b⟩
                      have S6 := Lib.hid (S5.out.on b)
                      have B6 := Lib.hid (bx_on B5.out b)
                      clear b
                      try clear y0 y1 y2 y3 z0 z1 z2 z3 p0 p1 p2 p3 q0 q1 q2 q3 bx0 bx1 bx2 bx3
                      cases r with
                      | false =>
                        clear hr
                        obtain ⟨y0, y1, y2, y3⟩ := box_at B6.out
                        obtain ⟨z0, z1, z2, z3⟩ := HZ.out _ S6.out.later
                        obtain ⟨⟨p0, p1, p2, p3⟩, ⟨q0, q1, q2, q3⟩⟩ := HK.out _ S6.out.later
                        obtain ⟨bx0, bx1, bx2, bx3⟩ := S6.out.box
                        go_wp2_with fail
                        go_ret
                        exact ⟨says_no rfl, S6.out.below⟩
                      | true =>
                        have R3 := Lib.hid (hr rfl)
                        clear hr
                        obtain ⟨y0, y1, y2, y3⟩ := box_at B6.out
                        obtain ⟨z0, z1, z2, z3⟩ := HZ.out _ S6.out.later
                        obtain ⟨⟨p0, p1, p2, p3⟩, ⟨q0, q1, q2, q3⟩⟩ := HK.out _ S6.out.later
                        obtain ⟨bx0, bx1, bx2, bx3⟩ := S6.out.box
                        go_wp2_with fail
                        refine (J2.out _ S6.out.later).mono ?_
                        rintro e w7 ⟨⟨r, rfl, hr⟩, b⟩
                        have S7 := Lib.hid (S6.out.on b)
                        have B7 := Lib.hid (bx_on B6.out b)
                        clear b
                        try clear y0 y1 y2 y3 z0 z1 z2 z3 p0 p1 p2 p3 q0 q1 q2 q3 bx0 bx1 bx2 bx3
                        cases r with
                        | false =>
                          clear hr
                          obtain ⟨y0, y1, y2, y3⟩ := box_at B7.out
                          obtain ⟨z0, z1, z2, z3⟩ := HZ.out _ S7.out.later
                          obtain ⟨⟨p0, p1, p2, p3⟩, ⟨q0, q1, q2, q3⟩⟩ := HK.out _ S7.out.later
                          obtain ⟨bx0, bx1, bx2, bx3⟩ := S7.out.box
                          go_wp2_with fail
                          go_ret
                          exact ⟨⟨_, rfl, fun _ => ⟨p, _, rfl, R1.out, .functionType R3.out R2.out⟩⟩, S7.out.below⟩
                        | true =>
                          clear hr
                          obtain ⟨y0, y1, y2, y3⟩ := box_at B7.out
                          obtain ⟨z0, z1, z2, z3⟩ := HZ.out _ S7.out.later
                          obtain ⟨⟨p0, p1, p2, p3⟩, ⟨q0, q1, q2, q3⟩⟩ := HK.out _ S7.out.later
                          obtain ⟨bx0, bx1, bx2, bx3⟩ := S7.out.box
                          go_wp2_with fail
                          go_ret
                          exact ⟨says_no rfl, S7.out.below⟩
                    | false =>
                      obtain ⟨y0, y1, y2, y3⟩ := box_at B5.out
                      obtain ⟨z0, z1, z2, z3⟩ := HZ.out _ S5.out.later
                      obtain ⟨⟨p0, p1, p2, p3⟩, ⟨q0, q1, q2, q3⟩⟩ := HK.out _ S5.out.later
                      obtain ⟨bx0, bx1, bx2, bx3⟩ := S5.out.box
                      go_wp2_with fail
                      refine (JN.out _ S5.out.later).mono ?_
                      rintro e w6 ⟨⟨r, rfl, hr⟩, b⟩
                      have S6 := Lib.hid (S5.out.on b)
                      have HN := Lib.hid hr
                      clear b hr
                      go_wp2_with fail
                      go_ret
                      exact ⟨⟨r, rfl, fun h => ⟨p, _, rfl, R1.out, by rw [HN.out h]; exact .functionNil R2.out⟩⟩, S6.out.below⟩
          · have hb0 : (n2 == 0) = false := beq_eq_false_iff_ne.2 hn2
            have hb1 : (n2 != 0) = true := by rw [bne, hb0]; rfl
            clear hq hn2
            go_enter Tryz.func18, Tryz.ntmps18
            go_wp2_with fail
            refine (HP.out _).mono ?_
            rintro e w1 ⟨rfl, b⟩
            have S1 := Lib.hid (S0.out.on b)
            clear b
            obtain ⟨⟨p0, p1, p2, p3⟩, ⟨q0, q1, q2, q3⟩⟩ := HK.out _ S1.out.later
            obtain ⟨bx0, bx1, bx2, bx3⟩ := S1.out.box
            go_wp2_with fail
            refine (I1.out _ S1.out.later).mono ?_
            rintro e w2 ⟨⟨r, rfl, hr⟩, b⟩
            have S2 := Lib.hid (S1.out.on b)
            clear b
            try clear p0 p1 p2 p3 q0 q1 q2 q3 bx0 bx1 bx2 bx3
            cases r with
            | false =>
              clear hr
              obtain ⟨⟨p0, p1, p2, p3⟩, ⟨q0, q1, q2, q3⟩⟩ := HK.out _ S2.out.later
              obtain ⟨bx0, bx1, bx2, bx3⟩ := S2.out.box
              go_wp2_with fail
              go_ret
              exact ⟨says_no rfl, S2.out.below⟩
            | true =>
              have R1 := Lib.hid (hr rfl)
              clear hr
              obtain ⟨⟨p0, p1, p2, p3⟩, ⟨q0, q1, q2, q3⟩⟩ := HK.out _ S2.out.later
              obtain ⟨bx0, bx1, bx2, bx3⟩ := S2.out.box
              have S3 := Lib.hid (S2.out.on (box_below w2 (.cells #[.string ⟨#[70, 117, 110, 99, 116, 105, 111, 110, 84, 121, 112, 101]⟩, .string ⟨#[]⟩, .int .i64 n2, .slice qa l2.length qc] 24)))
              have B3 := Lib.hid (Below.refl (w2.heap.size + 1) (w2.alloc (.cells #[.string ⟨#[70, 117, 110, 99, 116, 105, 111, 110, 84, 121, 112, 101]⟩, .string ⟨#[]⟩, .int .i64 n2, .slice qa l2.length qc] 24)))
              go_wp2_with fail
              go_ret
              exact ⟨says_no rfl, S3.out.below⟩
        · have hx0 : x2.toList.isEmpty = false := ne_empty hx2
          clear hq hx2
          go_enter Tryz.func18, Tryz.ntmps18
          go_wp2_with fail
          refine (HP.out _).mono ?_
          rintro e w1 ⟨rfl, b⟩
          have S1 := Lib.hid (S0.out.on b)
          clear b
          obtain ⟨⟨p0, p1, p2, p3⟩, ⟨q0, q1, q2, q3⟩⟩ := HK.out _ S1.out.later
          obtain ⟨bx0, bx1, bx2, bx3⟩ := S1.out.box
          go_wp2_with fail
          refine (I1.out _ S1.out.later).mono ?_
          rintro e w2 ⟨⟨r, rfl, hr⟩, b⟩
          have S2 := Lib.hid (S1.out.on b)
          clear b
          try clear p0 p1 p2 p3 q0 q1 q2 q3 bx0 bx1 bx2 bx3
          cases r with
          | false =>
            clear hr
            obtain ⟨⟨p0, p1, p2, p3⟩, ⟨q0, q1, q2, q3⟩⟩ := HK.out _ S2.out.later
            obtain ⟨bx0, bx1, bx2, bx3⟩ := S2.out.box
            go_wp2_with fail
            go_ret
            exact ⟨says_no rfl, S2.out.below⟩
          | true =>
            have R1 := Lib.hid (hr rfl)
            clear hr
            obtain ⟨⟨p0, p1, p2, p3⟩, ⟨q0, q1, q2, q3⟩⟩ := HK.out _ S2.out.later
            obtain ⟨bx0, bx1, bx2, bx3⟩ := S2.out.box
            have S3 := Lib.hid (S2.out.on (box_below w2 (.cells #[.string ⟨#[70, 117, 110, 99, 116, 105, 111, 110, 84, 121, 112, 101]⟩, .string x2, .int .i64 n2, .slice qa l2.length qc] 24)))
            have B3 := Lib.hid (Below.refl (w2.heap.size + 1) (w2.alloc (.cells #[.string ⟨#[70, 117, 110, 99, 116, 105, 111, 110, 84, 121, 112, 101]⟩, .string x2, .int .i64 n2, .slice qa l2.length qc] 24)))
            go_wp2_with fail
            go_ret
            exact ⟨says_no rfl, S3.out.below⟩
      · have hk2' : (k2.toList == [70, 117, 110, 99, 116, 105, 111, 110, 84, 121, 112, 101]) = false := ne_of hk2
        clear hq hk2
        go_enter Tryz.func18, Tryz.ntmps18
        go_wp2_with fail
        refine (HP.out _).mono ?_
        rintro e w1 ⟨rfl, b⟩
        have S1 := Lib.hid (S0.out.on b)
        clear b
        obtain ⟨⟨p0, p1, p2, p3⟩, ⟨q0, q1, q2, q3⟩⟩ := HK.out _ S1.out.later
        obtain ⟨bx0, bx1, bx2, bx3⟩ := S1.out.box
        go_wp2_with fail
        refine (I1.out _ S1.out.later).mono ?_
        rintro e w2 ⟨⟨r, rfl, hr⟩, b⟩
        have S2 := Lib.hid (S1.out.on b)
        clear b
        try clear p0 p1 p2 p3 q0 q1 q2 q3 bx0 bx1 bx2 bx3
        cases r with
        | false =>
          clear hr
          obtain ⟨⟨p0, p1, p2, p3⟩, ⟨q0, q1, q2, q3⟩⟩ := HK.out _ S2.out.later
          obtain ⟨bx0, bx1, bx2, bx3⟩ := S2.out.box
          go_wp2_with fail
          go_ret
          exact ⟨says_no rfl, S2.out.below⟩
        | true =>
          have R1 := Lib.hid (hr rfl)
          clear hr
          obtain ⟨⟨p0, p1, p2, p3⟩, ⟨q0, q1, q2, q3⟩⟩ := HK.out _ S2.out.later
          obtain ⟨bx0, bx1, bx2, bx3⟩ := S2.out.box
          have S3 := Lib.hid (S2.out.on (box_below w2 (.cells #[.string k2, .string x2, .int .i64 n2, .slice qa l2.length qc] 24)))
          have B3 := Lib.hid (Below.refl (w2.heap.size + 1) (w2.alloc (.cells #[.string k2, .string x2, .int .i64 n2, .slice qa l2.length qc] 24)))
          go_wp2_with fail
          go_ret
          exact ⟨says_no rfl, S3.out.below⟩
    · obtain ⟨a, c, rfl, _⟩ := hv.shut
      have HP := Lib.hid (fun W => plain_not W ⟨#[84, 121, 112, 101, 100]⟩ x n ks.length a c 2 hs)
      have S0 := Lib.hid (St.start hw (.string ⟨#[84, 121, 112, 101, 100]⟩) (.string x) (.int .i64 n) (.slice a ks.length c))
      clear hv hs hw
      go_enter Tryz.func18, Tryz.ntmps18
      go_wp2_with fail
      refine (HP.out _).mono ?_
      rintro e w1 ⟨rfl, b⟩
      have S1 := Lib.hid (S0.out.on b)
      clear b
      obtain ⟨bx0, bx1, bx2, bx3⟩ := S1.out.box
      go_wp2_with fail
      go_ret
      exact ⟨says_no rfl, S1.out.below⟩
  · have hk' : (k.toList == [84, 121, 112, 101, 100]) = false := ne_of hk
    obtain ⟨a, c, rfl, _⟩ := hv.shut
    have S0 := Lib.hid (St.start hw (.string k) (.string x) (.int .i64 n) (.slice a ks.length c))
    clear hv hw
    go_enter Tryz.func18, Tryz.ntmps18
    go_wp2_with fail
    go_ret
    exact ⟨says_no rfl, S0.out.below⟩

theorem methodP_two {k x : ByteArray} {n : Int} {ks : List Tree} (h : MethodP (.node k x n ks)) : ∃ p q, ks = [p, q] := by
  obtain ⟨_, p, q, e, _⟩ := h
  injection e with _ _ _ e
  exact ⟨p, q, e⟩
theorem methodP_good {k x : ByteArray} {n : Int} {p q : Tree} (h : MethodP (.node k x n [p, q])) (hp : Good p) : Good (.node k x n [p, q]) := by
  obtain ⟨_, _, _, e, hq⟩ := h
  injection e with e1 e2 e3 e4
  injection e4 with e5 e6
  injection e6 with e6 _
  subst e1 e2 e3 e5 e6
  exact .methodWithQualifiers _ hp hq
theorem funP_two {k x : ByteArray} {n : Int} {ks : List Tree} (h : FunP (.node k x n ks)) : ∃ p q, ks = [p, q] ∧ Good p := by
  obtain ⟨p, q, e, hp, _⟩ := h
  injection e with _ _ _ e
  exact ⟨p, q, e, hp⟩

set_option maxRecDepth 100000 in
set_option maxHeartbeats 4000000 in
theorem IsMethod_ok (W0 : World) (t : Tree) (hf : ∀ p, Test W0 18 p (FunP p)) : Test W0 19 t (Good t) := by
  intro v hv w hw
  have I1 := Lib.hid (isMethod_any W0 t _ hv)
  obtain ⟨k, x, n, ks⟩ := t
  by_cases hs : ∃ p q, ks = [p, q]
  · obtain ⟨p, q, rfl⟩ := hs
    obtain ⟨b, off, c, pa, pc, qa, qc, rfl, hc1, hc2, hkid, hp, _⟩ := hv.two
    have I2 := Lib.hid (hf p _ hp)
    have S0 := Lib.hid (St.start hw (.string k) (.string x) (.int .i64 n) (.slice (some ⟨b, off, none⟩) 2 c))
    try simp only [List.length_cons, List.length_nil, Nat.zero_add, Nat.reduceAdd] at I1
    obtain ⟨k1, x1, n1, l1⟩ := p
    have HK := Lib.hid (fun W hW => (hkid W hW).1.fields rfl)
    by_cases hs1 : ∃ p q, l1 = [p, q]
    · obtain ⟨u, z, rfl⟩ := hs1
      obtain ⟨b2, off2, cc2, pa2, pc2, qa2, qc2, e2, hd1, hd2, hkid2, hu, _⟩ := hp.two
      simp only [val, Tree.kind, Tree.text, Tree.num, Tree.kids, Value.agg.injEq, Array.mk.injEq, List.cons.injEq, Value.slice.injEq, and_true, true_and, List.length_cons, List.length_nil] at e2
      obtain ⟨rfl, rfl⟩ := e2
      have I3 := Lib.hid (fun (hg : Good u) W hW => inScope_any W0 u hg _ hu W hW)
      have HZ := Lib.hid (fun W hW => (hkid2 W hW).1)
      have GU := Lib.hid (fun (h : FunP (.node k1 x1 n1 [u, z])) => show Good u by
        obtain ⟨_, _, e, hp⟩ := funP_two h
        injection e with e _
        subst e
        exact hp)
      have FIN := Lib.hid (fun (h : MethodP (.node k x n [.node k1 x1 n1 [u, z], q])) (h2 : FunP (.node k1 x1 n1 [u, z])) => methodP_good h h2.good)
      simp only [List.length_cons, List.length_nil, Nat.zero_add, Nat.reduceAdd] at HK
      clear hv hw hkid hp hkid2 hu hf
      go_enter Tryz.func19, Tryz.ntmps19
      go_wp2_with fail
      refine (I1.out _ S0.out.later).mono ?_
      rintro e w1 ⟨⟨r, rfl, hr⟩, b⟩
      have S1 := Lib.hid (S0.out.on b)
      clear b
      cases r with
      | false =>
        clear hr
        obtain ⟨p0, p1, p2, p3⟩ := HK.out _ S1.out.later
        obtain ⟨z0, z1, z2, z3⟩ := HZ.out _ S1.out.later
        obtain ⟨bx0, bx1, bx2, bx3⟩ := S1.out.box
        go_wp2_with fail
        go_ret
        exact ⟨says_no rfl, S1.out.below⟩
      | true =>
        have R1 := Lib.hid (hr rfl)
        clear hr
        obtain ⟨p0, p1, p2, p3⟩ := HK.out _ S1.out.later
        obtain ⟨z0, z1, z2, z3⟩ := HZ.out _ S1.out.later
        obtain ⟨bx0, bx1, bx2, bx3⟩ := S1.out.box
        go_wp2_with fail
        refine (I2.out _ S1.out.later).mono ?_
        rintro e w2 ⟨⟨r, rfl, hr⟩, b⟩
        have S2 := Lib.hid (S1.out.on b)
        clear b
        try clear p0 p1 p2 p3 z0 z1 z2 z3 bx0 bx1 bx2 bx3
        cases r with
        | false =>
          clear hr
          obtain ⟨p0, p1, p2, p3⟩ := HK.out _ S2.out.later
          obtain ⟨z0, z1, z2, z3⟩ := HZ.out _ S2.out.later
          obtain ⟨bx0, bx1, bx2, bx3⟩ := S2.out.box
          go_wp2_with fail
          go_ret
          exact ⟨says_no rfl, S2.out.below⟩
        | true =>
          have R2 := Lib.hid (hr rfl)
          clear hr
          obtain ⟨p0, p1, p2, p3⟩ := HK.out _ S2.out.later
          obtain ⟨z0, z1, z2, z3⟩ := HZ.out _ S2.out.later
          obtain ⟨bx0, bx1, bx2, bx3⟩ := S2.out.box
          go_wp2_with fail
          refine (I3.out (GU.out R2.out) _ S2.out.later).mono ?_
          rintro e w3 ⟨⟨r, rfl, hr⟩, b⟩
          have S3 := Lib.hid (S2.out.on b)
          clear b
          try clear p0 p1 p2 p3 z0 z1 z2 z3 bx0 bx1 bx2 bx3
          cases r with
          | false =>
            clear hr
            obtain ⟨p0, p1, p2, p3⟩ := HK.out _ S3.out.later
            obtain ⟨z0, z1, z2, z3⟩ := HZ.out _ S3.out.later
            obtain ⟨bx0, bx1, bx2, bx3⟩ := S3.out.box
            go_wp2_with fail
            go_ret
            exact ⟨says_no rfl, S3.out.below⟩
          | true =>
            clear hr
            obtain ⟨p0, p1, p2, p3⟩ := HK.out _ S3.out.later
            obtain ⟨z0, z1, z2, z3⟩ := HZ.out _ S3.out.later
            obtain ⟨bx0, bx1, bx2, bx3⟩ := S3.out.box
            go_wp2_with fail
            go_ret
            exact ⟨⟨_, rfl, fun _ => FIN.out R1.out R2.out⟩, S3.out.below⟩
    · have NO := Lib.hid (show ¬ FunP (.node k1 x1 n1 l1) from fun h => by obtain ⟨p, q, e, _⟩ := funP_two h; exact hs1 ⟨p, q, e⟩)
      clear hv hw hkid hp hf hs1
      go_enter Tryz.func19, Tryz.ntmps19
      go_wp2_with fail
      refine (I1.out _ S0.out.later).mono ?_
      rintro e w1 ⟨⟨r, rfl, hr⟩, b⟩
      have S1 := Lib.hid (S0.out.on b)
      clear b
      cases r with
      | false =>
        clear hr
        obtain ⟨p0, p1, p2, p3⟩ := HK.out _ S1.out.later
        obtain ⟨bx0, bx1, bx2, bx3⟩ := S1.out.box
        go_wp2_with fail
        go_ret
        exact ⟨says_no rfl, S1.out.below⟩
      | true =>
        have R1 := Lib.hid (hr rfl)
        clear hr
        obtain ⟨p0, p1, p2, p3⟩ := HK.out _ S1.out.later
        obtain ⟨bx0, bx1, bx2, bx3⟩ := S1.out.box
        go_wp2_with fail
        refine (I2.out _ S1.out.later).mono ?_
        rintro e w2 ⟨⟨r, rfl, hr⟩, b⟩
        have S2 := Lib.hid (S1.out.on b)
        clear b
        cases r with
        | true => exact absurd ( (hr rfl)) NO.out
        | false =>
          clear hr
          go_wp2_with fail
          go_ret
          exact ⟨says_no rfl, S2.out.below⟩
  · obtain ⟨a, c, rfl, _⟩ := hv.shut
    have S0 := Lib.hid (St.start hw (.string k) (.string x) (.int .i64 n) (.slice a ks.length c))
    have NO := Lib.hid (show ¬ MethodP (.node k x n ks) from fun h => by obtain ⟨p, q, e⟩ := methodP_two h; exact hs ⟨p, q, e⟩)
    clear hv hw hf hs
    go_enter Tryz.func19, Tryz.ntmps19
    go_wp2_with fail
    refine (I1.out _ S0.out.later).mono ?_
    rintro e w1 ⟨⟨r, rfl, hr⟩, b⟩
    have S1 := Lib.hid (S0.out.on b)
    clear b
    cases r with
    | true => exact absurd ( (hr rfl)) NO.out
    | false =>
      clear hr
      go_wp2_with fail
      go_ret
      exact ⟨says_no rfl, S1.out.below⟩

set_option maxRecDepth 100000 in
set_option maxHeartbeats 4000000 in
theorem IsEncoding_ok (W0 : World) (t : Tree) (hf : Test W0 18 t (FunP t)) (hm : Test W0 19 t (Good t)) (hcl : Test W0 20 t (Good t)) : Test W0 8 t (Good t) := by
  intro v hv w hw
  have I1 := Lib.hid (hf _ hv)
  have I2 := Lib.hid (hm _ hv)
  have I3 := Lib.hid (hcl _ hv)
  obtain ⟨k, x, n, ks⟩ := t
  obtain ⟨a, c, rfl, _⟩ := hv.shut
  have S0 := Lib.hid (St.start hw (.string k) (.string x) (.int .i64 n) (.slice a ks.length c))
  clear hv hw hf hm hcl
  go_enter Tryz.func8, Tryz.ntmps8
  go_wp2_with fail
  refine (I1.out _ S0.out.later).mono ?_
  rintro e w1 ⟨⟨r, rfl, hr⟩, b⟩
  have S1 := Lib.hid (S0.out.on b)
  clear b
  cases r with
  | false =>
    clear hr
    obtain ⟨bx0, bx1, bx2, bx3⟩ := S1.out.box
    go_wp2_with fail
    refine (I2.out _ S1.out.later).mono ?_
    rintro e w2 ⟨⟨r, rfl, hr⟩, b⟩
    have S2 := Lib.hid (S1.out.on b)
    clear b
    try clear bx0 bx1 bx2 bx3
    cases r with
    | false =>
      clear hr
      obtain ⟨bx0, bx1, bx2, bx3⟩ := S2.out.box
      go_wp2_with fail
      refine (I3.out _ S2.out.later).mono ?_
      rintro e w3 ⟨⟨r, rfl, hr⟩, b⟩
      have S3 := Lib.hid (S2.out.on b)
      clear b
      try clear bx0 bx1 bx2 bx3
      cases r with
      | false =>
        clear hr
        obtain ⟨bx0, bx1, bx2, bx3⟩ := S3.out.box
        go_wp2_with fail
        go_ret
        exact ⟨says_no rfl, S3.out.below⟩
      | true =>
        have R3 := Lib.hid (hr rfl)
        clear hr
        obtain ⟨bx0, bx1, bx2, bx3⟩ := S3.out.box
        go_wp2_with fail
        go_ret
        exact ⟨⟨_, rfl, fun _ => R3.out⟩, S3.out.below⟩
    | true =>
      have R2 := Lib.hid (hr rfl)
      clear hr
      obtain ⟨bx0, bx1, bx2, bx3⟩ := S2.out.box
      go_wp2_with fail
      go_ret
      exact ⟨⟨_, rfl, fun _ => R2.out⟩, S2.out.below⟩
  | true =>
    have R1 := Lib.hid (hr rfl)
    clear hr
    obtain ⟨bx0, bx1, bx2, bx3⟩ := S1.out.box
    go_wp2_with fail
    go_ret
    exact ⟨⟨_, rfl, fun _ => R1.out.good⟩, S1.out.below⟩

theorem encoding_good (W0 : World) (hb1 : 1 < W0.heap.size) (t : Tree) : Test W0 8 t (Good t) := by
  have T := types_ok W0 hb1
  have cl := fun p => (T p).cl
  have ty := fun p => (T p).ty
  have ww := fun p => isWord_ok W0 p cl
  have oo := fun p => isOperatorName_ok W0 p cl
  have mm := fun p => IsMaker_ok W0 p cl
  have cc := fun p => isCast_ok W0 p cl ty
  have fn := fun p => isFunctionName_ok W0 p ww oo mm cc (T p).tm
  have ff := fun p => IsFunction_ok W0 p fn (fun q => (T q).re) ty mm
  exact IsEncoding_ok W0 t (ff t) (IsMethod_ok W0 t ff) (cl t)

end Go.Proofs.YtnhccgbkalpcnaaGreatDoor
