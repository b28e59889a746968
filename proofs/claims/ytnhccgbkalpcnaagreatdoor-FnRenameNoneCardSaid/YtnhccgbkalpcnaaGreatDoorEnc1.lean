/- Operators, words, conversions, makers. -/
import Derived.Test.YtnhccgbkalpcnaaGreatDoorLast
import Derived.Test.YtnhccgbkalpcnaaGreatDoorTy2
namespace Go.Proofs.YtnhccgbkalpcnaaGreatDoor
open Go.RowKit

theorem field0 (k : ByteArray) (b c d : Value) (W : World) : (Instr.field 24 (.agg #[.string k, b, c, d]) 0).run Tryz.prog W = .ok (.string k) W := by kernel_rfl
theorem bx_on {w w' w'' : World} {o : Obj} (h : Below (w.heap.size + 1) (w.alloc o) w') (hb : Below w'.heap.size w' w'') : Below (w.heap.size + 1) (w.alloc o) w'' :=
  h.trans (hb.mono (by have := h.size; simp at this; omega))
theorem has_says (W0 : World) (f : ByteArray) (t : Tree) (v : Value) (hv : At W0 t v) (w : World) (hw : Later W0 w) : Calls Tryz.prog 24 #[v, .string f] w fun e w' => Says True e ∧ Below w.heap.size w w' := by
  refine (has_any W0 f t v hv w hw).mono ?_
  rintro e w' ⟨rfl, b⟩
  exact ⟨says_any rfl, b⟩
theorem plain_one (w : World) (k : ByteArray) (a : Option Addr) (cap : Nat) : Calls Tryz.prog 29 #[.agg #[.string k, .string ⟨#[]⟩, .int .i64 0, .slice a 1 cap], .int .i64 1] w fun e w' => e = .returned (.bool true) ∧ Below w.heap.size w w' := by
  go_enter Tryz.func29, Tryz.ntmps29
  go_wp2
  go_ret
  exact ⟨rfl, box_below _ _⟩

set_option maxRecDepth 100000 in
set_option maxHeartbeats 4000000 in
theorem isOperator_ok (W0 : World) (t : Tree) : Test W0 60 t (Good t) := by
  intro v hv w hw
  obtain ⟨k, x, n, ks⟩ := t
  obtain ⟨a, c, rfl, _⟩ := hv.shut
  have S0 := Lib.hid (St.start hw (.string k) (.string x) (.int .i64 n) (.slice a ks.length c))
  clear hv hw
  by_cases hk : k = ⟨#[79, 112, 101, 114, 97, 116, 111, 114]⟩
  · subst hk
    by_cases h1 : n = 0
    · subst h1
      by_cases h2 : ks = []
      · subst h2
        simp only [List.length_nil] at *
        have HC := Lib.hid (fun W hW => opCode_any x W hW)
        go_enter Tryz.func60, Tryz.ntmps60
        go_wp2_with fail
        refine (HC.out _ S0.out.later.tables).mono ?_
        rintro e w1 ⟨⟨s, rfl⟩, rfl⟩
        go_wp2_with fail
        all_goals go_ret
        all_goals exact ⟨⟨_, rfl, fun _ => .operator x⟩, S0.out.below⟩
      · have hl0 : ((ks.length : Int) == 0) = false := beq_eq_false_iff_ne.2 (by have := List.length_pos_iff.2 h2; omega)
        go_enter Tryz.func60, Tryz.ntmps60
        go_wp2_with fail
        go_ret
        exact ⟨says_no rfl, S0.out.below⟩
    · have h1' : (n == 0) = false := beq_eq_false_iff_ne.2 h1
      go_enter Tryz.func60, Tryz.ntmps60
      go_wp2_with fail
      go_ret
      exact ⟨says_no rfl, S0.out.below⟩
  · have hk' : (k.toList == [79, 112, 101, 114, 97, 116, 111, 114]) = false := ne_of hk
    go_enter Tryz.func60, Tryz.ntmps60
    go_wp2_with fail
    go_ret
    exact ⟨says_no rfl, S0.out.below⟩

set_option maxRecDepth 100000 in
set_option maxHeartbeats 4000000 in
theorem isOperatorName_ok (W0 : World) (t : Tree) (hcl : ∀ p, Test W0 20 p (Good p)) : Test W0 50 t (Good t) := by
  intro v hv w hw
  have I0 := Lib.hid (isOperator_ok W0 t _ hv)
  obtain ⟨k, x, n, ks⟩ := t
  by_cases hk : k = ⟨#[81, 117, 97, 108, 105, 102, 105, 101, 100]⟩
  · subst hk
    by_cases hs : x = ⟨#[]⟩ ∧ n = 0 ∧ (ks.length : Int) = 2
    · obtain ⟨rfl, rfl, hl⟩ := hs
      obtain ⟨p, q, rfl⟩ := two_kids (ks := ks) (by omega)
      obtain ⟨b, off, c, pa, pc, qa, qc, rfl, hc1, hc2, hkid, hp, hq⟩ := hv.two
      have HP := Lib.hid (fun W => plain_two W ⟨#[81, 117, 97, 108, 105, 102, 105, 101, 100]⟩ (some ⟨b, off, none⟩) c)
      have HK := Lib.hid hkid
      have I1 := Lib.hid (hcl p _ hp)
      have I2 := Lib.hid (isOperator_ok W0 q _ hq)
      have S0 := Lib.hid (St.start hw (.string ⟨#[81, 117, 97, 108, 105, 102, 105, 101, 100]⟩) (.string ⟨#[]⟩) (.int .i64 0) (.slice (some ⟨b, off, none⟩) 2 c))
      clear hv hkid hp hq hl hw
      go_enter Tryz.func50, Tryz.ntmps50
      go_wp2_with fail
      refine (I0.out _ S0.out.later).mono ?_
      rintro e w1 ⟨⟨r, rfl, hr⟩, b⟩
      have S1 := Lib.hid (S0.out.on b)
      clear b
      cases r with
      | false =>
        clear hr
        obtain ⟨⟨p0, p1, p2, p3⟩, ⟨q0, q1, q2, q3⟩⟩ := HK.out _ S1.out.later
        obtain ⟨bx0, bx1, bx2, bx3⟩ := S1.out.box
        go_wp2_with fail
        refine (HP.out _).mono ?_
        rintro e w2 ⟨rfl, b⟩
        have S2 := Lib.hid (S1.out.on b)
        clear b
        try clear p0 p1 p2 p3 q0 q1 q2 q3 bx0 bx1 bx2 bx3
        obtain ⟨⟨p0, p1, p2, p3⟩, ⟨q0, q1, q2, q3⟩⟩ := HK.out _ S2.out.later
        obtain ⟨bx0, bx1, bx2, bx3⟩ := S2.out.box
        go_wp2_with fail
        refine (I1.out _ S2.out.later).mono ?_
        rintro e w3 ⟨⟨r, rfl, hr⟩, b⟩
        have S3 := Lib.hid (S2.out.on b)
        clear b
        try clear p0 p1 p2 p3 q0 q1 q2 q3 bx0 bx1 bx2 bx3
        cases r with
        | false =>
          clear hr
          obtain ⟨⟨p0, p1, p2, p3⟩, ⟨q0, q1, q2, q3⟩⟩ := HK.out _ S3.out.later
          obtain ⟨bx0, bx1, bx2, bx3⟩ := S3.out.box
          go_wp2_with fail
          go_ret
          exact ⟨says_no rfl, S3.out.below⟩
        | true =>
          have R1 := Lib.hid (hr rfl)
          clear hr
          obtain ⟨⟨p0, p1, p2, p3⟩, ⟨q0, q1, q2, q3⟩⟩ := HK.out _ S3.out.later
          obtain ⟨bx0, bx1, bx2, bx3⟩ := S3.out.box
          go_wp2_with fail
          refine (I2.out _ S3.out.later).mono ?_
          rintro e w4 ⟨⟨r, rfl, hr⟩, b⟩
          have S4 := Lib.hid (S3.out.on b)
          clear b
          try clear p0 p1 p2 p3 q0 q1 q2 q3 bx0 bx1 bx2 bx3
          cases r with
          | false =>
            clear hr
            obtain ⟨⟨p0, p1, p2, p3⟩, ⟨q0, q1, q2, q3⟩⟩ := HK.out _ S4.out.later
            obtain ⟨bx0, bx1, bx2, bx3⟩ := S4.out.box
            go_wp2_with fail
            go_ret
            exact ⟨says_no rfl, S4.out.below⟩
          | true =>
            have R2 := Lib.hid (hr rfl)
            clear hr
            obtain ⟨⟨p0, p1, p2, p3⟩, ⟨q0, q1, q2, q3⟩⟩ := HK.out _ S4.out.later
            obtain ⟨bx0, bx1, bx2, bx3⟩ := S4.out.box
            go_wp2_with fail
            go_ret
            exact ⟨⟨_, rfl, fun _ => .qualified R1.out R2.out⟩, S4.out.below⟩
      | true =>
        have R0 := Lib.hid (hr rfl)
        clear hr
        obtain ⟨⟨p0, p1, p2, p3⟩, ⟨q0, q1, q2, q3⟩⟩ := HK.out _ S1.out.later
        obtain ⟨bx0, bx1, bx2, bx3⟩ := S1.out.box
        go_wp2_with fail
        go_ret
        exact ⟨⟨_, rfl, fun _ => R0.out⟩, S1.out.below⟩
    · obtain ⟨a, c, rfl, _⟩ := hv.shut
      have HP := Lib.hid (fun W => plain_not W ⟨#[81, 117, 97, 108, 105, 102, 105, 101, 100]⟩ x n ks.length a c 2 hs)
      have S0 := Lib.hid (St.start hw (.string ⟨#[81, 117, 97, 108, 105, 102, 105, 101, 100]⟩) (.string x) (.int .i64 n) (.slice a ks.length c))
      clear hv hs hw
      go_enter Tryz.func50, Tryz.ntmps50
      go_wp2_with fail
      refine (I0.out _ S0.out.later).mono ?_
      rintro e w1 ⟨⟨r, rfl, hr⟩, b⟩
      have S1 := Lib.hid (S0.out.on b)
      clear b
      cases r with
      | false =>
        clear hr
        obtain ⟨bx0, bx1, bx2, bx3⟩ := S1.out.box
        go_wp2_with fail
        refine (HP.out _).mono ?_
        rintro e w2 ⟨rfl, b⟩
        have S2 := Lib.hid (S1.out.on b)
        clear b
        try clear bx0 bx1 bx2 bx3
        obtain ⟨bx0, bx1, bx2, bx3⟩ := S2.out.box
        go_wp2_with fail
        go_ret
        exact ⟨says_no rfl, S2.out.below⟩
      | true =>
        have R0 := Lib.hid (hr rfl)
        clear hr
        obtain ⟨bx0, bx1, bx2, bx3⟩ := S1.out.box
        go_wp2_with fail
        go_ret
        exact ⟨⟨_, rfl, fun _ => R0.out⟩, S1.out.below⟩
  · have hk' : (k.toList == [81, 117, 97, 108, 105, 102, 105, 101, 100]) = false := ne_of hk
    obtain ⟨a, c, rfl, _⟩ := hv.shut
    have S0 := Lib.hid (St.start hw (.string k) (.string x) (.int .i64 n) (.slice a ks.length c))
    clear hv hw
    go_enter Tryz.func50, Tryz.ntmps50
    go_wp2_with fail
    refine (I0.out _ S0.out.later).mono ?_
    rintro e w1 ⟨⟨r, rfl, hr⟩, b⟩
    have S1 := Lib.hid (S0.out.on b)
    clear b
    cases r with
    | false =>
      clear hr
      obtain ⟨bx0, bx1, bx2, bx3⟩ := S1.out.box
      go_wp2_with fail
      go_ret
      exact ⟨says_no rfl, S1.out.below⟩
    | true =>
      have R0 := Lib.hid (hr rfl)
      clear hr
      obtain ⟨bx0, bx1, bx2, bx3⟩ := S1.out.box
      go_wp2_with fail
      go_ret
      exact ⟨⟨_, rfl, fun _ => R0.out⟩, S1.out.below⟩

set_option maxRecDepth 100000 in
set_option maxHeartbeats 4000000 in
theorem isWord_ok (W0 : World) (t : Tree) (hcl : ∀ p, Test W0 20 p (Good p)) : Test W0 49 t (Good t) := by
  intro v hv w hw
  have I1 := Lib.hid (hcl t _ hv)
  have HL := Lib.hid (fun (hg : Good t) W hW => last_any W0 t hg v hv W hW)
  obtain ⟨k, x, n, ks⟩ := t
  obtain ⟨a, c, rfl, _⟩ := hv.shut
  have S0 := Lib.hid (St.start hw (.string k) (.string x) (.int .i64 n) (.slice a ks.length c))
  clear hv hw hcl
  by_cases hk : k = ⟨#[84, 101, 109, 112, 108, 97, 116, 101]⟩
  · subst hk
    go_enter Tryz.func49, Tryz.ntmps49
    go_wp2_with fail
    go_ret
    exact ⟨says_no rfl, S0.out.below⟩
  · have hk' : (k.toList == [84, 101, 109, 112, 108, 97, 116, 101]) = false := ne_of hk
    clear hk
    go_enter Tryz.func49, Tryz.ntmps49
    go_wp2_with fail
    refine (I1.out _ S0.out.later).mono ?_
    rintro e w1 ⟨⟨r, rfl, hr⟩, b⟩
    have S1 := Lib.hid (S0.out.on b)
    clear b
    cases r with
    | false =>
      clear hr
      obtain ⟨bx0, bx1, bx2, bx3⟩ := S1.out.box
      go_wp2_with fail
      go_ret
      exact ⟨says_no rfl, S1.out.below⟩
    | true =>
      have R1 := Lib.hid (hr rfl)
      clear hr
      obtain ⟨bx0, bx1, bx2, bx3⟩ := S1.out.box
      go_wp2_with fail
      refine (HL.out R1.out _ S1.out.later).mono ?_
      rintro e w2 ⟨t2, v2, rfl, hat, hg, b⟩
      have S2 := Lib.hid (S1.out.on b)
      clear b
      obtain ⟨k2, x2, n2, l2⟩ := t2
      obtain ⟨a2, c2, rfl, _⟩ := hat.shut
      have hf := fun W => field0 k2 (.string x2) (.int .i64 n2) (.slice a2 l2.length c2) W
      clear hat hg
      go_wp2_with fail
      go_ret
      exact ⟨⟨_, rfl, fun _ => R1.out⟩, S2.out.below⟩

set_option maxRecDepth 100000 in
set_option maxHeartbeats 4000000 in
theorem isCast_ok (W0 : World) (t : Tree) (hcl : ∀ p, Test W0 20 p (Good p)) (hty : ∀ p, Test W0 53 p (Good p)) : Test W0 52 t (Good t) := by
  intro v hv w hw
  obtain ⟨k, x, n, ks⟩ := t
  by_cases hk : k = ⟨#[81, 117, 97, 108, 105, 102, 105, 101, 100]⟩
  · subst hk
    by_cases hs : x = ⟨#[]⟩ ∧ n = 0 ∧ (ks.length : Int) = 2
    · obtain ⟨rfl, rfl, hl⟩ := hs
      obtain ⟨p, q, rfl⟩ := two_kids (ks := ks) (by omega)
      obtain ⟨b, off, c, pa, pc, qa, qc, rfl, hc1, hc2, hkid, hp, hq⟩ := hv.two
      have HP := Lib.hid (fun W => plain_two W ⟨#[81, 117, 97, 108, 105, 102, 105, 101, 100]⟩ (some ⟨b, off, none⟩) c)
      have HK := Lib.hid hkid
      have I1 := Lib.hid (hcl p _ hp)
      clear HK
      have S0 := Lib.hid (St.start hw (.string ⟨#[81, 117, 97, 108, 105, 102, 105, 101, 100]⟩) (.string ⟨#[]⟩) (.int .i64 0) (.slice (some ⟨b, off, none⟩) 2 c))
      obtain ⟨k2, x2, n2, l2⟩ := q
      have HK := Lib.hid (fun W hW => And.intro (hkid W hW).1 ((hkid W hW).2.fields rfl))
      clear hkid hv hp hl hw
      by_cases hk2 : k2 = ⟨#[67, 97, 115, 116]⟩
      · subst hk2
        by_cases hs2 : x2 = ⟨#[]⟩ ∧ n2 = 0 ∧ (l2.length : Int) = 1
        · obtain ⟨rfl, rfl, hl2⟩ := hs2
          obtain ⟨z, rfl⟩ := one_kid (ks := l2) (by omega)
          obtain ⟨b2, off2, c2, za, zc, e2, hd1, hd2, hkid2, hz⟩ := hq.one
          simp only [val, Tree.kind, Tree.text, Tree.num, Tree.kids, Value.agg.injEq, Array.mk.injEq, List.cons.injEq, Value.slice.injEq, and_true, true_and, List.length_cons, List.length_nil] at e2
          obtain ⟨rfl, rfl⟩ := e2
          have HQ1 := Lib.hid (fun W => plain_one W ⟨#[67, 97, 115, 116]⟩ (some ⟨b2, off2, none⟩) qc)
          have HZ := Lib.hid hkid2
          have J1 := Lib.hid (hty z _ hz)
          have J2 := Lib.hid (turned_any W0 z _ hz)
          have J3 := Lib.hid (isReference_any W0 z _ hz)
          have J4 := Lib.hid (has_says W0 ⟨#[84, 101, 109, 112, 108, 97, 116, 101]⟩ z _ hz)
          clear hkid2 hz hq hl2 hty hcl
          simp only [List.length_cons, List.length_nil, Nat.zero_add] at HK
          go_enter Tryz.func52, Tryz.ntmps52
          go_wp2_with fail
          refine (HP.out _).mono ?_
          rintro e w1 ⟨rfl, b⟩
          have S1 := Lib.hid (S0.out.on b)
          clear b
          obtain ⟨⟨p0, p1, p2, p3⟩, ⟨q0, q1, q2, q3⟩⟩ := HK.out _ S1.out.later
          obtain ⟨bx0, bx1, bx2, bx3⟩ := S1.out.box
          go_wp2_with fail
          refine (I1.out _ S1.out.later).mono ?_
          rintro e w2 ⟨⟨r, rfl, hr⟩, b⟩
          have S2 := Lib.hid (S1.out.on b)
          clear b
          try clear p0 p1 p2 p3 q0 q1 q2 q3 bx0 bx1 bx2 bx3
          cases r with
          | false =>
            clear hr
            obtain ⟨⟨p0, p1, p2, p3⟩, ⟨q0, q1, q2, q3⟩⟩ := HK.out _ S2.out.later
            obtain ⟨bx0, bx1, bx2, bx3⟩ := S2.out.box
            go_wp2_with fail
            go_ret
            exact ⟨says_no rfl, S2.out.below⟩
          | true =>
            have R1 := Lib.hid (hr rfl)
            clear hr
            obtain ⟨⟨p0, p1, p2, p3⟩, ⟨q0, q1, q2, q3⟩⟩ := HK.out _ S2.out.later
            obtain ⟨bx0, bx1, bx2, bx3⟩ := S2.out.box
            have S3 := Lib.hid (S2.out.on (box_below w2 (.cells #[.string ⟨#[67, 97, 115, 116]⟩, .string ⟨#[]⟩, .int .i64 0, .slice (some ⟨b2, off2, none⟩) 1 qc] 24)))
            have B3 := Lib.hid (Below.refl (w2.heap.size + 1) (w2.alloc (.cells #[.string ⟨#[67, 97, 115, 116]⟩, .string ⟨#[]⟩, .int .i64 0, .slice (some ⟨b2, off2, none⟩) 1 qc] 24)))
            go_wp2_with fail
            refine (HQ1.out _).mono ?_
            rintro e w4 ⟨rfl, b⟩
            have S4 := Lib.hid (S3.out.on b)
            have B4 := Lib.hid (bx_on B3.out b)
            clear b
            try clear y0 y1 y2 y3 z0 z1 z2 z3
            obtain ⟨y0, y1, y2, y3⟩ := box_at B4.out
            obtain ⟨z0, z1, z2, z3⟩ := HZ.out _ S4.out.later
            go_wp2_with fail
            refine (J1.out _ S4.out.later).mono ?_
            rintro e w5 ⟨⟨r, rfl, hr⟩, b⟩
            have S5 := Lib.hid (S4.out.on b)
            have B5 := Lib.hid (bx_on B4.out b)
            clear b
            try clear y0 y1 y2 y3 z0 z1 z2 z3
            cases r with
            | false =>
              clear hr
              obtain ⟨y0, y1, y2, y3⟩ := box_at B5.out
              obtain ⟨z0, z1, z2, z3⟩ := HZ.out _ S5.out.later
              go_wp2_with fail
              go_ret
              exact ⟨says_no rfl, S5.out.below⟩
            | true =>
              have R2 := Lib.hid (hr rfl)
              clear hr
              obtain ⟨y0, y1, y2, y3⟩ := box_at B5.out
              obtain ⟨z0, z1, z2, z3⟩ := HZ.out _ S5.out.later
              go_wp2_with fail
              refine (J2.out _ S5.out.later).mono ?_
              rintro e w6 ⟨⟨r, rfl, hr⟩, b⟩
              have S6 := Lib.hid (S5.out.on b)
              have B6 := Lib.hid (bx_on B5.out b)
              clear b
              try clear y0 y1 y2 y3 z0 z1 z2 z3
              cases r with
              | false =>
                clear hr
                obtain ⟨y0, y1, y2, y3⟩ := box_at B6.out
                obtain ⟨z0, z1, z2, z3⟩ := HZ.out _ S6.out.later
                go_wp2_with fail
                refine (J3.out _ S6.out.later).mono ?_
                rintro e w7 ⟨⟨r, rfl, hr⟩, b⟩
                have S7 := Lib.hid (S6.out.on b)
                have B7 := Lib.hid (bx_on B6.out b)
                clear b
                try clear y0 y1 y2 y3 z0 z1 z2 z3
                cases r with
                | false =>
                  clear hr
                  obtain ⟨y0, y1, y2, y3⟩ := box_at B7.out
                  obtain ⟨z0, z1, z2, z3⟩ := HZ.out _ S7.out.later
                  go_wp2_with fail
                  refine (J4.out _ S7.out.later).mono ?_
                  rintro e w8 ⟨⟨r, rfl, hr⟩, b⟩
                  have S8 := Lib.hid (S7.out.on b)
                  have B8 := Lib.hid (bx_on B7.out b)
                  clear b
                  try clear y0 y1 y2 y3 z0 z1 z2 z3
                  cases r with
                  | false =>
                    clear hr
                    obtain ⟨y0, y1, y2, y3⟩ := box_at B8.out
                    obtain ⟨z0, z1, z2, z3⟩ := HZ.out _ S8.out.later
                    go_wp2_with fail
                    go_ret
                    exact ⟨⟨_, rfl, fun _ => .qualified R1.out (.cast R2.out)⟩, S8.out.below⟩
                  | true =>
                    clear hr
                    obtain ⟨y0, y1, y2, y3⟩ := box_at B8.out
                    obtain ⟨z0, z1, z2, z3⟩ := HZ.out _ S8.out.later
                    go_wp2_with fail
                    go_ret
                    exact ⟨says_no rfl, S8.out.below⟩
                | true =>
                  clear hr
                  obtain ⟨y0, y1, y2, y3⟩ := box_at B7.out
                  obtain ⟨z0, z1, z2, z3⟩ := HZ.out _ S7.out.later
                  go_wp2_with fail
                  go_ret
                  exact ⟨says_no rfl, S7.out.below⟩
              | true =>
                clear hr
                obtain ⟨y0, y1, y2, y3⟩ := box_at B6.out
                obtain ⟨z0, z1, z2, z3⟩ := HZ.out _ S6.out.later
                go_wp2_with fail
                go_ret
                exact ⟨says_no rfl, S6.out.below⟩
        · have HQ1 := Lib.hid (fun W => plain_not W ⟨#[67, 97, 115, 116]⟩ x2 n2 l2.length qa qc 1 hs2)
          clear hs2 hq hty hcl
          go_enter Tryz.func52, Tryz.ntmps52
          go_wp2_with fail
          refine (HP.out _).mono ?_
          rintro e w1 ⟨rfl, b⟩
          have S1 := Lib.hid (S0.out.on b)
          clear b
          obtain ⟨⟨p0, p1, p2, p3⟩, ⟨q0, q1, q2, q3⟩⟩ := HK.out _ S1.out.later
          obtain ⟨bx0, bx1, bx2, bx3⟩ := S1.out.box
          go_wp2_with fail
          refine (I1.out _ S1.out.later).mono ?_
          rintro e w2 ⟨⟨r, rfl, hr⟩, b⟩
          have S2 := Lib.hid (S1.out.on b)
          clear b
          try clear p0 p1 p2 p3 q0 q1 q2 q3 bx0 bx1 bx2 bx3
          cases r with
          | false =>
            clear hr
            obtain ⟨⟨p0, p1, p2, p3⟩, ⟨q0, q1, q2, q3⟩⟩ := HK.out _ S2.out.later
            obtain ⟨bx0, bx1, bx2, bx3⟩ := S2.out.box
            go_wp2_with fail
            go_ret
            exact ⟨says_no rfl, S2.out.below⟩
          | true =>
            have R1 := Lib.hid (hr rfl)
            clear hr
            obtain ⟨⟨p0, p1, p2, p3⟩, ⟨q0, q1, q2, q3⟩⟩ := HK.out _ S2.out.later
            obtain ⟨bx0, bx1, bx2, bx3⟩ := S2.out.box
            have S3 := Lib.hid (S2.out.on (box_below w2 (.cells #[.string ⟨#[67, 97, 115, 116]⟩, .string x2, .int .i64 n2, .slice qa l2.length qc] 24)))
            have B3 := Lib.hid (Below.refl (w2.heap.size + 1) (w2.alloc (.cells #[.string ⟨#[67, 97, 115, 116]⟩, .string x2, .int .i64 n2, .slice qa l2.length qc] 24)))
            go_wp2_with fail
            refine (HQ1.out _).mono ?_
            rintro e w4 ⟨rfl, b⟩
            have S4 := Lib.hid (S3.out.on b)
            have B4 := Lib.hid (bx_on B3.out b)
            clear b
            try clear y0 y1 y2 y3
            obtain ⟨y0, y1, y2, y3⟩ := box_at B4.out
            go_wp2_with fail
            go_ret
            exact ⟨says_no rfl, S4.out.below⟩
      · have hk2' : (k2.toList == [67, 97, 115, 116]) = false := ne_of hk2
        clear hk2 hq hty hcl
        go_enter Tryz.func52, Tryz.ntmps52
        go_wp2_with fail
        refine (HP.out _).mono ?_
        rintro e w1 ⟨rfl, b⟩
        have S1 := Lib.hid (S0.out.on b)
        clear b
        obtain ⟨⟨p0, p1, p2, p3⟩, ⟨q0, q1, q2, q3⟩⟩ := HK.out _ S1.out.later
        obtain ⟨bx0, bx1, bx2, bx3⟩ := S1.out.box
        go_wp2_with fail
        refine (I1.out _ S1.out.later).mono ?_
        rintro e w2 ⟨⟨r, rfl, hr⟩, b⟩
        have S2 := Lib.hid (S1.out.on b)
        clear b
        try clear p0 p1 p2 p3 q0 q1 q2 q3 bx0 bx1 bx2 bx3
        cases r with
        | false =>
          clear hr
          obtain ⟨⟨p0, p1, p2, p3⟩, ⟨q0, q1, q2, q3⟩⟩ := HK.out _ S2.out.later
          obtain ⟨bx0, bx1, bx2, bx3⟩ := S2.out.box
          go_wp2_with fail
          go_ret
          exact ⟨says_no rfl, S2.out.below⟩
        | true =>
          have R1 := Lib.hid (hr rfl)
          clear hr
          obtain ⟨⟨p0, p1, p2, p3⟩, ⟨q0, q1, q2, q3⟩⟩ := HK.out _ S2.out.later
          obtain ⟨bx0, bx1, bx2, bx3⟩ := S2.out.box
          have S3 := Lib.hid (S2.out.on (box_below w2 (.cells #[.string k2, .string x2, .int .i64 n2, .slice qa l2.length qc] 24)))
          have B3 := Lib.hid (Below.refl (w2.heap.size + 1) (w2.alloc (.cells #[.string k2, .string x2, .int .i64 n2, .slice qa l2.length qc] 24)))
          go_wp2_with fail
          go_ret
          exact ⟨says_no rfl, S3.out.below⟩
    · obtain ⟨a, c, rfl, _⟩ := hv.shut
      have HP := Lib.hid (fun W => plain_not W ⟨#[81, 117, 97, 108, 105, 102, 105, 101, 100]⟩ x n ks.length a c 2 hs)
      have S0 := Lib.hid (St.start hw (.string ⟨#[81, 117, 97, 108, 105, 102, 105, 101, 100]⟩) (.string x) (.int .i64 n) (.slice a ks.length c))
      clear hv hs hw
      go_enter Tryz.func52, Tryz.ntmps52
      go_wp2_with fail
      refine (HP.out _).mono ?_
      rintro e w1 ⟨rfl, b⟩
      have S1 := Lib.hid (S0.out.on b)
      clear b
      obtain ⟨bx0, bx1, bx2, bx3⟩ := S1.out.box
      go_wp2_with fail
      go_ret
      exact ⟨says_no rfl, S1.out.below⟩
  · have hk' : (k.toList == [81, 117, 97, 108, 105, 102, 105, 101, 100]) = false := ne_of hk
    obtain ⟨a, c, rfl, _⟩ := hv.shut
    have S0 := Lib.hid (St.start hw (.string k) (.string x) (.int .i64 n) (.slice a ks.length c))
    clear hv hw
    go_enter Tryz.func52, Tryz.ntmps52
    go_wp2_with fail
    go_ret
    exact ⟨says_no rfl, S0.out.below⟩

end Go.Proofs.YtnhccgbkalpcnaaGreatDoor
