/- Functions, methods, encodings. -/
import Derived.Test.YtnhccgbkalpcnaaGreatDoorEnc2
namespace Go.Proofs.YtnhccgbkalpcnaaGreatDoor
open Go.RowKit

/-- a function -/
def FunP (t : Tree) : Prop := ∃ a f, t = .node ⟨#[84, 121, 112, 101, 100]⟩ ⟨#[]⟩ 0 [a, f] ∧ Good a ∧ Good f
theorem FunP.good {t : Tree} (h : FunP t) : Good t := by
  obtain ⟨a, f, rfl, ha, hf⟩ := h
  exact .typed ha hf

set_option maxRecDepth 100000 in
set_option maxHeartbeats 4000000 in
theorem isFunctionName_ok (W0 : World) (t : Tree) (hww : ∀ p, Test W0 49 p (Good p)) (ho : ∀ p, Test W0 50 p (Good p)) (hm : ∀ p, Test W0 51 p (Good p)) (hc : ∀ p, Test W0 52 p (Good p)) (htm : Test W0 39 t (TmplP t.text t.num t.kids)) : Test W0 30 t (Good t) := by
  intro v hv w hw
  have I1 := Lib.hid (hww t _ hv)
  have I2 := Lib.hid (ho t _ hv)
  have I3 := Lib.hid (hm t _ hv)
  have I4 := Lib.hid (hc t _ hv)
  have IT := Lib.hid (htm _ hv)
  obtain ⟨k, x, n, ks⟩ := t
  by_cases hk : k = ⟨#[84, 101, 109, 112, 108, 97, 116, 101]⟩
  · subst hk
    obtain ⟨sv, rfl, hl⟩ := hv.kids
    match ks, hl, IT with
    | [], hl, IT =>
      obtain ⟨a, c, rfl, _⟩ := hl
      have S0 := Lib.hid (St.start hw (.string ⟨#[84, 101, 109, 112, 108, 97, 116, 101]⟩) (.string x) (.int .i64 n) (.slice a 0 c))
      have NO := Lib.hid (show ¬ TmplP x n [] from fun h => by obtain ⟨_, _, p, l, e, _⟩ := h; cases e)
      simp only [List.length_nil] at IT
      clear hv hw I1 I2 I3 I4
      simp only [List.length_nil]
      go_enter Tryz.func30, Tryz.ntmps30
      go_wp2_with fail
      refine (IT.out _ S0.out.later).mono ?_
      rintro e w1 ⟨⟨r, rfl, hr⟩, b⟩
      have S1 := Lib.hid (S0.out.on b)
      clear b
      cases r with
      | true => exact absurd (hr rfl) NO.out
      | false =>
        clear hr
        go_wp2_with fail
        go_ret
        exact ⟨says_no rfl, S1.out.below⟩
    | p :: l, hl, IT =>
      obtain ⟨b, off, c, pa, pc, rfl, hc1, hc2, hkid, hp⟩ := hl.first
      have S0 := Lib.hid (St.start hw (.string ⟨#[84, 101, 109, 112, 108, 97, 116, 101]⟩) (.string x) (.int .i64 n) (.slice (some ⟨b, off, none⟩) (l.length + 1) c))
      have J0 := Lib.hid (isStd_any W0 p _ hp)
      have J1 := Lib.hid (hww p _ hp)
      have J2 := Lib.hid (ho p _ hp)
      have J3 := Lib.hid (hm p _ hp)
      have FIN := Lib.hid (fun (h : TmplP x n (p :: l)) (hp : Good p) => good_template h hp)
      have hd0 : decide ((0 : Int) < (l.length : Int) + 1) = true := decide_eq_true (by omega)
      obtain ⟨k1, x1, n1, l1⟩ := p
      have HK := Lib.hid (fun W hW => (hkid W hW).fields rfl)
      clear hv hw hl hkid hp I1 I2 I3 I4 hww ho hm hc htm
      by_cases hk1 : k1 = ⟨#[84, 101, 109, 112, 108, 97, 116, 101]⟩
      · subst hk1
        go_enter Tryz.func30, Tryz.ntmps30
        go_wp2_with fail
        refine (IT.out _ S0.out.later).mono ?_
        rintro e w1 ⟨⟨r, rfl, hr⟩, b⟩
        have S1 := Lib.hid (S0.out.on b)
        clear b
        cases r with
        | false =>
          clear hr
          obtain ⟨p0, p1, p2, p3⟩ := HK.out _ S1.out.later
          obtain ⟨bx0, bx1, bx2, bx3⟩ := S1.out.box
          go_wp2_with fail
          go_ret
          exact ⟨says_no rfl, S1.out.below⟩
        | true =>
          have R1 := Lib.hid (hr rfl)
          clear hr
          obtain ⟨p0, p1, p2, p3⟩ := HK.out _ S1.out.later
          obtain ⟨bx0, bx1, bx2, bx3⟩ := S1.out.box
          go_wp2_with fail
          go_ret
          exact ⟨says_no rfl, S1.out.below⟩
      · have hk1' : (k1.toList == [84, 101, 109, 112, 108, 97, 116, 101]) = false := ne_of hk1
        clear hk1
        go_enter Tryz.func30, Tryz.ntmps30
        go_wp2_with fail
        refine (IT.out _ S0.out.later).mono ?_
        rintro e w1 ⟨⟨r, rfl, hr⟩, b⟩
        have S1 := Lib.hid (S0.out.on b)
        clear b
        cases r with
        | false =>
          clear hr
          obtain ⟨p0, p1, p2, p3⟩ := HK.out _ S1.out.later
          obtain ⟨bx0, bx1, bx2, bx3⟩ := S1.out.box
          go_wp2_with fail
          go_ret
          exact ⟨says_no rfl, S1.out.below⟩
        | true =>
          have R1 := Lib.hid (hr rfl)
          clear hr
          obtain ⟨p0, p1, p2, p3⟩ := HK.out _ S1.out.later
          obtain ⟨bx0, bx1, bx2, bx3⟩ := S1.out.box
          go_wp2_with fail
          refine (J0.out _ S1.out.later).mono ?_
          rintro e w2 ⟨⟨r, rfl, hr⟩, b⟩
          have S2 := Lib.hid (S1.out.on b)
          clear b
          try clear p0 p1 p2 p3 bx0 bx1 bx2 bx3
          cases r with
          | false =>
            clear hr
            obtain ⟨p0, p1, p2, p3⟩ := HK.out _ S2.out.later
            obtain ⟨bx0, bx1, bx2, bx3⟩ := S2.out.box
            go_wp2_with fail
            refine (J1.out _ S2.out.later).mono ?_
            rintro e w3 ⟨⟨r, rfl, hr⟩, b⟩
            have S3 := Lib.hid (S2.out.on b)
            clear b
            try clear p0 p1 p2 p3 bx0 bx1 bx2 bx3
            cases r with
            | false =>
              clear hr
              obtain ⟨p0, p1, p2, p3⟩ := HK.out _ S3.out.later
              obtain ⟨bx0, bx1, bx2, bx3⟩ := S3.out.box
              go_wp2_with fail
              refine (J2.out _ S3.out.later).mono ?_
              rintro e w4 ⟨⟨r, rfl, hr⟩, b⟩
              have S4 := Lib.hid (S3.out.on b)
              clear b
              try clear p0 p1 p2 p3 bx0 bx1 bx2 bx3
              cases r with
              | false =>
                clear hr
                obtain ⟨p0, p1, p2, p3⟩ := HK.out _ S4.out.later
                obtain ⟨bx0, bx1, bx2, bx3⟩ := S4.out.box
                go_wp2_with fail
                refine (J3.out _ S4.out.later).mono ?_
                rintro e w5 ⟨⟨r, rfl, hr⟩, b⟩
                have S5 := Lib.hid (S4.out.on b)
                clear b
                try clear p0 p1 p2 p3 bx0 bx1 bx2 bx3
                cases r with
                | false =>
                  clear hr
                  obtain ⟨p0, p1, p2, p3⟩ := HK.out _ S5.out.later
                  obtain ⟨bx0, bx1, bx2, bx3⟩ := S5.out.box
                  go_wp2_with fail
                  go_ret
                  exact ⟨says_no rfl, S5.out.below⟩
                | true =>
                  have R4 := Lib.hid (hr rfl)
                  clear hr
                  obtain ⟨p0, p1, p2, p3⟩ := HK.out _ S5.out.later
                  obtain ⟨bx0, bx1, bx2, bx3⟩ := S5.out.box
                  go_wp2_with fail
                  go_ret
                  exact ⟨⟨_, rfl, fun _ => FIN.out R1.out R4.out⟩, S5.out.below⟩
              | true =>
                have R3 := Lib.hid (hr rfl)
                clear hr
                obtain ⟨p0, p1, p2, p3⟩ := HK.out _ S4.out.later
                obtain ⟨bx0, bx1, bx2, bx3⟩ := S4.out.box
                go_wp2_with fail
                go_ret
                exact ⟨⟨_, rfl, fun _ => FIN.out R1.out R3.out⟩, S4.out.below⟩
            | true =>
              have R2 := Lib.hid (hr rfl)
              clear hr
              obtain ⟨p0, p1, p2, p3⟩ := HK.out _ S3.out.later
              obtain ⟨bx0, bx1, bx2, bx3⟩ := S3.out.box
              go_wp2_with fail
              go_ret
              exact ⟨⟨_, rfl, fun _ => FIN.out R1.out R2.out⟩, S3.out.below⟩
          | true =>
            clear hr
            obtain ⟨p0, p1, p2, p3⟩ := HK.out _ S2.out.later
            obtain ⟨bx0, bx1, bx2, bx3⟩ := S2.out.box
            go_wp2_with fail
            go_ret
            exact ⟨says_no rfl, S2.out.below⟩
  · have hk' : (k.toList == [84, 101, 109, 112, 108, 97, 116, 101]) = false := ne_of hk
    obtain ⟨a, c, rfl, _⟩ := hv.shut
    have S0 := Lib.hid (St.start hw (.string k) (.string x) (.int .i64 n) (.slice a ks.length c))
    clear hv hw hk IT hww ho hm hc htm
    go_enter Tryz.func30, Tryz.ntmps30
    go_wp2_with fail
    refine (I1.out _ S0.out.later).mono ?_
    rintro e w1 ⟨⟨r, rfl, hr⟩, b⟩
    have S1 := Lib.hid (S0.out.on b)
    clear b
    cases r with
    | false =>
      clear hr
      obtain ⟨bx0, bx1, bx2, bx3⟩ := S1.out.box
      go_wp2_with fail
      refine (I2.out _ S1.out.later).mono ?_
      rintro e w2 ⟨⟨r, rfl, hr⟩, b⟩
      have S2 := Lib.hid (S1.out.on b)
      clear b
      try clear bx0 bx1 bx2 bx3
      cases r with
      | false =>
        clear hr
        obtain ⟨bx0, bx1, bx2, bx3⟩ := S2.out.box
        go_wp2_with fail
        refine (I3.out _ S2.out.later).mono ?_
        rintro e w3 ⟨⟨r, rfl, hr⟩, b⟩
        have S3 := Lib.hid (S2.out.on b)
        clear b
        try clear bx0 bx1 bx2 bx3
        cases r with
        | false =>
          clear hr
          obtain ⟨bx0, bx1, bx2, bx3⟩ := S3.out.box
          go_wp2_with fail
          refine (I4.out _ S3.out.later).mono ?_
          rintro e w4 ⟨⟨r, rfl, hr⟩, b⟩
          have S4 := Lib.hid (S3.out.on b)
          clear b
          try clear bx0 bx1 bx2 bx3
          cases r with
          | false =>
            clear hr
            obtain ⟨bx0, bx1, bx2, bx3⟩ := S4.out.box
            go_wp2_with fail
            go_ret
            exact ⟨says_no rfl, S4.out.below⟩
          | true =>
            have R4 := Lib.hid (hr rfl)
            clear hr
            obtain ⟨bx0, bx1, bx2, bx3⟩ := S4.out.box
            go_wp2_with fail
            go_ret
            exact ⟨⟨_, rfl, fun _ => R4.out⟩, S4.out.below⟩
        | true =>
          have R3 := Lib.hid (hr rfl)
          clear hr
          obtain ⟨bx0, bx1, bx2, bx3⟩ := S3.out.box
          go_wp2_with fail
          go_ret
          exact ⟨⟨_, rfl, fun _ => R3.out⟩, S3.out.below⟩
      | true =>
        have R2 := Lib.hid (hr rfl)
        clear hr
        obtain ⟨bx0, bx1, bx2, bx3⟩ := S2.out.box
        go_wp2_with fail
        go_ret
        exact ⟨⟨_, rfl, fun _ => R2.out⟩, S2.out.below⟩
    | true =>
      have R1 := Lib.hid (hr rfl)
      clear hr
      obtain ⟨bx0, bx1, bx2, bx3⟩ := S1.out.box
      go_wp2_with fail
      go_ret
      exact ⟨⟨_, rfl, fun _ => R1.out⟩, S1.out.below⟩

set_option maxRecDepth 100000 in
set_option maxHeartbeats 4000000 in
theorem returns_any (W0 : World) (t : Tree) (hg : Good t) (hm : ∀ p, Test W0 51 p (Good p)) (v : Value) (hv : At W0 t v) (w : World) (hw : Later W0 w) : Calls Tryz.prog 32 #[v] w fun e w' => Says True e ∧ Below w.heap.size w w' := by
  obtain ⟨k, x, n, ks⟩ := t
  by_cases hk : k = ⟨#[84, 101, 109, 112, 108, 97, 116, 101]⟩
  · subst hk
    obtain ⟨p, l, rfl, _⟩ := good_tmpl hg rfl
    obtain ⟨sv, rfl, hl⟩ := hv.kids
    obtain ⟨b, off, c, pa, pc, rfl, hc1, hc2, hkid, hp⟩ := hl.first
    have S0 := Lib.hid (St.start hw (.string ⟨#[84, 101, 109, 112, 108, 97, 116, 101]⟩) (.string x) (.int .i64 n) (.slice (some ⟨b, off, none⟩) (l.length + 1) c))
    have J1 := Lib.hid (hm p _ hp)
    have HK := Lib.hid hkid
    clear hv hw hl hkid hp hg hm
    obtain ⟨p0, p1, p2, p3⟩ := HK.out _ S0.out.later
    go_enter Tryz.func32, Tryz.ntmps32
    go_wp2_with fail
    refine (J1.out _ S0.out.later).mono ?_
    rintro e w1 ⟨⟨r, rfl, hr⟩, b⟩
    have S1 := Lib.hid (S0.out.on b)
    clear b
    cases r with
    | false =>
      clear hr
      obtain ⟨p0, p1, p2, p3⟩ := HK.out _ S1.out.later
      obtain ⟨bx0, bx1, bx2, bx3⟩ := S1.out.box
      go_wp2_with fail
      go_ret
      exact ⟨⟨_, rfl, fun _ => trivial⟩, S1.out.below⟩
    | true =>
      clear hr
      obtain ⟨p0, p1, p2, p3⟩ := HK.out _ S1.out.later
      obtain ⟨bx0, bx1, bx2, bx3⟩ := S1.out.box
      go_wp2_with fail
      go_ret
      exact ⟨says_no rfl, S1.out.below⟩
  · have hk' : (k.toList == [84, 101, 109, 112, 108, 97, 116, 101]) = false := ne_of hk
    obtain ⟨a, c, rfl, _⟩ := hv.shut
    have S0 := Lib.hid (St.start hw (.string k) (.string x) (.int .i64 n) (.slice a ks.length c))
    clear hv hw hk hg hm
    go_enter Tryz.func32, Tryz.ntmps32
    go_wp2_with fail
    go_ret
    exact ⟨says_no rfl, S0.out.below⟩

theorem St.reput {W0 w wi : World} {a b c d : Value} (h : St W0 w a b c d wi) (hw : Later W0 w) (a' b' c' d' : Value) :
    St W0 w a' b' c' d' ((((wi.setCell ⟨w.heap.size, 0, none⟩ a').setCell ⟨w.heap.size, 1, none⟩ b').setCell ⟨w.heap.size, 2, none⟩ c').setCell ⟨w.heap.size, 3, none⟩ d') := by
  have hB : Below w.heap.size wi ((((wi.setCell ⟨w.heap.size, 0, none⟩ a').setCell ⟨w.heap.size, 1, none⟩ b').setCell ⟨w.heap.size, 2, none⟩ c').setCell ⟨w.heap.size, 3, none⟩ d') :=
    ((((Below.refl _ wi).setCell (p := ⟨w.heap.size, 0, none⟩) (Nat.le_refl _) a').setCell (p := ⟨w.heap.size, 1, none⟩) (Nat.le_refl _) b').setCell (p := ⟨w.heap.size, 2, none⟩) (Nat.le_refl _) c').setCell (p := ⟨w.heap.size, 3, none⟩) (Nat.le_refl _) d'
  have h0 := h.b.block w.heap.size (by omega)
  rw [heap_alloc_new w] at h0
  have h1 := heap_setCell_same (k := 3) (v := d') (heap_setCell_same (k := 2) (v := c') (heap_setCell_same (k := 1) (v := b') (heap_setCell_same (k := 0) (v := a') h0)))
  refine ⟨⟨h.later.below.trans (hB.mono hw.below.size), h.later.tables.below (by have := hw.tables.1; omega) hB⟩, ⟨h.below.os ▸ hB.os, h.below.tape ▸ hB.tape, h.below.output ▸ hB.output, ?_, fun k hk => ?_⟩, Nat.lt_of_lt_of_le h.sz hB.size⟩
  · have := hB.size
    have := h.sz
    simp
    omega
  · rcases Nat.lt_or_ge k w.heap.size with h2 | h2
    · rw [hB.block k h2, h.below.block k h2, Below.heap_alloc _ _ _ h2]
    · obtain rfl : k = w.heap.size := by omega
      rw [heap_alloc_new w]
      simpa using h1

set_option maxRecDepth 100000 in
set_option maxHeartbeats 4000000 in
theorem inScope_any (W0 : World) (t : Tree) (hg : Good t) (v : Value) (hv : At W0 t v) (w : World) (hw : Later W0 w) : Calls Tryz.prog 36 #[v] w fun e w' => Says True e ∧ Below w.heap.size w w' := by
  obtain ⟨k, x, n, ks⟩ := t
  by_cases hk : k = ⟨#[84, 101, 109, 112, 108, 97, 116, 101]⟩
  · subst hk
    obtain ⟨q, l, rfl, hgq⟩ := good_tmpl hg rfl
    obtain ⟨sv, rfl, hl⟩ := hv.kids
    obtain ⟨b, off, c, pa, pc, rfl, hc1, hc2, hkid, hq⟩ := hl.first
    have T0 := Lib.hid (St.start hw (.string ⟨#[84, 101, 109, 112, 108, 97, 116, 101]⟩) (.string x) (.int .i64 n) (.slice (some ⟨b, off, none⟩) (l.length + 1) c))
    have S0 := Lib.hid (St.start hw (.string q.kind) (.string q.text) (.int .i64 q.num) (.slice pa q.kids.length pc))
    obtain ⟨q0, q1, q2, q3⟩ := hkid _ T0.out.later
    obtain ⟨k1, x1, n1, ks1⟩ := q
    simp only [Tree.kind, Tree.text, Tree.num, Tree.kids] at S0 q0 q1 q2 q3
    by_cases hk1 : k1 = ⟨#[81, 117, 97, 108, 105, 102, 105, 101, 100]⟩
    · subst hk1
      obtain ⟨p, p2, rfl, _, _⟩ := good_qual hgq rfl
      obtain ⟨b2, off2, cc2, pa2, pc2, qa2, qc2, e2, hd1, hd2, hkid2, hp, _⟩ := hq.two
      simp only [val, Tree.kind, Tree.text, Tree.num, Tree.kids, Value.agg.injEq, Array.mk.injEq, List.cons.injEq, Value.slice.injEq, and_true, true_and, List.length_cons, List.length_nil] at e2
      obtain ⟨rfl, rfl⟩ := e2
      simp only [List.length_cons, List.length_nil, Nat.zero_add, Nat.reduceAdd] at S0 q3
      have J1 := Lib.hid (isStd_any W0 p _ hp)
      have HK := Lib.hid (fun W hW => (hkid2 W hW).1)
      obtain ⟨p0, p1, p2', p3⟩ := HK.out _ S0.out.later
      clear hv hw hl hkid hkid2 hp hq hgq hg
      go_enter Tryz.func36, Tryz.ntmps36
      go_wp2_with fail
      refine (J1.out _ S0.out.later).mono ?_
      rintro e w1 ⟨⟨r, rfl, hr⟩, b⟩
      have S1 := Lib.hid (S0.out.on b)
      clear b
      cases r with
      | false =>
        clear hr
        obtain ⟨p0, p1, p2', p3⟩ := HK.out _ S1.out.later
        obtain ⟨bx0, bx1, bx2, bx3⟩ := S1.out.box
        go_wp2_with fail
        go_ret
        exact ⟨⟨_, rfl, fun _ => trivial⟩, S1.out.below⟩
      | true =>
        clear hr
        obtain ⟨p0, p1, p2', p3⟩ := HK.out _ S1.out.later
        obtain ⟨bx0, bx1, bx2, bx3⟩ := S1.out.box
        go_wp2_with fail
        go_ret
        exact ⟨says_no rfl, S1.out.below⟩
    · have hk1' : (k1.toList == [81, 117, 97, 108, 105, 102, 105, 101, 100]) = false := ne_of hk1
      clear hv hw hl hkid hq hgq hg hk1
      go_enter Tryz.func36, Tryz.ntmps36
      go_wp2_with fail
      go_ret
      exact ⟨says_no rfl, S0.out.below⟩
  · have hk' : (k.toList == [84, 101, 109, 112, 108, 97, 116, 101]) = false := ne_of hk
    clear hk
    by_cases hk1 : k = ⟨#[81, 117, 97, 108, 105, 102, 105, 101, 100]⟩
    · subst hk1
      obtain ⟨p, p2, rfl, _, _⟩ := good_qual hg rfl
      obtain ⟨b, off, c, pa, pc, qa, qc, rfl, hc1, hc2, hkid, hp, _⟩ := hv.two
      have J1 := Lib.hid (isStd_any W0 p _ hp)
      have HK := Lib.hid (fun W hW => (hkid W hW).1)
      have S0 := Lib.hid (St.start hw (.string ⟨#[81, 117, 97, 108, 105, 102, 105, 101, 100]⟩) (.string x) (.int .i64 n) (.slice (some ⟨b, off, none⟩) 2 c))
      obtain ⟨p0, p1, p2', p3⟩ := HK.out _ S0.out.later
      clear hv hw hkid hp hg hk'
      go_enter Tryz.func36, Tryz.ntmps36
      go_wp2_with fail
      refine (J1.out _ S0.out.later).mono ?_
      rintro e w1 ⟨⟨r, rfl, hr⟩, b⟩
      have S1 := Lib.hid (S0.out.on b)
      clear b
      cases r with
      | false =>
        clear hr
        obtain ⟨p0, p1, p2', p3⟩ := HK.out _ S1.out.later
        obtain ⟨bx0, bx1, bx2, bx3⟩ := S1.out.box
        go_wp2_with fail
        go_ret
        exact ⟨⟨_, rfl, fun _ => trivial⟩, S1.out.below⟩
      | true =>
        clear hr
        obtain ⟨p0, p1, p2', p3⟩ := HK.out _ S1.out.later
        obtain ⟨bx0, bx1, bx2, bx3⟩ := S1.out.box
        go_wp2_with fail
        go_ret
        exact ⟨says_no rfl, S1.out.below⟩
    · have hk1' : (k.toList == [81, 117, 97, 108, 105, 102, 105, 101, 100]) = false := ne_of hk1
      obtain ⟨a, c, rfl, _⟩ := hv.shut
      have S0 := Lib.hid (St.start hw (.string k) (.string x) (.int .i64 n) (.slice a ks.length c))
      clear hv hw hg hk1
      go_enter Tryz.func36, Tryz.ntmps36
      go_wp2_with fail
      go_ret
      exact ⟨says_no rfl, S0.out.below⟩

end Go.Proofs.YtnhccgbkalpcnaaGreatDoor
