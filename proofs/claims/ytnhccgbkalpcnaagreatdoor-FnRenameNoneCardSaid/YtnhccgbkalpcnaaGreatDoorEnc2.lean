/- Makers. -/
import Derived.Test.YtnhccgbkalpcnaaGreatDoorEnc1
import Derived.Deep.Cut
namespace Go.Proofs.YtnhccgbkalpcnaaGreatDoor
open Go.RowKit

/-- some part of the tree -/
def PartV (W0 w : World) (e : Ending) (w' : World) : Prop := ∃ t v, e = .returned v ∧ At W0 t v ∧ Below w.heap.size w w'
theorem same_says2 (W0 : World) (s t : Tree) (vs vt : Value) (hs : At W0 s vs) (ht : At W0 t vt) (W : World) (hW : Later W0 W) : Calls Tryz.prog 15 #[vs, vt] W fun e w' => Tells (s = t) e ∧ Below W.heap.size W w' :=
  same_tells W s t vs vt (hs.in_ hW) (ht.in_ hW)
theorem same_yes (W0 : World) (s t : Tree) (vs vt : Value) (hs : At W0 s vs) (ht : At W0 t vt) (h : s = t) (W : World) (hW : Later W0 W) : Calls Tryz.prog 15 #[vs, vt] W fun e w' => e = .returned (.bool true) ∧ Below W.heap.size W w' := by
  refine (same_says2 W0 s t vs vt hs ht W hW).mono ?_
  rintro e w' ⟨⟨r, rfl, hr⟩, b⟩
  rw [hr.2 h]
  exact ⟨rfl, b⟩
theorem same_not (W0 : World) (s t : Tree) (vs vt : Value) (hs : At W0 s vs) (ht : At W0 t vt) (h : ¬ s = t) (W : World) (hW : Later W0 W) : Calls Tryz.prog 15 #[vs, vt] W fun e w' => e = .returned (.bool false) ∧ Below W.heap.size W w' := by
  refine (same_says2 W0 s t vs vt hs ht W hW).mono ?_
  rintro e w' ⟨⟨r, rfl, hr⟩, b⟩
  cases r with
  | false => exact ⟨rfl, b⟩
  | true => exact absurd (hr.1 rfl) h

theorem Boxed.done {W0 w wr : World} {a b c d : Value} (h : Boxed W0 w wr a b c d) (_hw : Later W0 w) : ∀ a b c d, Below w.heap.size w ((((wr.setCell ⟨w.heap.size + 1, 0, none⟩ a).setCell ⟨w.heap.size + 1, 1, none⟩ b).setCell ⟨w.heap.size + 1, 2, none⟩ c).setCell ⟨w.heap.size + 1, 3, none⟩ d) := fun a b c d =>
  h.below.trans (((((Below.refl _ wr).setCell (p := ⟨w.heap.size + 1, 0, none⟩) (by simp) a).setCell (p := ⟨w.heap.size + 1, 1, none⟩) (by simp) b).setCell (p := ⟨w.heap.size + 1, 2, none⟩) (by simp) c).setCell (p := ⟨w.heap.size + 1, 3, none⟩) (by simp) d)

set_option maxRecDepth 100000 in
set_option maxHeartbeats 800000 in
theorem tail_any (W0 : World) (t : Tree) (hg : Good t) (v : Value) (hv : At W0 t v) (w : World) (hw : Later W0 w) : Calls Tryz.prog 62 #[v] w fun e w' => PartV W0 w e w' := by
  obtain ⟨k, x, n, ks⟩ := t
  have AT := Lib.hid hv
  have HG := Lib.hid hg
  have HW := Lib.hid hw
  obtain ⟨a, c, rfl, _⟩ := hv.shut
  have HB := Lib.hid (Boxed.start hw (.string k) (.string x) (.int .i64 n) (.slice a ks.length c))
  clear hv hg hw
  go_enter Tryz.func62, Tryz.ntmps62
  go_upto_region 1 with fail
  generalize ((w.alloc (.cells #[.string k, .string x, .int .i64 n, .slice a ks.length c] 24)).alloc (.cells #[.string ⟨#[]⟩, .string ⟨#[]⟩, .int .i64 0, .slice none 0 0] 24)) = wr at HB ⊢
  by_cases hk : k = ⟨#[84, 101, 109, 112, 108, 97, 116, 101]⟩
  · subst hk
    obtain ⟨p, l, rfl, hgp⟩ := good_tmpl HG.out rfl
    have AT' := AT.out
    obtain ⟨sv, e, hl⟩ := AT'.kids
    simp only [Value.agg.injEq, Array.mk.injEq, List.cons.injEq, and_true, true_and] at e
    subst e
    obtain ⟨b, off, c2, pa, pc, e, hc1, hc2, hkid, hpa⟩ := hl.first
    simp only [Value.slice.injEq, true_and, List.length_cons] at e
    obtain ⟨rfl, rfl⟩ := e
    obtain ⟨p0, p1, p2, p3⟩ := hkid wr HB.out.later
    obtain ⟨y0, y1, y2, y3⟩ := HB.out.cells
    have f0 := HB.out.free
    simp only [List.length_cons] at y3
    obtain ⟨k1, x1, n1, l1⟩ := p
    simp only [Tree.kind, Tree.text, Tree.num, Tree.kids] at p0 p1 p2 p3
    have HBN := Lib.hid (HB.out.put HW.out (.string k1) (.string x1) (.int .i64 n1) (.slice pa l1.length pc))
    have ATN := Lib.hid (show At W0 (.node k1 x1 n1 l1) (.agg #[.string k1, .string x1, .int .i64 n1, .slice pa l1.length pc]) from hpa)
    have HGN := Lib.hid hgp
    clear hkid hpa hgp hl AT' AT HB HG
    go_upto_region 3 with fail
    generalize ((((wr.setCell ⟨w.heap.size, 0, none⟩ (.string k1)).setCell ⟨w.heap.size, 1, none⟩ (.string x1)).setCell ⟨w.heap.size, 2, none⟩ (.int .i64 n1)).setCell ⟨w.heap.size, 3, none⟩ (.slice pa l1.length pc)) = wr3 at HBN ⊢
    clear p0 p1 p2 p3 y0 y1 y2 y3 f0
    have AT := ATN
    have HB := HBN
    have HG := HGN
    clear ATN HBN HGN
    by_cases hq : k1 = ⟨#[81, 117, 97, 108, 105, 102, 105, 101, 100]⟩
    · subst hq
      obtain ⟨p, q, rfl, _, _⟩ := good_qual HG.out rfl
      have AT' := AT.out
      obtain ⟨b, off, cc, pa, pc, qa, qc, e, hc1, hc2, hkid, _, hpa⟩ := AT'.two
      simp only [Value.agg.injEq, Array.mk.injEq, List.cons.injEq, Value.slice.injEq, and_true, true_and, List.length_cons, List.length_nil] at e
      obtain ⟨rfl, rfl⟩ := e
      obtain ⟨_, ⟨p0, p1, p2, p3⟩⟩ := hkid wr3 HB.out.later
      obtain ⟨y0, y1, y2, y3⟩ := HB.out.cells
      have f0 := HB.out.free
      simp only [List.length_cons, List.length_nil, Nat.zero_add] at y3
      have HBN := Lib.hid (HB.out.put HW.out (.string q.kind) (.string q.text) (.int .i64 q.num) (.slice qa q.kids.length qc))
      have ATN := Lib.hid hpa
      clear hkid hpa AT' hc1 hc2 AT HB
      go_upto_region 5 with fail
      generalize ((((wr3.setCell ⟨w.heap.size, 0, none⟩ (.string q.kind)).setCell ⟨w.heap.size, 1, none⟩ (.string q.text)).setCell ⟨w.heap.size, 2, none⟩ (.int .i64 q.num)).setCell ⟨w.heap.size, 3, none⟩ (.slice qa q.kids.length qc)) = wr2 at HBN ⊢
      clear p0 p1 p2 p3 y0 y1 y2 y3 f0
      have AT := ATN
      have HB := HBN
      clear ATN HBN
      have fr := HB.out.freeR
      obtain ⟨z0, z1, z2, z3⟩ := HB.out.cellsR
      obtain ⟨y0, y1, y2, y3⟩ := HB.out.cells
      have X := Lib.hid (HB.out.done HW.out)
      go_wp2_with fail
      (try simp only [Exit.inBlock, Exit.then])
      refine bodyPost_ret (by simp [results, Tryz.results62, go_sem, z0, z1, z2, z3]; try rfl) rfl ?_
      exact ⟨_, _, rfl, AT.out, X.out _ _ _ _⟩
    · have hq' : (k1.toList == [81, 117, 97, 108, 105, 102, 105, 101, 100]) = false := ne_of hq
      clear hq
      have f0 := HB.out.free
      have fr := HB.out.freeR
      obtain ⟨z0, z1, z2, z3⟩ := HB.out.cellsR
      obtain ⟨y0, y1, y2, y3⟩ := HB.out.cells
      have X := Lib.hid (HB.out.done HW.out)
      go_wp2_with fail
      (try simp only [Exit.inBlock, Exit.then])
      refine bodyPost_ret (by simp [results, Tryz.results62, go_sem, z0, z1, z2, z3]; try rfl) rfl ?_
      exact ⟨_, _, rfl, AT.out, X.out _ _ _ _⟩
  · have hk' : (k.toList == [84, 101, 109, 112, 108, 97, 116, 101]) = false := ne_of hk
    clear hk
    by_cases hq : k = ⟨#[81, 117, 97, 108, 105, 102, 105, 101, 100]⟩
    · subst hq
      obtain ⟨p, q, rfl, _, _⟩ := good_qual HG.out rfl
      have AT' := AT.out
      obtain ⟨b, off, cc, pa, pc, qa, qc, e, hc1, hc2, hkid, _, hpa⟩ := AT'.two
      simp only [Value.agg.injEq, Array.mk.injEq, List.cons.injEq, Value.slice.injEq, and_true, true_and, List.length_cons, List.length_nil] at e
      obtain ⟨rfl, rfl⟩ := e
      obtain ⟨_, ⟨p0, p1, p2, p3⟩⟩ := hkid wr HB.out.later
      obtain ⟨y0, y1, y2, y3⟩ := HB.out.cells
      have f0 := HB.out.free
      simp only [List.length_cons, List.length_nil, Nat.zero_add] at y3
      have HBN := Lib.hid (HB.out.put HW.out (.string q.kind) (.string q.text) (.int .i64 q.num) (.slice qa q.kids.length qc))
      have ATN := Lib.hid hpa
      clear hkid hpa AT' hc1 hc2 AT HB
      go_upto_region 5 with fail
      generalize ((((wr.setCell ⟨w.heap.size, 0, none⟩ (.string q.kind)).setCell ⟨w.heap.size, 1, none⟩ (.string q.text)).setCell ⟨w.heap.size, 2, none⟩ (.int .i64 q.num)).setCell ⟨w.heap.size, 3, none⟩ (.slice qa q.kids.length qc)) = wr2 at HBN ⊢
      clear p0 p1 p2 p3 y0 y1 y2 y3 f0
      have AT := ATN
      have HB := HBN
      clear ATN HBN
      have fr := HB.out.freeR
      obtain ⟨z0, z1, z2, z3⟩ := HB.out.cellsR
      obtain ⟨y0, y1, y2, y3⟩ := HB.out.cells
      have X := Lib.hid (HB.out.done HW.out)
      go_wp2_with fail
      (try simp only [Exit.inBlock, Exit.then])
      refine bodyPost_ret (by simp [results, Tryz.results62, go_sem, z0, z1, z2, z3]; try rfl) rfl ?_
      exact ⟨_, _, rfl, AT.out, X.out _ _ _ _⟩
    · have hq' : (k.toList == [81, 117, 97, 108, 105, 102, 105, 101, 100]) = false := ne_of hq
      clear hq
      have f0 := HB.out.free
      have fr := HB.out.freeR
      obtain ⟨z0, z1, z2, z3⟩ := HB.out.cellsR
      obtain ⟨y0, y1, y2, y3⟩ := HB.out.cells
      have X := Lib.hid (HB.out.done HW.out)
      go_wp2_with fail
      (try simp only [Exit.inBlock, Exit.then])
      refine bodyPost_ret (by simp [results, Tryz.results62, go_sem, z0, z1, z2, z3]; try rfl) rfl ?_
      exact ⟨_, _, rfl, AT.out, X.out _ _ _ _⟩

set_option maxRecDepth 100000 in
set_option maxHeartbeats 4000000 in
theorem shortCode_any (W0 : World) (t : Tree) (hg : Good t) (v : Value) (hv : At W0 t v) (w : World) (hw : Later W0 w) : Calls Tryz.prog 75 #[v] w fun e w' => Text e ∧ Below w.heap.size w w' := by
  obtain ⟨k, x, n, ks⟩ := t
  by_cases hk : k = ⟨#[81, 117, 97, 108, 105, 102, 105, 101, 100]⟩
  · subst hk
    obtain ⟨p, q, rfl, hgp, hgq⟩ := good_qual hg rfl
    obtain ⟨b, off, c, pa, pc, qa, qc, rfl, hc1, hc2, hkid, hp, hq⟩ := hv.two
    have HK := Lib.hid hkid
    have I1 := Lib.hid (isStd_any W0 p _ hp)
    have S0 := Lib.hid (St.start hw (.string ⟨#[81, 117, 97, 108, 105, 102, 105, 101, 100]⟩) (.string x) (.int .i64 n) (.slice (some ⟨b, off, none⟩) 2 c))
    clear hv hkid hp hq hg hgp hgq hw
    obtain ⟨⟨p0, p1, p2, p3⟩, ⟨q0, q1, q2, q3⟩⟩ := HK.out _ S0.out.later
    go_enter Tryz.func75, Tryz.ntmps75
    go_wp2_with fail
    refine (I1.out _ S0.out.later).mono ?_
    rintro e w1 ⟨⟨r, rfl, _⟩, b⟩
    have S1 := Lib.hid (S0.out.on b)
    clear b p0 p1 p2 p3 q0 q1 q2 q3
    obtain ⟨⟨p0, p1, p2, p3⟩, ⟨q0, q1, q2, q3⟩⟩ := HK.out _ S1.out.later
    obtain ⟨bx0, bx1, bx2, bx3⟩ := S1.out.box
    cases r with
    | false =>
      go_wp2_with fail
      go_ret
      exact ⟨⟨_, rfl⟩, S1.out.below⟩
    | true =>
      go_wp2_with fail
      all_goals go_ret
      all_goals exact ⟨⟨_, rfl⟩, S1.out.below⟩
  · have hk' : (k.toList == [81, 117, 97, 108, 105, 102, 105, 101, 100]) = false := ne_of hk
    obtain ⟨a, c, rfl, _⟩ := hv.shut
    have S0 := Lib.hid (St.start hw (.string k) (.string x) (.int .i64 n) (.slice a ks.length c))
    clear hv hg hw
    go_enter Tryz.func75, Tryz.ntmps75
    go_wp2_with fail
    go_ret
    exact ⟨⟨_, rfl⟩, S0.out.below⟩

set_option maxRecDepth 100000 in
set_option maxHeartbeats 4000000 in
theorem isShort_any (W0 : World) (t : Tree) (hg : Good t) (v : Value) (hv : At W0 t v) (w : World) (hw : Later W0 w) : Calls Tryz.prog 61 #[v] w fun e w' => Says True e ∧ Below w.heap.size w w' := by
  have H := Lib.hid (fun W hW => shortCode_any W0 t hg v hv W hW)
  obtain ⟨k, x, n, ks⟩ := t
  obtain ⟨a, c, rfl, _⟩ := hv.shut
  have S0 := Lib.hid (St.start hw (.string k) (.string x) (.int .i64 n) (.slice a ks.length c))
  clear hv hg hw
  go_enter Tryz.func61, Tryz.ntmps61
  go_wp2_with fail
  refine (H.out _ S0.out.later).mono ?_
  rintro e w1 ⟨⟨s, rfl⟩, b⟩
  have S1 := Lib.hid (S0.out.on b)
  clear b H
  go_wp2_with fail
  go_ret
  exact ⟨says_any rfl, S1.out.below⟩

set_option maxRecDepth 100000 in
set_option maxHeartbeats 4000000 in
theorem IsMaker_ok (W0 : World) (t : Tree) (hcl : ∀ p, Test W0 20 p (Good p)) : Test W0 51 t (Good t) := by
  intro v hv w hw
  obtain ⟨k, x, n, ks⟩ := t
  by_cases hk : k = ⟨#[81, 117, 97, 108, 105, 102, 105, 101, 100]⟩
  · subst hk
    by_cases hs : x = ⟨#[]⟩ ∧ n = 0 ∧ (ks.length : Int) = 2
    · obtain ⟨rfl, rfl, hl⟩ := hs
      obtain ⟨p, q, rfl⟩ := two_kids (ks := ks) (by omega)
      obtain ⟨b, off, c, pa, pc, qa, qc, rfl, hc1, hc2, hkid, hp, hq⟩ := hv.two
      have HP := Lib.hid (fun W => plain_two W ⟨#[81, 117, 97, 108, 105, 102, 105, 101, 100]⟩ (some ⟨b, off, none⟩) c)
      have HK := Lib.hid hkid
      have I1 := Lib.hid (hcl p _ hp)
      clear HK
      have S0 := Lib.hid (St.start hw (.string ⟨#[81, 117, 97, 108, 105, 102, 105, 101, 100]⟩) (.string ⟨#[]⟩) (.int .i64 0) (.slice (some ⟨b, off, none⟩) 2 c))
      obtain ⟨k2, x2, n2, l2⟩ := q
      have HK := Lib.hid (fun W hW => And.intro (hkid W hW).1 ((hkid W hW).2.fields rfl))
      have IS := Lib.hid (fun (hg : Good p) W hW => isShort_any W0 p hg _ hp W hW)
      have IT := Lib.hid (isStd_any W0 p _ hp)
      have HL := Lib.hid (fun (hg : Good p) W hW => last_any W0 p hg _ hp W hW)
      have HT := Lib.hid (fun (hg : Good p) W hW => tail_any W0 p hg _ hp W hW)
      clear hkid hv hp hl hw hcl
      by_cases hk2 : k2 = ⟨#[67, 111, 110, 115, 116, 114, 117, 99, 116, 111, 114]⟩
      · subst hk2
        by_cases hs2 : x2 = ⟨#[]⟩ ∧ n2 = 0 ∧ (l2.length : Int) = 1
        · obtain ⟨rfl, rfl, hl2⟩ := hs2
          obtain ⟨z, rfl⟩ := one_kid (ks := l2) (by omega)
          obtain ⟨b2, off2, c2, za, zc, e2, hd1, hd2, hkid2, hz⟩ := hq.one
          simp only [val, Tree.kind, Tree.text, Tree.num, Tree.kids, Value.agg.injEq, Array.mk.injEq, List.cons.injEq, Value.slice.injEq, and_true, true_and, List.length_cons, List.length_nil] at e2
          obtain ⟨rfl, rfl⟩ := e2
          have HQ1 := Lib.hid (fun W => plain_one W ⟨#[67, 111, 110, 115, 116, 114, 117, 99, 116, 111, 114]⟩ (some ⟨b2, off2, none⟩) qc)
          have HZ := Lib.hid hkid2
          have AZ := Lib.hid hz
          clear hkid2 hz hq hl2
          simp only [List.length_cons, List.length_nil, Nat.zero_add] at HK
          go_enter Tryz.func51, Tryz.ntmps51
          go_wp2_with fail
          refine (HP.out _).mono ?_
          rintro e w1 ⟨rfl, b⟩
          have S1 := Lib.hid (S0.out.on b)
          clear b
          obtain ⟨⟨p0, p1, p2, p3⟩, ⟨q0, q1, q2, q3⟩⟩ := HK.out _ S1.out.later
          obtain ⟨bx0, bx1, bx2, bx3⟩ := S1.out.box
          go_wp2_with fail
          refine (I1.out _ S1.out.later).mono ?_
          rintro e w2 ⟨⟨r, rfl, hr⟩, b⟩
          have S2 := Lib.hid (S1.out.on b)
          clear b
          try clear p0 p1 p2 p3 q0 q1 q2 q3 bx0 bx1 bx2 bx3
          cases r with
          | false =>
            clear hr
            obtain ⟨⟨p0, p1, p2, p3⟩, ⟨q0, q1, q2, q3⟩⟩ := HK.out _ S2.out.later
            obtain ⟨bx0, bx1, bx2, bx3⟩ := S2.out.box
            go_wp2_with fail
            go_ret
            exact ⟨says_no rfl, S2.out.below⟩
          | true =>
            have R1 := Lib.hid (hr rfl)
            clear hr
            obtain ⟨⟨p0, p1, p2, p3⟩, ⟨q0, q1, q2, q3⟩⟩ := HK.out _ S2.out.later
            obtain ⟨bx0, bx1, bx2, bx3⟩ := S2.out.box
            go_wp2_with fail
            refine (IS.out R1.out _ S2.out.later).mono ?_
            rintro e w3 ⟨⟨r, rfl, hr⟩, b⟩
            have S3 := Lib.hid (S2.out.on b)
            clear b
            try clear p0 p1 p2 p3 q0 q1 q2 q3 bx0 bx1 bx2 bx3
            cases r with
            | false =>
              clear hr
              obtain ⟨⟨p0, p1, p2, p3⟩, ⟨q0, q1, q2, q3⟩⟩ := HK.out _ S3.out.later
              obtain ⟨bx0, bx1, bx2, bx3⟩ := S3.out.box
              go_wp2_with fail
              refine (IT.out _ S3.out.later).mono ?_
              rintro e w4 ⟨⟨r, rfl, hr⟩, b⟩
              have S4 := Lib.hid (S3.out.on b)
              clear b
              try clear p0 p1 p2 p3 q0 q1 q2 q3 bx0 bx1 bx2 bx3
              cases r with
              | false =>
                clear hr
                obtain ⟨⟨p0, p1, p2, p3⟩, ⟨q0, q1, q2, q3⟩⟩ := HK.out _ S4.out.later
                obtain ⟨bx0, bx1, bx2, bx3⟩ := S4.out.box
                have S5 := Lib.hid (S4.out.on (box_below w4 (.cells #[.string ⟨#[67, 111, 110, 115, 116, 114, 117, 99, 116, 111, 114]⟩, .string ⟨#[]⟩, .int .i64 0, .slice (some ⟨b2, off2, none⟩) 1 qc] 24)))
                have B5 := Lib.hid (Below.refl (w4.heap.size + 1) (w4.alloc (.cells #[.string ⟨#[67, 111, 110, 115, 116, 114, 117, 99, 116, 111, 114]⟩, .string ⟨#[]⟩, .int .i64 0, .slice (some ⟨b2, off2, none⟩) 1 qc] 24)))
                go_wp2_with fail
                refine (HQ1.out _).mono ?_
                rintro e w6 ⟨rfl, b⟩
                have S6 := Lib.hid (S5.out.on b)
                have B6 := Lib.hid (bx_on B5.out b)
                clear b
                try clear y0 y1 y2 y3 z0 z1 z2 z3 bx0 bx1 bx2 bx3 p0 p1 p2 p3 q0 q1 q2 q3
                obtain ⟨y0, y1, y2, y3⟩ := box_at B6.out
                obtain ⟨z0, z1, z2, z3⟩ := HZ.out _ S6.out.later
                obtain ⟨bx0, bx1, bx2, bx3⟩ := S6.out.box
                obtain ⟨⟨p0, p1, p2, p3⟩, ⟨q0, q1, q2, q3⟩⟩ := HK.out _ S6.out.later
                go_wp2_with fail
                refine (HL.out R1.out _ S6.out.later).mono ?_
                rintro e w7 ⟨t3, v3, rfl, hat3, hg3, b⟩
                have S7 := Lib.hid (S6.out.on b)
                have B7 := Lib.hid (bx_on B6.out b)
                clear b
                try clear y0 y1 y2 y3 z0 z1 z2 z3 bx0 bx1 bx2 bx3 p0 p1 p2 p3 q0 q1 q2 q3
                obtain ⟨k3, x3, n3, l3⟩ := t3
                have AT3 := Lib.hid hat3
                obtain ⟨a3, c3, rfl, _⟩ := hat3.shut
                have G3 := Lib.hid hg3
                have S8 := Lib.hid ((S7.out.on (box_below w7 (.cells #[.string k3, .string x3, .int .i64 n3, .slice a3 l3.length c3] 24))).on (Below.refl _ _).drew)
                have B8 := Lib.hid (bx_on B7.out (box_below w7 (.cells #[.string k3, .string x3, .int .i64 n3, .slice a3 l3.length c3] 24)).drew)
                have C8 := Lib.hid (show Below (w7.heap.size + 1) (w7.alloc (.cells #[.string k3, .string x3, .int .i64 n3, .slice a3 l3.length c3] 24)) (w7.alloc (.cells #[.string k3, .string x3, .int .i64 n3, .slice a3 l3.length c3] 24)).drew from (Below.refl _ _).drew)
                obtain ⟨c0, c1', c2', c3'⟩ := box_at C8.out
                obtain ⟨y0, y1, y2, y3⟩ := box_at B8.out
                obtain ⟨z0, z1, z2, z3⟩ := HZ.out _ S8.out.later
                obtain ⟨bx0, bx1, bx2, bx3⟩ := S8.out.box
                obtain ⟨⟨p0, p1, p2, p3⟩, ⟨q0, q1, q2, q3⟩⟩ := HK.out _ S8.out.later
                clear hat3 hg3
                by_cases hk3 : k3 = ⟨#[78, 97, 109, 101]⟩
                · subst hk3
                  by_cases he : Tree.node ⟨#[78, 97, 109, 101]⟩ x3 n3 l3 = z
                  · have JS := Lib.hid (fun W hW => same_yes W0 _ z _ _ AT3.out AZ.out he W hW)
                    have EQ := Lib.hid he
                    clear he
                    go_wp2_with fail
                    refine wp_region_any (by kernel_rfl) ?_
                    change wpAny _ _ _ _ _ _ _ (World.drew _)
                    refine wpAny_take_at (i := 0) (some 57) (v := ?_) rfl rfl (by kernel_rfl) (by kernel_rfl) (by kernel_rfl) (fun _ _ _ h => h) (Or.inl ⟨by rfl, ?_⟩) ?_
                    rotate_left
                    focus (intro w; go_simp; try with_reducible rfl)
                    simp only [Act.put, List.setIfInBounds_toArray, List.set_cons_succ, List.set_cons_zero]
                    refine wpAny_ready (rs := [1]) (by kernel_rfl) (by simp) ?_
                    refine AllReady.cons rfl (fun K hK => ?_) AllReady.nil
                    go_simp
                    refine hK _ _ ?_
                    clear hK K
                    refine wpAny_take_at (i := 2) (some 59) (v := ?_) rfl rfl (by kernel_rfl) (by kernel_rfl) (by kernel_rfl) (fun _ _ _ h => h) (Or.inl ⟨by rfl, ?_⟩) ?_
                    rotate_left
                    focus (intro w; go_simp; try with_reducible rfl)
                    simp only [Act.put, List.setIfInBounds_toArray, List.set_cons_succ, List.set_cons_zero]
                    refine wpAny_take_at (i := 3) (some 60) (v := ?_) rfl rfl (by kernel_rfl) (by kernel_rfl) (by kernel_rfl) (fun _ _ _ h => h) (Or.inl ⟨by rfl, ?_⟩) ?_
                    rotate_left
                    focus (intro w; go_simp; try with_reducible rfl)
                    simp only [Act.put, List.setIfInBounds_toArray, List.set_cons_succ, List.set_cons_zero]
                    refine wpAny_take_at (i := 5) (some 62) (v := ?_) rfl rfl (by kernel_rfl) (by kernel_rfl) (by kernel_rfl) (fun _ _ _ h => h) (Or.inl ⟨by rfl, ?_⟩) ?_
                    rotate_left
                    focus (intro w; go_simp; try with_reducible rfl)
                    simp only [Act.put, List.setIfInBounds_toArray, List.set_cons_succ, List.set_cons_zero]
                    refine wpAny_ready (rs := [4, 6]) (by kernel_rfl) (by simp) ?_
                    refine AllReady.cons rfl (fun K hK => ?_) (AllReady.cons rfl (fun K hK => ?_) AllReady.nil)
                    · go_simp
                      refine hK _ _ ?_
                      clear hK K
                      refine wpAny_ready (rs := [6]) (by kernel_rfl) (by simp) ?_
                      refine AllReady.cons rfl (fun K hK => ?_) AllReady.nil
                      go_simp
                      refine hK _ _ ?_
                      clear hK K
                      refine wpAny_take_at (i := 7) (some 64) (v := ?_) rfl rfl (by kernel_rfl) (by kernel_rfl) (by kernel_rfl) (fun _ _ _ h => h) (Or.inl ⟨by rfl, ?_⟩) ?_
                      rotate_left
                      focus (intro w; go_simp; try with_reducible rfl)
                      simp only [Act.put, List.setIfInBounds_toArray, List.set_cons_succ, List.set_cons_zero]
                      refine wpAny_ready (rs := [8]) (by kernel_rfl) (by simp) ?_
                      refine AllReady.cons rfl (fun K hK => ?_) AllReady.nil
                      go_simp
                      refine hK _ _ ?_
                      clear hK K
                      refine wpAny_ready (rs := [9]) (by kernel_rfl) (by simp) ?_
                      refine AllReady.cons rfl (fun K hK => ?_) AllReady.nil
                      go_simp
                      refine (JS.out _ S8.out.later).mono ?_
                      rintro e w9 ⟨rfl, b⟩
                      have S9 := Lib.hid (S8.out.on b)
                      clear b
                      try clear p0 p1 p2 p3 q0 q1 q2 q3 bx0 bx1 bx2 bx3 y0 y1 y2 y3 z0 z1 z2 z3 c0 c1' c2' c3'
                      obtain ⟨⟨p0, p1, p2, p3⟩, ⟨q0, q1, q2, q3⟩⟩ := HK.out _ S9.out.later
                      obtain ⟨bx0, bx1, bx2, bx3⟩ := S9.out.box
                      go_wp2_with fail
                      refine wpAny_take_at (i := 10) (some 67) (v := ?_) rfl rfl (by kernel_rfl) (by kernel_rfl) (by kernel_rfl) (fun _ _ _ h => h) (Or.inl ⟨by rfl, ?_⟩) ?_
                      rotate_left
                      focus (intro w; go_simp; try with_reducible rfl)
                      simp only [Act.put, List.setIfInBounds_toArray, List.set_cons_succ, List.set_cons_zero]
                      refine wpAny_take_at (i := 11) (some 68) (v := ?_) rfl rfl (by kernel_rfl) (by kernel_rfl) (by kernel_rfl) (fun _ _ _ h => h) (Or.inl ⟨by rfl, ?_⟩) ?_
                      rotate_left
                      focus (intro w; go_simp; try with_reducible rfl)
                      simp only [Act.put, List.setIfInBounds_toArray, List.set_cons_succ, List.set_cons_zero]
                      refine wpAny_take_at (i := 12) (some 69) (v := ?_) rfl rfl (by kernel_rfl) (by kernel_rfl) (by kernel_rfl) (fun _ _ _ h => h) (Or.inl ⟨by rfl, ?_⟩) ?_
                      rotate_left
                      focus (intro w; go_simp; try with_reducible rfl)
                      simp only [Act.put, List.setIfInBounds_toArray, List.set_cons_succ, List.set_cons_zero]
                      refine wpAny_ready (rs := [13]) (by kernel_rfl) (by simp) ?_
                      refine AllReady.cons rfl (fun K hK => ?_) AllReady.nil
                      go_simp
                      refine hK _ _ ?_
                      clear hK K
                      refine wpAny_take_at (i := 14) (some 71) (v := ?_) rfl rfl (by kernel_rfl) (by kernel_rfl) (by kernel_rfl) (fun _ _ _ h => h) (Or.inl ⟨by rfl, ?_⟩) ?_
                      rotate_left
                      focus (intro w; go_simp; try with_reducible rfl)
                      simp only [Act.put, List.setIfInBounds_toArray, List.set_cons_succ, List.set_cons_zero]
                      refine wpAny_ready (rs := [15]) (by kernel_rfl) (by simp) ?_
                      refine AllReady.cons rfl (fun K hK => ?_) AllReady.nil
                      go_simp
                      refine hK _ _ ?_
                      clear hK K
                      refine wpAny_ready (rs := [16]) (by kernel_rfl) (by simp) ?_
                      refine AllReady.cons rfl (fun K hK => ?_) AllReady.nil
                      go_simp
                      refine (HT.out R1.out _ S9.out.later).mono ?_
                      rintro e w10 ⟨t8, v8, rfl, hat8, b⟩
                      have S10 := Lib.hid (S9.out.on b)
                      have J8 := Lib.hid (has_any W0 ⟨#[84, 97, 103, 103, 101, 100, 78, 97, 109, 101]⟩ t8 v8 hat8)
                      clear b hat8 p0 p1 p2 p3 q0 q1 q2 q3 bx0 bx1 bx2 bx3
                      go_wp2_with fail
                      refine wpAny_ready (rs := [17]) (by kernel_rfl) (by simp) ?_
                      refine AllReady.cons rfl (fun K hK => ?_) AllReady.nil
                      go_simp
                      refine (J8.out _ S10.out.later).mono ?_
                      rintro e w11 ⟨rfl, b⟩
                      have S11 := Lib.hid (S10.out.on b)
                      clear b
                      go_wp2_with fail
                      refine wpAny_take_at (i := 18) (some 75) (v := ?_) rfl rfl (by kernel_rfl) (by kernel_rfl) (by kernel_rfl) (fun _ _ _ h => h) (Or.inl ⟨by rfl, ?_⟩) ?_
                      rotate_left
                      focus (intro w; go_simp; try with_reducible rfl)
                      simp only [Act.put, List.setIfInBounds_toArray, List.set_cons_succ, List.set_cons_zero]
                      refine wpAny_take_at (i := 19) (some 76) (v := ?_) rfl rfl (by kernel_rfl) (by kernel_rfl) (by kernel_rfl) (fun _ _ _ h => h) (Or.inl ⟨by rfl, ?_⟩) ?_
                      rotate_left
                      focus (intro w; go_simp; try with_reducible rfl)
                      simp only [Act.put, List.setIfInBounds_toArray, List.set_cons_succ, List.set_cons_zero]
                      refine wpAny_take_at (i := 20) (some 2) (v := ?_) rfl rfl (by kernel_rfl) (by kernel_rfl) (by kernel_rfl) (fun _ _ _ h => h) (Or.inl ⟨by rfl, ?_⟩) ?_
                      rotate_left
                      focus (intro w; go_simp; try with_reducible rfl)
                      simp only [Act.put, List.setIfInBounds_toArray, List.set_cons_succ, List.set_cons_zero]
                      refine wpAny_done (by kernel_rfl) ?_ _
                      go_wp2_with fail
                      go_ret
                      exact ⟨⟨_, rfl, fun _ => .qualified R1.out (.constructor (by rw [← EQ.out]; exact G3.out))⟩, S11.out.below⟩
                    · go_simp
                      refine hK _ _ ?_
                      clear hK K
                      refine wpAny_take_at (i := 7) (some 64) (v := ?_) rfl rfl (by kernel_rfl) (by kernel_rfl) (by kernel_rfl) (fun _ _ _ h => h) (Or.inl ⟨by rfl, ?_⟩) ?_
                      rotate_left
                      focus (intro w; go_simp; try with_reducible rfl)
                      simp only [Act.put, List.setIfInBounds_toArray, List.set_cons_succ, List.set_cons_zero]
                      refine wpAny_ready (rs := [4, 8]) (by kernel_rfl) (by simp) ?_
                      refine AllReady.cons rfl (fun K hK => ?_) (AllReady.cons rfl (fun K hK => ?_) AllReady.nil)
                      · go_simp
                        refine hK _ _ ?_
                        clear hK K
                        refine wpAny_ready (rs := [8]) (by kernel_rfl) (by simp) ?_
                        refine AllReady.cons rfl (fun K hK => ?_) AllReady.nil
                        go_simp
                        refine hK _ _ ?_
                        clear hK K
                        refine wpAny_ready (rs := [9]) (by kernel_rfl) (by simp) ?_
                        refine AllReady.cons rfl (fun K hK => ?_) AllReady.nil
                        go_simp
                        refine (JS.out _ S8.out.later).mono ?_
                        rintro e w9 ⟨rfl, b⟩
                        have S9 := Lib.hid (S8.out.on b)
                        clear b
                        try clear p0 p1 p2 p3 q0 q1 q2 q3 bx0 bx1 bx2 bx3 y0 y1 y2 y3 z0 z1 z2 z3 c0 c1' c2' c3'
                        obtain ⟨⟨p0, p1, p2, p3⟩, ⟨q0, q1, q2, q3⟩⟩ := HK.out _ S9.out.later
                        obtain ⟨bx0, bx1, bx2, bx3⟩ := S9.out.box
                        go_wp2_with fail
                        refine wpAny_take_at (i := 10) (some 67) (v := ?_) rfl rfl (by kernel_rfl) (by kernel_rfl) (by kernel_rfl) (fun _ _ _ h => h) (Or.inl ⟨by rfl, ?_⟩) ?_
                        rotate_left
                        focus (intro w; go_simp; try with_reducible rfl)
                        simp only [Act.put, List.setIfInBounds_toArray, List.set_cons_succ, List.set_cons_zero]
                        refine wpAny_take_at (i := 11) (some 68) (v := ?_) rfl rfl (by kernel_rfl) (by kernel_rfl) (by kernel_rfl) (fun _ _ _ h => h) (Or.inl ⟨by rfl, ?_⟩) ?_
                        rotate_left
                        focus (intro w; go_simp; try with_reducible rfl)
                        simp only [Act.put, List.setIfInBounds_toArray, List.set_cons_succ, List.set_cons_zero]
                        refine wpAny_take_at (i := 12) (some 69) (v := ?_) rfl rfl (by kernel_rfl) (by kernel_rfl) (by kernel_rfl) (fun _ _ _ h => h) (Or.inl ⟨by rfl, ?_⟩) ?_
                        rotate_left
                        focus (intro w; go_simp; try with_reducible rfl)
                        simp only [Act.put, List.setIfInBounds_toArray, List.set_cons_succ, List.set_cons_zero]
                        refine wpAny_ready (rs := [13]) (by kernel_rfl) (by simp) ?_
                        refine AllReady.cons rfl (fun K hK => ?_) AllReady.nil
                        go_simp
                        refine hK _ _ ?_
                        clear hK K
                        refine wpAny_take_at (i := 14) (some 71) (v := ?_) rfl rfl (by kernel_rfl) (by kernel_rfl) (by kernel_rfl) (fun _ _ _ h => h) (Or.inl ⟨by rfl, ?_⟩) ?_
                        rotate_left
                        focus (intro w; go_simp; try with_reducible rfl)
                        simp only [Act.put, List.setIfInBounds_toArray, List.set_cons_succ, List.set_cons_zero]
                        refine wpAny_ready (rs := [15]) (by kernel_rfl) (by simp) ?_
                        refine AllReady.cons rfl (fun K hK => ?_) AllReady.nil
                        go_simp
                        refine hK _ _ ?_
                        clear hK K
                        refine wpAny_ready (rs := [16]) (by kernel_rfl) (by simp) ?_
                        refine AllReady.cons rfl (fun K hK => ?_) AllReady.nil
                        go_simp
                        refine (HT.out R1.out _ S9.out.later).mono ?_
                        rintro e w10 ⟨t8, v8, rfl, hat8, b⟩
                        have S10 := Lib.hid (S9.out.on b)
                        have J8 := Lib.hid (has_any W0 ⟨#[84, 97, 103, 103, 101, 100, 78, 97, 109, 101]⟩ t8 v8 hat8)
                        clear b hat8 p0 p1 p2 p3 q0 q1 q2 q3 bx0 bx1 bx2 bx3
                        go_wp2_with fail
                        refine wpAny_ready (rs := [17]) (by kernel_rfl) (by simp) ?_
                        refine AllReady.cons rfl (fun K hK => ?_) AllReady.nil
                        go_simp
                        refine (J8.out _ S10.out.later).mono ?_
                        rintro e w11 ⟨rfl, b⟩
                        have S11 := Lib.hid (S10.out.on b)
                        clear b
                        go_wp2_with fail
                        refine wpAny_take_at (i := 18) (some 75) (v := ?_) rfl rfl (by kernel_rfl) (by kernel_rfl) (by kernel_rfl) (fun _ _ _ h => h) (Or.inl ⟨by rfl, ?_⟩) ?_
                        rotate_left
                        focus (intro w; go_simp; try with_reducible rfl)
                        simp only [Act.put, List.setIfInBounds_toArray, List.set_cons_succ, List.set_cons_zero]
                        refine wpAny_take_at (i := 19) (some 76) (v := ?_) rfl rfl (by kernel_rfl) (by kernel_rfl) (by kernel_rfl) (fun _ _ _ h => h) (Or.inl ⟨by rfl, ?_⟩) ?_
                        rotate_left
                        focus (intro w; go_simp; try with_reducible rfl)
                        simp only [Act.put, List.setIfInBounds_toArray, List.set_cons_succ, List.set_cons_zero]
                        refine wpAny_take_at (i := 20) (some 2) (v := ?_) rfl rfl (by kernel_rfl) (by kernel_rfl) (by kernel_rfl) (fun _ _ _ h => h) (Or.inl ⟨by rfl, ?_⟩) ?_
                        rotate_left
                        focus (intro w; go_simp; try with_reducible rfl)
                        simp only [Act.put, List.setIfInBounds_toArray, List.set_cons_succ, List.set_cons_zero]
                        refine wpAny_done (by kernel_rfl) ?_ _
                        go_wp2_with fail
                        go_ret
                        exact ⟨⟨_, rfl, fun _ => .qualified R1.out (.constructor (by rw [← EQ.out]; exact G3.out))⟩, S11.out.below⟩
                      · go_simp
                        refine hK _ _ ?_
                        clear hK K
                        refine wpAny_ready (rs := [4]) (by kernel_rfl) (by simp) ?_
                        refine AllReady.cons rfl (fun K hK => ?_) AllReady.nil
                        go_simp
                        refine hK _ _ ?_
                        clear hK K
                        refine wpAny_ready (rs := [9]) (by kernel_rfl) (by simp) ?_
                        refine AllReady.cons rfl (fun K hK => ?_) AllReady.nil
                        go_simp
                        refine (JS.out _ S8.out.later).mono ?_
                        rintro e w9 ⟨rfl, b⟩
                        have S9 := Lib.hid (S8.out.on b)
                        clear b
                        try clear p0 p1 p2 p3 q0 q1 q2 q3 bx0 bx1 bx2 bx3 y0 y1 y2 y3 z0 z1 z2 z3 c0 c1' c2' c3'
                        obtain ⟨⟨p0, p1, p2, p3⟩, ⟨q0, q1, q2, q3⟩⟩ := HK.out _ S9.out.later
                        obtain ⟨bx0, bx1, bx2, bx3⟩ := S9.out.box
                        go_wp2_with fail
                        refine wpAny_take_at (i := 10) (some 67) (v := ?_) rfl rfl (by kernel_rfl) (by kernel_rfl) (by kernel_rfl) (fun _ _ _ h => h) (Or.inl ⟨by rfl, ?_⟩) ?_
                        rotate_left
                        focus (intro w; go_simp; try with_reducible rfl)
                        simp only [Act.put, List.setIfInBounds_toArray, List.set_cons_succ, List.set_cons_zero]
                        refine wpAny_take_at (i := 11) (some 68) (v := ?_) rfl rfl (by kernel_rfl) (by kernel_rfl) (by kernel_rfl) (fun _ _ _ h => h) (Or.inl ⟨by rfl, ?_⟩) ?_
                        rotate_left
                        focus (intro w; go_simp; try with_reducible rfl)
                        simp only [Act.put, List.setIfInBounds_toArray, List.set_cons_succ, List.set_cons_zero]
                        refine wpAny_take_at (i := 12) (some 69) (v := ?_) rfl rfl (by kernel_rfl) (by kernel_rfl) (by kernel_rfl) (fun _ _ _ h => h) (Or.inl ⟨by rfl, ?_⟩) ?_
                        rotate_left
                        focus (intro w; go_simp; try with_reducible rfl)
                        simp only [Act.put, List.setIfInBounds_toArray, List.set_cons_succ, List.set_cons_zero]
                        refine wpAny_ready (rs := [13]) (by kernel_rfl) (by simp) ?_
                        refine AllReady.cons rfl (fun K hK => ?_) AllReady.nil
                        go_simp
                        refine hK _ _ ?_
                        clear hK K
                        refine wpAny_take_at (i := 14) (some 71) (v := ?_) rfl rfl (by kernel_rfl) (by kernel_rfl) (by kernel_rfl) (fun _ _ _ h => h) (Or.inl ⟨by rfl, ?_⟩) ?_
                        rotate_left
                        focus (intro w; go_simp; try with_reducible rfl)
                        simp only [Act.put, List.setIfInBounds_toArray, List.set_cons_succ, List.set_cons_zero]
                        refine wpAny_ready (rs := [15]) (by kernel_rfl) (by simp) ?_
                        refine AllReady.cons rfl (fun K hK => ?_) AllReady.nil
                        go_simp
                        refine hK _ _ ?_
                        clear hK K
                        refine wpAny_ready (rs := [16]) (by kernel_rfl) (by simp) ?_
                        refine AllReady.cons rfl (fun K hK => ?_) AllReady.nil
                        go_simp
                        refine (HT.out R1.out _ S9.out.later).mono ?_
                        rintro e w10 ⟨t8, v8, rfl, hat8, b⟩
                        have S10 := Lib.hid (S9.out.on b)
                        have J8 := Lib.hid (has_any W0 ⟨#[84, 97, 103, 103, 101, 100, 78, 97, 109, 101]⟩ t8 v8 hat8)
                        clear b hat8 p0 p1 p2 p3 q0 q1 q2 q3 bx0 bx1 bx2 bx3
                        go_wp2_with fail
                        refine wpAny_ready (rs := [17]) (by kernel_rfl) (by simp) ?_
                        refine AllReady.cons rfl (fun K hK => ?_) AllReady.nil
                        go_simp
                        refine (J8.out _ S10.out.later).mono ?_
                        rintro e w11 ⟨rfl, b⟩
                        have S11 := Lib.hid (S10.out.on b)
                        clear b
                        go_wp2_with fail
                        refine wpAny_take_at (i := 18) (some 75) (v := ?_) rfl rfl (by kernel_rfl) (by kernel_rfl) (by kernel_rfl) (fun _ _ _ h => h) (Or.inl ⟨by rfl, ?_⟩) ?_
                        rotate_left
                        focus (intro w; go_simp; try with_reducible rfl)
                        simp only [Act.put, List.setIfInBounds_toArray, List.set_cons_succ, List.set_cons_zero]
                        refine wpAny_take_at (i := 19) (some 76) (v := ?_) rfl rfl (by kernel_rfl) (by kernel_rfl) (by kernel_rfl) (fun _ _ _ h => h) (Or.inl ⟨by rfl, ?_⟩) ?_
                        rotate_left
                        focus (intro w; go_simp; try with_reducible rfl)
                        simp only [Act.put, List.setIfInBounds_toArray, List.set_cons_succ, List.set_cons_zero]
                        refine wpAny_take_at (i := 20) (some 2) (v := ?_) rfl rfl (by kernel_rfl) (by kernel_rfl) (by kernel_rfl) (fun _ _ _ h => h) (Or.inl ⟨by rfl, ?_⟩) ?_
                        rotate_left
                        focus (intro w; go_simp; try with_reducible rfl)
                        simp only [Act.put, List.setIfInBounds_toArray, List.set_cons_succ, List.set_cons_zero]
                        refine wpAny_done (by kernel_rfl) ?_ _
                        go_wp2_with fail
                        go_ret
                        exact ⟨⟨_, rfl, fun _ => .qualified R1.out (.constructor (by rw [← EQ.out]; exact G3.out))⟩, S11.out.below⟩
                  · have JS := Lib.hid (fun W hW => same_not W0 _ z _ _ AT3.out AZ.out he W hW)
                    clear he
                    go_wp2_with fail
                    refine wp_region_any (by kernel_rfl) ?_
                    change wpAny _ _ _ _ _ _ _ (World.drew _)
                    refine wpAny_take_at (i := 0) (some 57) (v := ?_) rfl rfl (by kernel_rfl) (by kernel_rfl) (by kernel_rfl) (fun _ _ _ h => h) (Or.inl ⟨by rfl, ?_⟩) ?_
                    rotate_left
                    focus (intro w; go_simp; try with_reducible rfl)
                    simp only [Act.put, List.setIfInBounds_toArray, List.set_cons_succ, List.set_cons_zero]
                    refine wpAny_ready (rs := [1]) (by kernel_rfl) (by simp) ?_
                    refine AllReady.cons rfl (fun K hK => ?_) AllReady.nil
                    go_simp
                    refine hK _ _ ?_
                    clear hK K
                    refine wpAny_take_at (i := 2) (some 59) (v := ?_) rfl rfl (by kernel_rfl) (by kernel_rfl) (by kernel_rfl) (fun _ _ _ h => h) (Or.inl ⟨by rfl, ?_⟩) ?_
                    rotate_left
                    focus (intro w; go_simp; try with_reducible rfl)
                    simp only [Act.put, List.setIfInBounds_toArray, List.set_cons_succ, List.set_cons_zero]
                    refine wpAny_take_at (i := 3) (some 60) (v := ?_) rfl rfl (by kernel_rfl) (by kernel_rfl) (by kernel_rfl) (fun _ _ _ h => h) (Or.inl ⟨by rfl, ?_⟩) ?_
                    rotate_left
                    focus (intro w; go_simp; try with_reducible rfl)
                    simp only [Act.put, List.setIfInBounds_toArray, List.set_cons_succ, List.set_cons_zero]
                    refine wpAny_take_at (i := 5) (some 62) (v := ?_) rfl rfl (by kernel_rfl) (by kernel_rfl) (by kernel_rfl) (fun _ _ _ h => h) (Or.inl ⟨by rfl, ?_⟩) ?_
                    rotate_left
                    focus (intro w; go_simp; try with_reducible rfl)
                    simp only [Act.put, List.setIfInBounds_toArray, List.set_cons_succ, List.set_cons_zero]
                    refine wpAny_ready (rs := [4, 6]) (by kernel_rfl) (by simp) ?_
                    refine AllReady.cons rfl (fun K hK => ?_) (AllReady.cons rfl (fun K hK => ?_) AllReady.nil)
                    · go_simp
                      refine hK _ _ ?_
                      clear hK K
                      refine wpAny_ready (rs := [6]) (by kernel_rfl) (by simp) ?_
                      refine AllReady.cons rfl (fun K hK => ?_) AllReady.nil
                      go_simp
                      refine hK _ _ ?_
                      clear hK K
                      refine wpAny_take_at (i := 7) (some 64) (v := ?_) rfl rfl (by kernel_rfl) (by kernel_rfl) (by kernel_rfl) (fun _ _ _ h => h) (Or.inl ⟨by rfl, ?_⟩) ?_
                      rotate_left
                      focus (intro w; go_simp; try with_reducible rfl)
                      simp only [Act.put, List.setIfInBounds_toArray, List.set_cons_succ, List.set_cons_zero]
                      refine wpAny_ready (rs := [8]) (by kernel_rfl) (by simp) ?_
                      refine AllReady.cons rfl (fun K hK => ?_) AllReady.nil
                      go_simp
                      refine hK _ _ ?_
                      clear hK K
                      refine wpAny_ready (rs := [9]) (by kernel_rfl) (by simp) ?_
                      refine AllReady.cons rfl (fun K hK => ?_) AllReady.nil
                      go_simp
                      refine (JS.out _ S8.out.later).mono ?_
                      rintro e w9 ⟨rfl, b⟩
                      have S9 := Lib.hid (S8.out.on b)
                      clear b
                      try clear p0 p1 p2 p3 q0 q1 q2 q3 bx0 bx1 bx2 bx3 y0 y1 y2 y3 z0 z1 z2 z3 c0 c1' c2' c3'
                      obtain ⟨⟨p0, p1, p2, p3⟩, ⟨q0, q1, q2, q3⟩⟩ := HK.out _ S9.out.later
                      obtain ⟨bx0, bx1, bx2, bx3⟩ := S9.out.box
                      go_wp2_with fail
                      refine wpAny_take_at (i := 10) (some 67) (v := ?_) rfl rfl (by kernel_rfl) (by kernel_rfl) (by kernel_rfl) (fun _ _ _ h => h) (Or.inl ⟨by rfl, ?_⟩) ?_
                      rotate_left
                      focus (intro w; go_simp; try with_reducible rfl)
                      simp only [Act.put, List.setIfInBounds_toArray, List.set_cons_succ, List.set_cons_zero]
                      refine wpAny_take_at (i := 11) (some 68) (v := ?_) rfl rfl (by kernel_rfl) (by kernel_rfl) (by kernel_rfl) (fun _ _ _ h => h) (Or.inl ⟨by rfl, ?_⟩) ?_
                      rotate_left
                      focus (intro w; go_simp; try with_reducible rfl)
                      simp only [Act.put, List.setIfInBounds_toArray, List.set_cons_succ, List.set_cons_zero]
                      refine wpAny_take_at (i := 12) (some 69) (v := undef) rfl rfl (by kernel_rfl) (by kernel_rfl) (by kernel_rfl) (fun _ _ _ h => h) (Or.inr ⟨by rfl, rfl⟩) ?_
                      simp only [Act.put, List.setIfInBounds_toArray, List.set_cons_succ, List.set_cons_zero]
                      refine wpAny_take_at (i := 13) (some 70) (v := undef) rfl rfl (by kernel_rfl) (by kernel_rfl) (by kernel_rfl) (fun _ _ _ h => h) (Or.inr ⟨by rfl, rfl⟩) ?_
                      simp only [Act.put, List.setIfInBounds_toArray, List.set_cons_succ, List.set_cons_zero]
                      refine wpAny_take_at (i := 14) (some 71) (v := undef) rfl rfl (by kernel_rfl) (by kernel_rfl) (by kernel_rfl) (fun _ _ _ h => h) (Or.inr ⟨by rfl, rfl⟩) ?_
                      simp only [Act.put, List.setIfInBounds_toArray, List.set_cons_succ, List.set_cons_zero]
                      refine wpAny_take_at (i := 15) (some 72) (v := undef) rfl rfl (by kernel_rfl) (by kernel_rfl) (by kernel_rfl) (fun _ _ _ h => h) (Or.inr ⟨by rfl, rfl⟩) ?_
                      simp only [Act.put, List.setIfInBounds_toArray, List.set_cons_succ, List.set_cons_zero]
                      refine wpAny_take_at (i := 16) (some 73) (v := undef) rfl rfl (by kernel_rfl) (by kernel_rfl) (by kernel_rfl) (fun _ _ _ h => h) (Or.inr ⟨by rfl, rfl⟩) ?_
                      simp only [Act.put, List.setIfInBounds_toArray, List.set_cons_succ, List.set_cons_zero]
                      refine wpAny_take_at (i := 17) (some 74) (v := undef) rfl rfl (by kernel_rfl) (by kernel_rfl) (by kernel_rfl) (fun _ _ _ h => h) (Or.inr ⟨by rfl, rfl⟩) ?_
                      simp only [Act.put, List.setIfInBounds_toArray, List.set_cons_succ, List.set_cons_zero]
                      refine wpAny_take_at (i := 18) (some 75) (v := undef) rfl rfl (by kernel_rfl) (by kernel_rfl) (by kernel_rfl) (fun _ _ _ h => h) (Or.inr ⟨by rfl, rfl⟩) ?_
                      simp only [Act.put, List.setIfInBounds_toArray, List.set_cons_succ, List.set_cons_zero]
                      refine wpAny_take_at (i := 19) (some 76) (v := ?_) rfl rfl (by kernel_rfl) (by kernel_rfl) (by kernel_rfl) (fun _ _ _ h => h) (Or.inl ⟨by rfl, ?_⟩) ?_
                      rotate_left
                      focus (intro w; go_simp; try with_reducible rfl)
                      simp only [Act.put, List.setIfInBounds_toArray, List.set_cons_succ, List.set_cons_zero]
                      refine wpAny_take_at (i := 20) (some 2) (v := ?_) rfl rfl (by kernel_rfl) (by kernel_rfl) (by kernel_rfl) (fun _ _ _ h => h) (Or.inl ⟨by rfl, ?_⟩) ?_
                      rotate_left
                      focus (intro w; go_simp; try with_reducible rfl)
                      simp only [Act.put, List.setIfInBounds_toArray, List.set_cons_succ, List.set_cons_zero]
                      refine wpAny_done (by kernel_rfl) ?_ _
                      go_wp2_with fail
                      go_ret
                      exact ⟨says_no rfl, S9.out.below⟩
                    · go_simp
                      refine hK _ _ ?_
                      clear hK K
                      refine wpAny_take_at (i := 7) (some 64) (v := ?_) rfl rfl (by kernel_rfl) (by kernel_rfl) (by kernel_rfl) (fun _ _ _ h => h) (Or.inl ⟨by rfl, ?_⟩) ?_
                      rotate_left
                      focus (intro w; go_simp; try with_reducible rfl)
                      simp only [Act.put, List.setIfInBounds_toArray, List.set_cons_succ, List.set_cons_zero]
                      refine wpAny_ready (rs := [4, 8]) (by kernel_rfl) (by simp) ?_
                      refine AllReady.cons rfl (fun K hK => ?_) (AllReady.cons rfl (fun K hK => ?_) AllReady.nil)
                      · go_simp
                        refine hK _ _ ?_
                        clear hK K
                        refine wpAny_ready (rs := [8]) (by kernel_rfl) (by simp) ?_
                        refine AllReady.cons rfl (fun K hK => ?_) AllReady.nil
                        go_simp
                        refine hK _ _ ?_
                        clear hK K
                        refine wpAny_ready (rs := [9]) (by kernel_rfl) (by simp) ?_
                        refine AllReady.cons rfl (fun K hK => ?_) AllReady.nil
                        go_simp
                        refine (JS.out _ S8.out.later).mono ?_
                        rintro e w9 ⟨rfl, b⟩
                        have S9 := Lib.hid (S8.out.on b)
                        clear b
                        try clear p0 p1 p2 p3 q0 q1 q2 q3 bx0 bx1 bx2 bx3 y0 y1 y2 y3 z0 z1 z2 z3 c0 c1' c2' c3'
                        obtain ⟨⟨p0, p1, p2, p3⟩, ⟨q0, q1, q2, q3⟩⟩ := HK.out _ S9.out.later
                        obtain ⟨bx0, bx1, bx2, bx3⟩ := S9.out.box
                        go_wp2_with fail
                        refine wpAny_take_at (i := 10) (some 67) (v := ?_) rfl rfl (by kernel_rfl) (by kernel_rfl) (by kernel_rfl) (fun _ _ _ h => h) (Or.inl ⟨by rfl, ?_⟩) ?_
                        rotate_left
                        focus (intro w; go_simp; try with_reducible rfl)
                        simp only [Act.put, List.setIfInBounds_toArray, List.set_cons_succ, List.set_cons_zero]
                        refine wpAny_take_at (i := 11) (some 68) (v := ?_) rfl rfl (by kernel_rfl) (by kernel_rfl) (by kernel_rfl) (fun _ _ _ h => h) (Or.inl ⟨by rfl, ?_⟩) ?_
                        rotate_left
                        focus (intro w; go_simp; try with_reducible rfl)
                        simp only [Act.put, List.setIfInBounds_toArray, List.set_cons_succ, List.set_cons_zero]
                        refine wpAny_take_at (i := 12) (some 69) (v := undef) rfl rfl (by kernel_rfl) (by kernel_rfl) (by kernel_rfl) (fun _ _ _ h => h) (Or.inr ⟨by rfl, rfl⟩) ?_
                        simp only [Act.put, List.setIfInBounds_toArray, List.set_cons_succ, List.set_cons_zero]
                        refine wpAny_take_at (i := 13) (some 70) (v := undef) rfl rfl (by kernel_rfl) (by kernel_rfl) (by kernel_rfl) (fun _ _ _ h => h) (Or.inr ⟨by rfl, rfl⟩) ?_
                        simp only [Act.put, List.setIfInBounds_toArray, List.set_cons_succ, List.set_cons_zero]
                        refine wpAny_take_at (i := 14) (some 71) (v := undef) rfl rfl (by kernel_rfl) (by kernel_rfl) (by kernel_rfl) (fun _ _ _ h => h) (Or.inr ⟨by rfl, rfl⟩) ?_
                        simp only [Act.put, List.setIfInBounds_toArray, List.set_cons_succ, List.set_cons_zero]
                        refine wpAny_take_at (i := 15) (some 72) (v := undef) rfl rfl (by kernel_rfl) (by kernel_rfl) (by kernel_rfl) (fun _ _ _ h => h) (Or.inr ⟨by rfl, rfl⟩) ?_
                        simp only [Act.put, List.setIfInBounds_toArray, List.set_cons_succ, List.set_cons_zero]
                        refine wpAny_take_at (i := 16) (some 73) (v := undef) rfl rfl (by kernel_rfl) (by kernel_rfl) (by kernel_rfl) (fun _ _ _ h => h) (Or.inr ⟨by rfl, rfl⟩) ?_
                        simp only [Act.put, List.setIfInBounds_toArray, List.set_cons_succ, List.set_cons_zero]
                        refine wpAny_take_at (i := 17) (some 74) (v := undef) rfl rfl (by kernel_rfl) (by kernel_rfl) (by kernel_rfl) (fun _ _ _ h => h) (Or.inr ⟨by rfl, rfl⟩) ?_
                        simp only [Act.put, List.setIfInBounds_toArray, List.set_cons_succ, List.set_cons_zero]
                        refine wpAny_take_at (i := 18) (some 75) (v := undef) rfl rfl (by kernel_rfl) (by kernel_rfl) (by kernel_rfl) (fun _ _ _ h => h) (Or.inr ⟨by rfl, rfl⟩) ?_
                        simp only [Act.put, List.setIfInBounds_toArray, List.set_cons_succ, List.set_cons_zero]
                        refine wpAny_take_at (i := 19) (some 76) (v := ?_) rfl rfl (by kernel_rfl) (by kernel_rfl) (by kernel_rfl) (fun _ _ _ h => h) (Or.inl ⟨by rfl, ?_⟩) ?_
                        rotate_left
                        focus (intro w; go_simp; try with_reducible rfl)
                        simp only [Act.put, List.setIfInBounds_toArray, List.set_cons_succ, List.set_cons_zero]
                        refine wpAny_take_at (i := 20) (some 2) (v := ?_) rfl rfl (by kernel_rfl) (by kernel_rfl) (by kernel_rfl) (fun _ _ _ h => h) (Or.inl ⟨by rfl, ?_⟩) ?_
                        rotate_left
                        focus (intro w; go_simp; try with_reducible rfl)
                        simp only [Act.put, List.setIfInBounds_toArray, List.set_cons_succ, List.set_cons_zero]
                        refine wpAny_done (by kernel_rfl) ?_ _
                        go_wp2_with fail
                        go_ret
                        exact ⟨says_no rfl, S9.out.below⟩
                      · go_simp
                        refine hK _ _ ?_
                        clear hK K
                        refine wpAny_ready (rs := [4]) (by kernel_rfl) (by simp) ?_
                        refine AllReady.cons rfl (fun K hK => ?_) AllReady.nil
                        go_simp
                        refine hK _ _ ?_
                        clear hK K
                        refine wpAny_ready (rs := [9]) (by kernel_rfl) (by simp) ?_
                        refine AllReady.cons rfl (fun K hK => ?_) AllReady.nil
                        go_simp
                        refine (JS.out _ S8.out.later).mono ?_
                        rintro e w9 ⟨rfl, b⟩
                        have S9 := Lib.hid (S8.out.on b)
                        clear b
                        try clear p0 p1 p2 p3 q0 q1 q2 q3 bx0 bx1 bx2 bx3 y0 y1 y2 y3 z0 z1 z2 z3 c0 c1' c2' c3'
                        obtain ⟨⟨p0, p1, p2, p3⟩, ⟨q0, q1, q2, q3⟩⟩ := HK.out _ S9.out.later
                        obtain ⟨bx0, bx1, bx2, bx3⟩ := S9.out.box
                        go_wp2_with fail
                        refine wpAny_take_at (i := 10) (some 67) (v := ?_) rfl rfl (by kernel_rfl) (by kernel_rfl) (by kernel_rfl) (fun _ _ _ h => h) (Or.inl ⟨by rfl, ?_⟩) ?_
                        rotate_left
                        focus (intro w; go_simp; try with_reducible rfl)
                        simp only [Act.put, List.setIfInBounds_toArray, List.set_cons_succ, List.set_cons_zero]
                        refine wpAny_take_at (i := 11) (some 68) (v := ?_) rfl rfl (by kernel_rfl) (by kernel_rfl) (by kernel_rfl) (fun _ _ _ h => h) (Or.inl ⟨by rfl, ?_⟩) ?_
                        rotate_left
                        focus (intro w; go_simp; try with_reducible rfl)
                        simp only [Act.put, List.setIfInBounds_toArray, List.set_cons_succ, List.set_cons_zero]
                        refine wpAny_take_at (i := 12) (some 69) (v := undef) rfl rfl (by kernel_rfl) (by kernel_rfl) (by kernel_rfl) (fun _ _ _ h => h) (Or.inr ⟨by rfl, rfl⟩) ?_
                        simp only [Act.put, List.setIfInBounds_toArray, List.set_cons_succ, List.set_cons_zero]
                        refine wpAny_take_at (i := 13) (some 70) (v := undef) rfl rfl (by kernel_rfl) (by kernel_rfl) (by kernel_rfl) (fun _ _ _ h => h) (Or.inr ⟨by rfl, rfl⟩) ?_
                        simp only [Act.put, List.setIfInBounds_toArray, List.set_cons_succ, List.set_cons_zero]
                        refine wpAny_take_at (i := 14) (some 71) (v := undef) rfl rfl (by kernel_rfl) (by kernel_rfl) (by kernel_rfl) (fun _ _ _ h => h) (Or.inr ⟨by rfl, rfl⟩) ?_
                        simp only [Act.put, List.setIfInBounds_toArray, List.set_cons_succ, List.set_cons_zero]
                        refine wpAny_take_at (i := 15) (some 72) (v := undef) rfl rfl (by kernel_rfl) (by kernel_rfl) (by kernel_rfl) (fun _ _ _ h => h) (Or.inr ⟨by rfl, rfl⟩) ?_
                        simp only [Act.put, List.setIfInBounds_toArray, List.set_cons_succ, List.set_cons_zero]
                        refine wpAny_take_at (i := 16) (some 73) (v := undef) rfl rfl (by kernel_rfl) (by kernel_rfl) (by kernel_rfl) (fun _ _ _ h => h) (Or.inr ⟨by rfl, rfl⟩) ?_
                        simp only [Act.put, List.setIfInBounds_toArray, List.set_cons_succ, List.set_cons_zero]
                        refine wpAny_take_at (i := 17) (some 74) (v := undef) rfl rfl (by kernel_rfl) (by kernel_rfl) (by kernel_rfl) (fun _ _ _ h => h) (Or.inr ⟨by rfl, rfl⟩) ?_
                        simp only [Act.put, List.setIfInBounds_toArray, List.set_cons_succ, List.set_cons_zero]
                        refine wpAny_take_at (i := 18) (some 75) (v := undef) rfl rfl (by kernel_rfl) (by kernel_rfl) (by kernel_rfl) (fun _ _ _ h => h) (Or.inr ⟨by rfl, rfl⟩) ?_
                        simp only [Act.put, List.setIfInBounds_toArray, List.set_cons_succ, List.set_cons_zero]
                        refine wpAny_take_at (i := 19) (some 76) (v := ?_) rfl rfl (by kernel_rfl) (by kernel_rfl) (by kernel_rfl) (fun _ _ _ h => h) (Or.inl ⟨by rfl, ?_⟩) ?_
                        rotate_left
                        focus (intro w; go_simp; try with_reducible rfl)
                        simp only [Act.put, List.setIfInBounds_toArray, List.set_cons_succ, List.set_cons_zero]
                        refine wpAny_take_at (i := 20) (some 2) (v := ?_) rfl rfl (by kernel_rfl) (by kernel_rfl) (by kernel_rfl) (fun _ _ _ h => h) (Or.inl ⟨by rfl, ?_⟩) ?_
                        rotate_left
                        focus (intro w; go_simp; try with_reducible rfl)
                        simp only [Act.put, List.setIfInBounds_toArray, List.set_cons_succ, List.set_cons_zero]
                        refine wpAny_done (by kernel_rfl) ?_ _
                        go_wp2_with fail
                        go_ret
                        exact ⟨says_no rfl, S9.out.below⟩
                · have hk3' : (k3.toList == [78, 97, 109, 101]) = false := ne_of hk3
                  clear hk3
                  go_wp2_with fail
                  refine wp_region_any (by kernel_rfl) ?_
                  change wpAny _ _ _ _ _ _ _ (World.drew _)
                  refine wpAny_take_at (i := 0) (some 57) (v := ?_) rfl rfl (by kernel_rfl) (by kernel_rfl) (by kernel_rfl) (fun _ _ _ h => h) (Or.inl ⟨by rfl, ?_⟩) ?_
                  rotate_left
                  focus (intro w; go_simp; try with_reducible rfl)
                  simp only [Act.put, List.setIfInBounds_toArray, List.set_cons_succ, List.set_cons_zero]
                  refine wpAny_ready (rs := [1]) (by kernel_rfl) (by simp) ?_
                  refine AllReady.cons rfl (fun K hK => ?_) AllReady.nil
                  go_simp
                  refine hK _ _ ?_
                  clear hK K
                  refine wpAny_take_at (i := 2) (some 59) (v := ?_) rfl rfl (by kernel_rfl) (by kernel_rfl) (by kernel_rfl) (fun _ _ _ h => h) (Or.inl ⟨by rfl, ?_⟩) ?_
                  rotate_left
                  focus (intro w; go_simp; try with_reducible rfl)
                  simp only [Act.put, List.setIfInBounds_toArray, List.set_cons_succ, List.set_cons_zero]
                  refine wpAny_take_at (i := 3) (some 60) (v := ?_) rfl rfl (by kernel_rfl) (by kernel_rfl) (by kernel_rfl) (fun _ _ _ h => h) (Or.inl ⟨by rfl, ?_⟩) ?_
                  rotate_left
                  focus (intro w; go_simp; try with_reducible rfl)
                  simp only [Act.put, List.setIfInBounds_toArray, List.set_cons_succ, List.set_cons_zero]
                  refine wpAny_take_at (i := 4) (some 61) (v := undef) rfl rfl (by kernel_rfl) (by kernel_rfl) (by kernel_rfl) (fun _ _ _ h => h) (Or.inr ⟨by rfl, rfl⟩) ?_
                  simp only [Act.put, List.setIfInBounds_toArray, List.set_cons_succ, List.set_cons_zero]
                  refine wpAny_take_at (i := 5) (some 62) (v := undef) rfl rfl (by kernel_rfl) (by kernel_rfl) (by kernel_rfl) (fun _ _ _ h => h) (Or.inr ⟨by rfl, rfl⟩) ?_
                  simp only [Act.put, List.setIfInBounds_toArray, List.set_cons_succ, List.set_cons_zero]
                  refine wpAny_take_at (i := 6) (some 63) (v := undef) rfl rfl (by kernel_rfl) (by kernel_rfl) (by kernel_rfl) (fun _ _ _ h => h) (Or.inr ⟨by rfl, rfl⟩) ?_
                  simp only [Act.put, List.setIfInBounds_toArray, List.set_cons_succ, List.set_cons_zero]
                  refine wpAny_take_at (i := 7) (some 64) (v := undef) rfl rfl (by kernel_rfl) (by kernel_rfl) (by kernel_rfl) (fun _ _ _ h => h) (Or.inr ⟨by rfl, rfl⟩) ?_
                  simp only [Act.put, List.setIfInBounds_toArray, List.set_cons_succ, List.set_cons_zero]
                  refine wpAny_take_at (i := 8) (some 65) (v := undef) rfl rfl (by kernel_rfl) (by kernel_rfl) (by kernel_rfl) (fun _ _ _ h => h) (Or.inr ⟨by rfl, rfl⟩) ?_
                  simp only [Act.put, List.setIfInBounds_toArray, List.set_cons_succ, List.set_cons_zero]
                  refine wpAny_take_at (i := 9) (some 66) (v := undef) rfl rfl (by kernel_rfl) (by kernel_rfl) (by kernel_rfl) (fun _ _ _ h => h) (Or.inr ⟨by rfl, rfl⟩) ?_
                  simp only [Act.put, List.setIfInBounds_toArray, List.set_cons_succ, List.set_cons_zero]
                  refine wpAny_take_at (i := 10) (some 67) (v := ?_) rfl rfl (by kernel_rfl) (by kernel_rfl) (by kernel_rfl) (fun _ _ _ h => h) (Or.inl ⟨by rfl, ?_⟩) ?_
                  rotate_left
                  focus (intro w; go_simp; try with_reducible rfl)
                  simp only [Act.put, List.setIfInBounds_toArray, List.set_cons_succ, List.set_cons_zero]
                  refine wpAny_take_at (i := 11) (some 68) (v := ?_) rfl rfl (by kernel_rfl) (by kernel_rfl) (by kernel_rfl) (fun _ _ _ h => h) (Or.inl ⟨by rfl, ?_⟩) ?_
                  rotate_left
                  focus (intro w; go_simp; try with_reducible rfl)
                  simp only [Act.put, List.setIfInBounds_toArray, List.set_cons_succ, List.set_cons_zero]
                  refine wpAny_take_at (i := 12) (some 69) (v := undef) rfl rfl (by kernel_rfl) (by kernel_rfl) (by kernel_rfl) (fun _ _ _ h => h) (Or.inr ⟨by rfl, rfl⟩) ?_
                  simp only [Act.put, List.setIfInBounds_toArray, List.set_cons_succ, List.set_cons_zero]
                  refine wpAny_take_at (i := 13) (some 70) (v := undef) rfl rfl (by kernel_rfl) (by kernel_rfl) (by kernel_rfl) (fun _ _ _ h => h) (Or.inr ⟨by rfl, rfl⟩) ?_
                  simp only [Act.put, List.setIfInBounds_toArray, List.set_cons_succ, List.set_cons_zero]
                  refine wpAny_take_at (i := 14) (some 71) (v := undef) rfl rfl (by kernel_rfl) (by kernel_rfl) (by kernel_rfl) (fun _ _ _ h => h) (Or.inr ⟨by rfl, rfl⟩) ?_
                  simp only [Act.put, List.setIfInBounds_toArray, List.set_cons_succ, List.set_cons_zero]
                  refine wpAny_take_at (i := 15) (some 72) (v := undef) rfl rfl (by kernel_rfl) (by kernel_rfl) (by kernel_rfl) (fun _ _ _ h => h) (Or.inr ⟨by rfl, rfl⟩) ?_
                  simp only [Act.put, List.setIfInBounds_toArray, List.set_cons_succ, List.set_cons_zero]
                  refine wpAny_take_at (i := 16) (some 73) (v := undef) rfl rfl (by kernel_rfl) (by kernel_rfl) (by kernel_rfl) (fun _ _ _ h => h) (Or.inr ⟨by rfl, rfl⟩) ?_
                  simp only [Act.put, List.setIfInBounds_toArray, List.set_cons_succ, List.set_cons_zero]
                  refine wpAny_take_at (i := 17) (some 74) (v := undef) rfl rfl (by kernel_rfl) (by kernel_rfl) (by kernel_rfl) (fun _ _ _ h => h) (Or.inr ⟨by rfl, rfl⟩) ?_
                  simp only [Act.put, List.setIfInBounds_toArray, List.set_cons_succ, List.set_cons_zero]
                  refine wpAny_take_at (i := 18) (some 75) (v := undef) rfl rfl (by kernel_rfl) (by kernel_rfl) (by kernel_rfl) (fun _ _ _ h => h) (Or.inr ⟨by rfl, rfl⟩) ?_
                  simp only [Act.put, List.setIfInBounds_toArray, List.set_cons_succ, List.set_cons_zero]
                  refine wpAny_take_at (i := 19) (some 76) (v := ?_) rfl rfl (by kernel_rfl) (by kernel_rfl) (by kernel_rfl) (fun _ _ _ h => h) (Or.inl ⟨by rfl, ?_⟩) ?_
                  rotate_left
                  focus (intro w; go_simp; try with_reducible rfl)
                  simp only [Act.put, List.setIfInBounds_toArray, List.set_cons_succ, List.set_cons_zero]
                  refine wpAny_take_at (i := 20) (some 2) (v := ?_) rfl rfl (by kernel_rfl) (by kernel_rfl) (by kernel_rfl) (fun _ _ _ h => h) (Or.inl ⟨by rfl, ?_⟩) ?_
                  rotate_left
                  focus (intro w; go_simp; try with_reducible rfl)
                  simp only [Act.put, List.setIfInBounds_toArray, List.set_cons_succ, List.set_cons_zero]
                  refine wpAny_done (by kernel_rfl) ?_ _
                  go_wp2_with fail
                  go_ret
                  exact ⟨says_no rfl, S8.out.below⟩
              | true =>
                clear hr
                obtain ⟨⟨p0, p1, p2, p3⟩, ⟨q0, q1, q2, q3⟩⟩ := HK.out _ S4.out.later
                obtain ⟨bx0, bx1, bx2, bx3⟩ := S4.out.box
                go_wp2_with fail
                go_ret
                exact ⟨says_no rfl, S4.out.below⟩
            | true =>
              clear hr
              obtain ⟨⟨p0, p1, p2, p3⟩, ⟨q0, q1, q2, q3⟩⟩ := HK.out _ S3.out.later
              obtain ⟨bx0, bx1, bx2, bx3⟩ := S3.out.box
              go_wp2_with fail
              go_ret
              exact ⟨says_no rfl, S3.out.below⟩
        · have HQ1 := Lib.hid (fun W => plain_not W ⟨#[67, 111, 110, 115, 116, 114, 117, 99, 116, 111, 114]⟩ x2 n2 l2.length qa qc 1 hs2)
          clear hs2 hq
          go_enter Tryz.func51, Tryz.ntmps51
          go_wp2_with fail
          refine (HP.out _).mono ?_
          rintro e w1 ⟨rfl, b⟩
          have S1 := Lib.hid (S0.out.on b)
          clear b
          obtain ⟨⟨p0, p1, p2, p3⟩, ⟨q0, q1, q2, q3⟩⟩ := HK.out _ S1.out.later
          obtain ⟨bx0, bx1, bx2, bx3⟩ := S1.out.box
          go_wp2_with fail
          refine (I1.out _ S1.out.later).mono ?_
          rintro e w2 ⟨⟨r, rfl, hr⟩, b⟩
          have S2 := Lib.hid (S1.out.on b)
          clear b
          try clear p0 p1 p2 p3 q0 q1 q2 q3 bx0 bx1 bx2 bx3
          cases r with
          | false =>
            clear hr
            obtain ⟨⟨p0, p1, p2, p3⟩, ⟨q0, q1, q2, q3⟩⟩ := HK.out _ S2.out.later
            obtain ⟨bx0, bx1, bx2, bx3⟩ := S2.out.box
            go_wp2_with fail
            go_ret
            exact ⟨says_no rfl, S2.out.below⟩
          | true =>
            have R1 := Lib.hid (hr rfl)
            clear hr
            obtain ⟨⟨p0, p1, p2, p3⟩, ⟨q0, q1, q2, q3⟩⟩ := HK.out _ S2.out.later
            obtain ⟨bx0, bx1, bx2, bx3⟩ := S2.out.box
            go_wp2_with fail
            refine (IS.out R1.out _ S2.out.later).mono ?_
            rintro e w3 ⟨⟨r, rfl, hr⟩, b⟩
            have S3 := Lib.hid (S2.out.on b)
            clear b
            try clear p0 p1 p2 p3 q0 q1 q2 q3 bx0 bx1 bx2 bx3
            cases r with
            | false =>
              clear hr
              obtain ⟨⟨p0, p1, p2, p3⟩, ⟨q0, q1, q2, q3⟩⟩ := HK.out _ S3.out.later
              obtain ⟨bx0, bx1, bx2, bx3⟩ := S3.out.box
              go_wp2_with fail
              refine (IT.out _ S3.out.later).mono ?_
              rintro e w4 ⟨⟨r, rfl, hr⟩, b⟩
              have S4 := Lib.hid (S3.out.on b)
              clear b
              try clear p0 p1 p2 p3 q0 q1 q2 q3 bx0 bx1 bx2 bx3
              cases r with
              | false =>
                clear hr
                obtain ⟨⟨p0, p1, p2, p3⟩, ⟨q0, q1, q2, q3⟩⟩ := HK.out _ S4.out.later
                obtain ⟨bx0, bx1, bx2, bx3⟩ := S4.out.box
                have S5 := Lib.hid (S4.out.on (box_below w4 (.cells #[.string ⟨#[67, 111, 110, 115, 116, 114, 117, 99, 116, 111, 114]⟩, .string x2, .int .i64 n2, .slice qa l2.length qc] 24)))
                have B5 := Lib.hid (Below.refl (w4.heap.size + 1) (w4.alloc (.cells #[.string ⟨#[67, 111, 110, 115, 116, 114, 117, 99, 116, 111, 114]⟩, .string x2, .int .i64 n2, .slice qa l2.length qc] 24)))
                go_wp2_with fail
                refine (HQ1.out _).mono ?_
                rintro e w6 ⟨rfl, b⟩
                have S6 := Lib.hid (S5.out.on b)
                have B6 := Lib.hid (bx_on B5.out b)
                clear b
                try clear y0 y1 y2 y3
                obtain ⟨y0, y1, y2, y3⟩ := box_at B6.out
                go_wp2_with fail
                go_ret
                exact ⟨says_no rfl, S6.out.below⟩
              | true =>
                clear hr
                obtain ⟨⟨p0, p1, p2, p3⟩, ⟨q0, q1, q2, q3⟩⟩ := HK.out _ S4.out.later
                obtain ⟨bx0, bx1, bx2, bx3⟩ := S4.out.box
                go_wp2_with fail
                go_ret
                exact ⟨says_no rfl, S4.out.below⟩
            | true =>
              clear hr
              obtain ⟨⟨p0, p1, p2, p3⟩, ⟨q0, q1, q2, q3⟩⟩ := HK.out _ S3.out.later
              obtain ⟨bx0, bx1, bx2, bx3⟩ := S3.out.box
              go_wp2_with fail
              go_ret
              exact ⟨says_no rfl, S3.out.below⟩
      have hk2' : (k2.toList == [67, 111, 110, 115, 116, 114, 117, 99, 116, 111, 114]) = false := ne_of hk2
      clear hk2
      by_cases hk2 : k2 = ⟨#[68, 101, 115, 116, 114, 117, 99, 116, 111, 114]⟩
      · subst hk2
        clear hk2'
        by_cases hs2 : x2 = ⟨#[]⟩ ∧ n2 = 0 ∧ (l2.length : Int) = 1
        · obtain ⟨rfl, rfl, hl2⟩ := hs2
          obtain ⟨z, rfl⟩ := one_kid (ks := l2) (by omega)
          obtain ⟨b2, off2, c2, za, zc, e2, hd1, hd2, hkid2, hz⟩ := hq.one
          simp only [val, Tree.kind, Tree.text, Tree.num, Tree.kids, Value.agg.injEq, Array.mk.injEq, List.cons.injEq, Value.slice.injEq, and_true, true_and, List.length_cons, List.length_nil] at e2
          obtain ⟨rfl, rfl⟩ := e2
          have HQ1 := Lib.hid (fun W => plain_one W ⟨#[68, 101, 115, 116, 114, 117, 99, 116, 111, 114]⟩ (some ⟨b2, off2, none⟩) qc)
          have HZ := Lib.hid hkid2
          have AZ := Lib.hid hz
          clear hkid2 hz hq hl2
          simp only [List.length_cons, List.length_nil, Nat.zero_add] at HK
          go_enter Tryz.func51, Tryz.ntmps51
          go_wp2_with fail
          refine (HP.out _).mono ?_
          rintro e w1 ⟨rfl, b⟩
          have S1 := Lib.hid (S0.out.on b)
          clear b
          obtain ⟨⟨p0, p1, p2, p3⟩, ⟨q0, q1, q2, q3⟩⟩ := HK.out _ S1.out.later
          obtain ⟨bx0, bx1, bx2, bx3⟩ := S1.out.box
          go_wp2_with fail
          refine (I1.out _ S1.out.later).mono ?_
          rintro e w2 ⟨⟨r, rfl, hr⟩, b⟩
          have S2 := Lib.hid (S1.out.on b)
          clear b
          try clear p0 p1 p2 p3 q0 q1 q2 q3 bx0 bx1 bx2 bx3
          cases r with
          | false =>
            clear hr
            obtain ⟨⟨p0, p1, p2, p3⟩, ⟨q0, q1, q2, q3⟩⟩ := HK.out _ S2.out.later
            obtain ⟨bx0, bx1, bx2, bx3⟩ := S2.out.box
            go_wp2_with fail
            go_ret
            exact ⟨says_no rfl, S2.out.below⟩
          | true =>
            have R1 := Lib.hid (hr rfl)
            clear hr
            obtain ⟨⟨p0, p1, p2, p3⟩, ⟨q0, q1, q2, q3⟩⟩ := HK.out _ S2.out.later
            obtain ⟨bx0, bx1, bx2, bx3⟩ := S2.out.box
            go_wp2_with fail
            refine (IS.out R1.out _ S2.out.later).mono ?_
            rintro e w3 ⟨⟨r, rfl, hr⟩, b⟩
            have S3 := Lib.hid (S2.out.on b)
            clear b
            try clear p0 p1 p2 p3 q0 q1 q2 q3 bx0 bx1 bx2 bx3
            cases r with
            | false =>
              clear hr
              obtain ⟨⟨p0, p1, p2, p3⟩, ⟨q0, q1, q2, q3⟩⟩ := HK.out _ S3.out.later
              obtain ⟨bx0, bx1, bx2, bx3⟩ := S3.out.box
              go_wp2_with fail
              refine (IT.out _ S3.out.later).mono ?_
              rintro e w4 ⟨⟨r, rfl, hr⟩, b⟩
              have S4 := Lib.hid (S3.out.on b)
              clear b
              try clear p0 p1 p2 p3 q0 q1 q2 q3 bx0 bx1 bx2 bx3
              cases r with
              | false =>
                clear hr
                obtain ⟨⟨p0, p1, p2, p3⟩, ⟨q0, q1, q2, q3⟩⟩ := HK.out _ S4.out.later
                obtain ⟨bx0, bx1, bx2, bx3⟩ := S4.out.box
                have S5 := Lib.hid (S4.out.on (box_below w4 (.cells #[.string ⟨#[68, 101, 115, 116, 114, 117, 99, 116, 111, 114]⟩, .string ⟨#[]⟩, .int .i64 0, .slice (some ⟨b2, off2, none⟩) 1 qc] 24)))
                have B5 := Lib.hid (Below.refl (w4.heap.size + 1) (w4.alloc (.cells #[.string ⟨#[68, 101, 115, 116, 114, 117, 99, 116, 111, 114]⟩, .string ⟨#[]⟩, .int .i64 0, .slice (some ⟨b2, off2, none⟩) 1 qc] 24)))
                go_wp2_with fail
                refine (HQ1.out _).mono ?_
                rintro e w6 ⟨rfl, b⟩
                have S6 := Lib.hid (S5.out.on b)
                have B6 := Lib.hid (bx_on B5.out b)
                clear b
                try clear y0 y1 y2 y3 z0 z1 z2 z3 bx0 bx1 bx2 bx3 p0 p1 p2 p3 q0 q1 q2 q3
                obtain ⟨y0, y1, y2, y3⟩ := box_at B6.out
                obtain ⟨z0, z1, z2, z3⟩ := HZ.out _ S6.out.later
                obtain ⟨bx0, bx1, bx2, bx3⟩ := S6.out.box
                obtain ⟨⟨p0, p1, p2, p3⟩, ⟨q0, q1, q2, q3⟩⟩ := HK.out _ S6.out.later
                go_wp2_with fail
                refine (HL.out R1.out _ S6.out.later).mono ?_
                rintro e w7 ⟨t3, v3, rfl, hat3, hg3, b⟩
                have S7 := Lib.hid (S6.out.on b)
                have B7 := Lib.hid (bx_on B6.out b)
                clear b
                try clear y0 y1 y2 y3 z0 z1 z2 z3 bx0 bx1 bx2 bx3 p0 p1 p2 p3 q0 q1 q2 q3
                obtain ⟨k3, x3, n3, l3⟩ := t3
                have AT3 := Lib.hid hat3
                obtain ⟨a3, c3, rfl, _⟩ := hat3.shut
                have G3 := Lib.hid hg3
                have S8 := Lib.hid ((S7.out.on (box_below w7 (.cells #[.string k3, .string x3, .int .i64 n3, .slice a3 l3.length c3] 24))).on (Below.refl _ _).drew)
                have B8 := Lib.hid (bx_on B7.out (box_below w7 (.cells #[.string k3, .string x3, .int .i64 n3, .slice a3 l3.length c3] 24)).drew)
                have C8 := Lib.hid (show Below (w7.heap.size + 1) (w7.alloc (.cells #[.string k3, .string x3, .int .i64 n3, .slice a3 l3.length c3] 24)) (w7.alloc (.cells #[.string k3, .string x3, .int .i64 n3, .slice a3 l3.length c3] 24)).drew from (Below.refl _ _).drew)
                obtain ⟨c0, c1', c2', c3'⟩ := box_at C8.out
                obtain ⟨y0, y1, y2, y3⟩ := box_at B8.out
                obtain ⟨z0, z1, z2, z3⟩ := HZ.out _ S8.out.later
                obtain ⟨bx0, bx1, bx2, bx3⟩ := S8.out.box
                obtain ⟨⟨p0, p1, p2, p3⟩, ⟨q0, q1, q2, q3⟩⟩ := HK.out _ S8.out.later
                clear hat3 hg3
                by_cases hk3 : k3 = ⟨#[78, 97, 109, 101]⟩
                · subst hk3
                  by_cases he : Tree.node ⟨#[78, 97, 109, 101]⟩ x3 n3 l3 = z
                  · have JS := Lib.hid (fun W hW => same_yes W0 _ z _ _ AT3.out AZ.out he W hW)
                    have EQ := Lib.hid he
                    clear he
                    go_wp2_with fail
                    refine wp_region_any (by kernel_rfl) ?_
                    change wpAny _ _ _ _ _ _ _ (World.drew _)
                    refine wpAny_take_at (i := 0) (some 57) (v := ?_) rfl rfl (by kernel_rfl) (by kernel_rfl) (by kernel_rfl) (fun _ _ _ h => h) (Or.inl ⟨by rfl, ?_⟩) ?_
                    rotate_left
                    focus (intro w; go_simp; try with_reducible rfl)
                    simp only [Act.put, List.setIfInBounds_toArray, List.set_cons_succ, List.set_cons_zero]
                    refine wpAny_ready (rs := [1]) (by kernel_rfl) (by simp) ?_
                    refine AllReady.cons rfl (fun K hK => ?_) AllReady.nil
                    go_simp
                    refine hK _ _ ?_
                    clear hK K
                    refine wpAny_take_at (i := 2) (some 59) (v := ?_) rfl rfl (by kernel_rfl) (by kernel_rfl) (by kernel_rfl) (fun _ _ _ h => h) (Or.inl ⟨by rfl, ?_⟩) ?_
                    rotate_left
                    focus (intro w; go_simp; try with_reducible rfl)
                    simp only [Act.put, List.setIfInBounds_toArray, List.set_cons_succ, List.set_cons_zero]
                    refine wpAny_take_at (i := 3) (some 60) (v := ?_) rfl rfl (by kernel_rfl) (by kernel_rfl) (by kernel_rfl) (fun _ _ _ h => h) (Or.inl ⟨by rfl, ?_⟩) ?_
                    rotate_left
                    focus (intro w; go_simp; try with_reducible rfl)
                    simp only [Act.put, List.setIfInBounds_toArray, List.set_cons_succ, List.set_cons_zero]
                    refine wpAny_take_at (i := 5) (some 62) (v := ?_) rfl rfl (by kernel_rfl) (by kernel_rfl) (by kernel_rfl) (fun _ _ _ h => h) (Or.inl ⟨by rfl, ?_⟩) ?_
                    rotate_left
                    focus (intro w; go_simp; try with_reducible rfl)
                    simp only [Act.put, List.setIfInBounds_toArray, List.set_cons_succ, List.set_cons_zero]
                    refine wpAny_ready (rs := [4, 6]) (by kernel_rfl) (by simp) ?_
                    refine AllReady.cons rfl (fun K hK => ?_) (AllReady.cons rfl (fun K hK => ?_) AllReady.nil)
                    · go_simp
                      refine hK _ _ ?_
                      clear hK K
                      refine wpAny_ready (rs := [6]) (by kernel_rfl) (by simp) ?_
                      refine AllReady.cons rfl (fun K hK => ?_) AllReady.nil
                      go_simp
                      refine hK _ _ ?_
                      clear hK K
                      refine wpAny_take_at (i := 7) (some 64) (v := ?_) rfl rfl (by kernel_rfl) (by kernel_rfl) (by kernel_rfl) (fun _ _ _ h => h) (Or.inl ⟨by rfl, ?_⟩) ?_
                      rotate_left
                      focus (intro w; go_simp; try with_reducible rfl)
                      simp only [Act.put, List.setIfInBounds_toArray, List.set_cons_succ, List.set_cons_zero]
                      refine wpAny_ready (rs := [8]) (by kernel_rfl) (by simp) ?_
                      refine AllReady.cons rfl (fun K hK => ?_) AllReady.nil
                      go_simp
                      refine hK _ _ ?_
                      clear hK K
                      refine wpAny_ready (rs := [9]) (by kernel_rfl) (by simp) ?_
                      refine AllReady.cons rfl (fun K hK => ?_) AllReady.nil
                      go_simp
                      refine (JS.out _ S8.out.later).mono ?_
                      rintro e w9 ⟨rfl, b⟩
                      have S9 := Lib.hid (S8.out.on b)
                      clear b
                      try clear p0 p1 p2 p3 q0 q1 q2 q3 bx0 bx1 bx2 bx3 y0 y1 y2 y3 z0 z1 z2 z3 c0 c1' c2' c3'
                      obtain ⟨⟨p0, p1, p2, p3⟩, ⟨q0, q1, q2, q3⟩⟩ := HK.out _ S9.out.later
                      obtain ⟨bx0, bx1, bx2, bx3⟩ := S9.out.box
                      go_wp2_with fail
                      refine wpAny_take_at (i := 10) (some 67) (v := ?_) rfl rfl (by kernel_rfl) (by kernel_rfl) (by kernel_rfl) (fun _ _ _ h => h) (Or.inl ⟨by rfl, ?_⟩) ?_
                      rotate_left
                      focus (intro w; go_simp; try with_reducible rfl)
                      simp only [Act.put, List.setIfInBounds_toArray, List.set_cons_succ, List.set_cons_zero]
                      refine wpAny_take_at (i := 11) (some 68) (v := ?_) rfl rfl (by kernel_rfl) (by kernel_rfl) (by kernel_rfl) (fun _ _ _ h => h) (Or.inl ⟨by rfl, ?_⟩) ?_
                      rotate_left
                      focus (intro w; go_simp; try with_reducible rfl)
                      simp only [Act.put, List.setIfInBounds_toArray, List.set_cons_succ, List.set_cons_zero]
                      refine wpAny_take_at (i := 12) (some 69) (v := ?_) rfl rfl (by kernel_rfl) (by kernel_rfl) (by kernel_rfl) (fun _ _ _ h => h) (Or.inl ⟨by rfl, ?_⟩) ?_
                      rotate_left
                      focus (intro w; go_simp; try with_reducible rfl)
                      simp only [Act.put, List.setIfInBounds_toArray, List.set_cons_succ, List.set_cons_zero]
                      refine wpAny_ready (rs := [13]) (by kernel_rfl) (by simp) ?_
                      refine AllReady.cons rfl (fun K hK => ?_) AllReady.nil
                      go_simp
                      refine hK _ _ ?_
                      clear hK K
                      refine wpAny_take_at (i := 14) (some 71) (v := ?_) rfl rfl (by kernel_rfl) (by kernel_rfl) (by kernel_rfl) (fun _ _ _ h => h) (Or.inl ⟨by rfl, ?_⟩) ?_
                      rotate_left
                      focus (intro w; go_simp; try with_reducible rfl)
                      simp only [Act.put, List.setIfInBounds_toArray, List.set_cons_succ, List.set_cons_zero]
                      refine wpAny_ready (rs := [15]) (by kernel_rfl) (by simp) ?_
                      refine AllReady.cons rfl (fun K hK => ?_) AllReady.nil
                      go_simp
                      refine hK _ _ ?_
                      clear hK K
                      refine wpAny_ready (rs := [16]) (by kernel_rfl) (by simp) ?_
                      refine AllReady.cons rfl (fun K hK => ?_) AllReady.nil
                      go_simp
                      refine (HT.out R1.out _ S9.out.later).mono ?_
                      rintro e w10 ⟨t8, v8, rfl, hat8, b⟩
                      have S10 := Lib.hid (S9.out.on b)
                      have J8 := Lib.hid (has_any W0 ⟨#[84, 97, 103, 103, 101, 100, 78, 97, 109, 101]⟩ t8 v8 hat8)
                      clear b hat8 p0 p1 p2 p3 q0 q1 q2 q3 bx0 bx1 bx2 bx3
                      go_wp2_with fail
                      refine wpAny_ready (rs := [17]) (by kernel_rfl) (by simp) ?_
                      refine AllReady.cons rfl (fun K hK => ?_) AllReady.nil
                      go_simp
                      refine (J8.out _ S10.out.later).mono ?_
                      rintro e w11 ⟨rfl, b⟩
                      have S11 := Lib.hid (S10.out.on b)
                      clear b
                      go_wp2_with fail
                      refine wpAny_take_at (i := 18) (some 75) (v := ?_) rfl rfl (by kernel_rfl) (by kernel_rfl) (by kernel_rfl) (fun _ _ _ h => h) (Or.inl ⟨by rfl, ?_⟩) ?_
                      rotate_left
                      focus (intro w; go_simp; try with_reducible rfl)
                      simp only [Act.put, List.setIfInBounds_toArray, List.set_cons_succ, List.set_cons_zero]
                      refine wpAny_take_at (i := 19) (some 76) (v := ?_) rfl rfl (by kernel_rfl) (by kernel_rfl) (by kernel_rfl) (fun _ _ _ h => h) (Or.inl ⟨by rfl, ?_⟩) ?_
                      rotate_left
                      focus (intro w; go_simp; try with_reducible rfl)
                      simp only [Act.put, List.setIfInBounds_toArray, List.set_cons_succ, List.set_cons_zero]
                      refine wpAny_take_at (i := 20) (some 2) (v := ?_) rfl rfl (by kernel_rfl) (by kernel_rfl) (by kernel_rfl) (fun _ _ _ h => h) (Or.inl ⟨by rfl, ?_⟩) ?_
                      rotate_left
                      focus (intro w; go_simp; try with_reducible rfl)
                      simp only [Act.put, List.setIfInBounds_toArray, List.set_cons_succ, List.set_cons_zero]
                      refine wpAny_done (by kernel_rfl) ?_ _
                      go_wp2_with fail
                      go_ret
                      exact ⟨⟨_, rfl, fun _ => .qualified R1.out (.destructor (by rw [← EQ.out]; exact G3.out))⟩, S11.out.below⟩
                    · go_simp
                      refine hK _ _ ?_
                      clear hK K
                      refine wpAny_take_at (i := 7) (some 64) (v := ?_) rfl rfl (by kernel_rfl) (by kernel_rfl) (by kernel_rfl) (fun _ _ _ h => h) (Or.inl ⟨by rfl, ?_⟩) ?_
                      rotate_left
                      focus (intro w; go_simp; try with_reducible rfl)
                      simp only [Act.put, List.setIfInBounds_toArray, List.set_cons_succ, List.set_cons_zero]
                      refine wpAny_ready (rs := [4, 8]) (by kernel_rfl) (by simp) ?_
                      refine AllReady.cons rfl (fun K hK => ?_) (AllReady.cons rfl (fun K hK => ?_) AllReady.nil)
                      · go_simp
                        refine hK _ _ ?_
                        clear hK K
                        refine wpAny_ready (rs := [8]) (by kernel_rfl) (by simp) ?_
                        refine AllReady.cons rfl (fun K hK => ?_) AllReady.nil
                        go_simp
                        refine hK _ _ ?_
                        clear hK K
                        refine wpAny_ready (rs := [9]) (by kernel_rfl) (by simp) ?_
                        refine AllReady.cons rfl (fun K hK => ?_) AllReady.nil
                        go_simp
                        refine (JS.out _ S8.out.later).mono ?_
                        rintro e w9 ⟨rfl, b⟩
                        have S9 := Lib.hid (S8.out.on b)
                        clear b
                        try clear p0 p1 p2 p3 q0 q1 q2 q3 bx0 bx1 bx2 bx3 y0 y1 y2 y3 z0 z1 z2 z3 c0 c1' c2' c3'
                        obtain ⟨⟨p0, p1, p2, p3⟩, ⟨q0, q1, q2, q3⟩⟩ := HK.out _ S9.out.later
                        obtain ⟨bx0, bx1, bx2, bx3⟩ := S9.out.box
                        go_wp2_with fail
                        refine wpAny_take_at (i := 10) (some 67) (v := ?_) rfl rfl (by kernel_rfl) (by kernel_rfl) (by kernel_rfl) (fun _ _ _ h => h) (Or.inl ⟨by rfl, ?_⟩) ?_
                        rotate_left
                        focus (intro w; go_simp; try with_reducible rfl)
                        simp only [Act.put, List.setIfInBounds_toArray, List.set_cons_succ, List.set_cons_zero]
                        refine wpAny_take_at (i := 11) (some 68) (v := ?_) rfl rfl (by kernel_rfl) (by kernel_rfl) (by kernel_rfl) (fun _ _ _ h => h) (Or.inl ⟨by rfl, ?_⟩) ?_
                        rotate_left
                        focus (intro w; go_simp; try with_reducible rfl)
                        simp only [Act.put, List.setIfInBounds_toArray, List.set_cons_succ, List.set_cons_zero]
                        refine wpAny_take_at (i := 12) (some 69) (v := ?_) rfl rfl (by kernel_rfl) (by kernel_rfl) (by kernel_rfl) (fun _ _ _ h => h) (Or.inl ⟨by rfl, ?_⟩) ?_
                        rotate_left
                        focus (intro w; go_simp; try with_reducible rfl)
                        simp only [Act.put, List.setIfInBounds_toArray, List.set_cons_succ, List.set_cons_zero]
                        refine wpAny_ready (rs := [13]) (by kernel_rfl) (by simp) ?_
                        refine AllReady.cons rfl (fun K hK => ?_) AllReady.nil
                        go_simp
                        refine hK _ _ ?_
                        clear hK K
                        refine wpAny_take_at (i := 14) (some 71) (v := ?_) rfl rfl (by kernel_rfl) (by kernel_rfl) (by kernel_rfl) (fun _ _ _ h => h) (Or.inl ⟨by rfl, ?_⟩) ?_
                        rotate_left
                        focus (intro w; go_simp; try with_reducible rfl)
                        simp only [Act.put, List.setIfInBounds_toArray, List.set_cons_succ, List.set_cons_zero]
                        refine wpAny_ready (rs := [15]) (by kernel_rfl) (by simp) ?_
                        refine AllReady.cons rfl (fun K hK => ?_) AllReady.nil
                        go_simp
                        refine hK _ _ ?_
                        clear hK K
                        refine wpAny_ready (rs := [16]) (by kernel_rfl) (by simp) ?_
                        refine AllReady.cons rfl (fun K hK => ?_) AllReady.nil
                        go_simp
                        refine (HT.out R1.out _ S9.out.later).mono ?_
                        rintro e w10 ⟨t8, v8, rfl, hat8, b⟩
                        have S10 := Lib.hid (S9.out.on b)
                        have J8 := Lib.hid (has_any W0 ⟨#[84, 97, 103, 103, 101, 100, 78, 97, 109, 101]⟩ t8 v8 hat8)
                        clear b hat8 p0 p1 p2 p3 q0 q1 q2 q3 bx0 bx1 bx2 bx3
                        go_wp2_with fail
                        refine wpAny_ready (rs := [17]) (by kernel_rfl) (by simp) ?_
                        refine AllReady.cons rfl (fun K hK => ?_) AllReady.nil
                        go_simp
                        refine (J8.out _ S10.out.later).mono ?_
                        rintro e w11 ⟨rfl, b⟩
                        have S11 := Lib.hid (S10.out.on b)
                        clear b
                        go_wp2_with fail
                        refine wpAny_take_at (i := 18) (some 75) (v := ?_) rfl rfl (by kernel_rfl) (by kernel_rfl) (by kernel_rfl) (fun _ _ _ h => h) (Or.inl ⟨by rfl, ?_⟩) ?_
                        rotate_left
                        focus (intro w; go_simp; try with_reducible rfl)
                        simp only [Act.put, List.setIfInBounds_toArray, List.set_cons_succ, List.set_cons_zero]
                        refine wpAny_take_at (i := 19) (some 76) (v := ?_) rfl rfl (by kernel_rfl) (by kernel_rfl) (by kernel_rfl) (fun _ _ _ h => h) (Or.inl ⟨by rfl, ?_⟩) ?_
                        rotate_left
                        focus (intro w; go_simp; try with_reducible rfl)
                        simp only [Act.put, List.setIfInBounds_toArray, List.set_cons_succ, List.set_cons_zero]
                        refine wpAny_take_at (i := 20) (some 2) (v := ?_) rfl rfl (by kernel_rfl) (by kernel_rfl) (by kernel_rfl) (fun _ _ _ h => h) (Or.inl ⟨by rfl, ?_⟩) ?_
                        rotate_left
                        focus (intro w; go_simp; try with_reducible rfl)
                        simp only [Act.put, List.setIfInBounds_toArray, List.set_cons_succ, List.set_cons_zero]
                        refine wpAny_done (by kernel_rfl) ?_ _
                        go_wp2_with fail
                        go_ret
                        exact ⟨⟨_, rfl, fun _ => .qualified R1.out (.destructor (by rw [← EQ.out]; exact G3.out))⟩, S11.out.below⟩
                      · go_simp
                        refine hK _ _ ?_
                        clear hK K
                        refine wpAny_ready (rs := [4]) (by kernel_rfl) (by simp) ?_
                        refine AllReady.cons rfl (fun K hK => ?_) AllReady.nil
                        go_simp
                        refine hK _ _ ?_
                        clear hK K
                        refine wpAny_ready (rs := [9]) (by kernel_rfl) (by simp) ?_
                        refine AllReady.cons rfl (fun K hK => ?_) AllReady.nil
                        go_simp
                        refine (JS.out _ S8.out.later).mono ?_
                        rintro e w9 ⟨rfl, b⟩
                        have S9 := Lib.hid (S8.out.on b)
                        clear b
                        try clear p0 p1 p2 p3 q0 q1 q2 q3 bx0 bx1 bx2 bx3 y0 y1 y2 y3 z0 z1 z2 z3 c0 c1' c2' c3'
                        obtain ⟨⟨p0, p1, p2, p3⟩, ⟨q0, q1, q2, q3⟩⟩ := HK.out _ S9.out.later
                        obtain ⟨bx0, bx1, bx2, bx3⟩ := S9.out.box
                        go_wp2_with fail
                        refine wpAny_take_at (i := 10) (some 67) (v := ?_) rfl rfl (by kernel_rfl) (by kernel_rfl) (by kernel_rfl) (fun _ _ _ h => h) (Or.inl ⟨by rfl, ?_⟩) ?_
                        rotate_left
                        focus (intro w; go_simp; try with_reducible rfl)
                        simp only [Act.put, List.setIfInBounds_toArray, List.set_cons_succ, List.set_cons_zero]
                        refine wpAny_take_at (i := 11) (some 68) (v := ?_) rfl rfl (by kernel_rfl) (by kernel_rfl) (by kernel_rfl) (fun _ _ _ h => h) (Or.inl ⟨by rfl, ?_⟩) ?_
                        rotate_left
                        focus (intro w; go_simp; try with_reducible rfl)
                        simp only [Act.put, List.setIfInBounds_toArray, List.set_cons_succ, List.set_cons_zero]
                        refine wpAny_take_at (i := 12) (some 69) (v := ?_) rfl rfl (by kernel_rfl) (by kernel_rfl) (by kernel_rfl) (fun _ _ _ h => h) (Or.inl ⟨by rfl, ?_⟩) ?_
                        rotate_left
                        focus (intro w; go_simp; try with_reducible rfl)
                        simp only [Act.put, List.setIfInBounds_toArray, List.set_cons_succ, List.set_cons_zero]
                        refine wpAny_ready (rs := [13]) (by kernel_rfl) (by simp) ?_
                        refine AllReady.cons rfl (fun K hK => ?_) AllReady.nil
                        go_simp
                        refine hK _ _ ?_
                        clear hK K
                        refine wpAny_take_at (i := 14) (some 71) (v := ?_) rfl rfl (by kernel_rfl) (by kernel_rfl) (by kernel_rfl) (fun _ _ _ h => h) (Or.inl ⟨by rfl, ?_⟩) ?_
                        rotate_left
                        focus (intro w; go_simp; try with_reducible rfl)
                        simp only [Act.put, List.setIfInBounds_toArray, List.set_cons_succ, List.set_cons_zero]
                        refine wpAny_ready (rs := [15]) (by kernel_rfl) (by simp) ?_
                        refine AllReady.cons rfl (fun K hK => ?_) AllReady.nil
                        go_simp
                        refine hK _ _ ?_
                        clear hK K
                        refine wpAny_ready (rs := [16]) (by kernel_rfl) (by simp) ?_
                        refine AllReady.cons rfl (fun K hK => ?_) AllReady.nil
                        go_simp
                        refine (HT.out R1.out _ S9.out.later).mono ?_
                        rintro e w10 ⟨t8, v8, rfl, hat8, b⟩
                        have S10 := Lib.hid (S9.out.on b)
                        have J8 := Lib.hid (has_any W0 ⟨#[84, 97, 103, 103, 101, 100, 78, 97, 109, 101]⟩ t8 v8 hat8)
                        clear b hat8 p0 p1 p2 p3 q0 q1 q2 q3 bx0 bx1 bx2 bx3
                        go_wp2_with fail
                        refine wpAny_ready (rs := [17]) (by kernel_rfl) (by simp) ?_
                        refine AllReady.cons rfl (fun K hK => ?_) AllReady.nil
                        go_simp
                        refine (J8.out _ S10.out.later).mono ?_
                        rintro e w11 ⟨rfl, b⟩
                        have S11 := Lib.hid (S10.out.on b)
                        clear b
                        go_wp2_with fail
                        refine wpAny_take_at (i := 18) (some 75) (v := ?_) rfl rfl (by kernel_rfl) (by kernel_rfl) (by kernel_rfl) (fun _ _ _ h => h) (Or.inl ⟨by rfl, ?_⟩) ?_
                        rotate_left
                        focus (intro w; go_simp; try with_reducible rfl)
                        simp only [Act.put, List.setIfInBounds_toArray, List.set_cons_succ, List.set_cons_zero]
                        refine wpAny_take_at (i := 19) (some 76) (v := ?_) rfl rfl (by kernel_rfl) (by kernel_rfl) (by kernel_rfl) (fun _ _ _ h => h) (Or.inl ⟨by rfl, ?_⟩) ?_
                        rotate_left
                        focus (intro w; go_simp; try with_reducible rfl)
                        simp only [Act.put, List.setIfInBounds_toArray, List.set_cons_succ, List.set_cons_zero]
                        refine wpAny_take_at (i := 20) (some 2) (v := ?_) rfl rfl (by kernel_rfl) (by kernel_rfl) (by kernel_rfl) (fun _ _ _ h => h) (Or.inl ⟨by rfl, ?_⟩) ?_
                        rotate_left
                        focus (intro w; go_simp; try with_reducible rfl)
                        simp only [Act.put, List.setIfInBounds_toArray, List.set_cons_succ, List.set_cons_zero]
                        refine wpAny_done (by kernel_rfl) ?_ _
                        go_wp2_with fail
                        go_ret
                        exact ⟨⟨_, rfl, fun _ => .qualified R1.out (.destructor (by rw [← EQ.out]; exact G3.out))⟩, S11.out.below⟩
                  · have JS := Lib.hid (fun W hW => same_not W0 _ z _ _ AT3.out AZ.out he W hW)
                    clear he
                    go_wp2_with fail
                    refine wp_region_any (by kernel_rfl) ?_
                    change wpAny _ _ _ _ _ _ _ (World.drew _)
                    refine wpAny_take_at (i := 0) (some 57) (v := ?_) rfl rfl (by kernel_rfl) (by kernel_rfl) (by kernel_rfl) (fun _ _ _ h => h) (Or.inl ⟨by rfl, ?_⟩) ?_
                    rotate_left
                    focus (intro w; go_simp; try with_reducible rfl)
                    simp only [Act.put, List.setIfInBounds_toArray, List.set_cons_succ, List.set_cons_zero]
                    refine wpAny_ready (rs := [1]) (by kernel_rfl) (by simp) ?_
                    refine AllReady.cons rfl (fun K hK => ?_) AllReady.nil
                    go_simp
                    refine hK _ _ ?_
                    clear hK K
                    refine wpAny_take_at (i := 2) (some 59) (v := ?_) rfl rfl (by kernel_rfl) (by kernel_rfl) (by kernel_rfl) (fun _ _ _ h => h) (Or.inl ⟨by rfl, ?_⟩) ?_
                    rotate_left
                    focus (intro w; go_simp; try with_reducible rfl)
                    simp only [Act.put, List.setIfInBounds_toArray, List.set_cons_succ, List.set_cons_zero]
                    refine wpAny_take_at (i := 3) (some 60) (v := ?_) rfl rfl (by kernel_rfl) (by kernel_rfl) (by kernel_rfl) (fun _ _ _ h => h) (Or.inl ⟨by rfl, ?_⟩) ?_
                    rotate_left
                    focus (intro w; go_simp; try with_reducible rfl)
                    simp only [Act.put, List.setIfInBounds_toArray, List.set_cons_succ, List.set_cons_zero]
                    refine wpAny_take_at (i := 5) (some 62) (v := ?_) rfl rfl (by kernel_rfl) (by kernel_rfl) (by kernel_rfl) (fun _ _ _ h => h) (Or.inl ⟨by rfl, ?_⟩) ?_
                    rotate_left
                    focus (intro w; go_simp; try with_reducible rfl)
                    simp only [Act.put, List.setIfInBounds_toArray, List.set_cons_succ, List.set_cons_zero]
                    refine wpAny_ready (rs := [4, 6]) (by kernel_rfl) (by simp) ?_
                    refine AllReady.cons rfl (fun K hK => ?_) (AllReady.cons rfl (fun K hK => ?_) AllReady.nil)
                    · go_simp
                      refine hK _ _ ?_
                      clear hK K
                      refine wpAny_ready (rs := [6]) (by kernel_rfl) (by simp) ?_
                      refine AllReady.cons rfl (fun K hK => ?_) AllReady.nil
                      go_simp
                      refine hK _ _ ?_
                      clear hK K
                      refine wpAny_take_at (i := 7) (some 64) (v := ?_) rfl rfl (by kernel_rfl) (by kernel_rfl) (by kernel_rfl) (fun _ _ _ h => h) (Or.inl ⟨by rfl, ?_⟩) ?_
                      rotate_left
                      focus (intro w; go_simp; try with_reducible rfl)
                      simp only [Act.put, List.setIfInBounds_toArray, List.set_cons_succ, List.set_cons_zero]
                      refine wpAny_ready (rs := [8]) (by kernel_rfl) (by simp) ?_
                      refine AllReady.cons rfl (fun K hK => ?_) AllReady.nil
                      go_simp
                      refine hK _ _ ?_
                      clear hK K
                      refine wpAny_ready (rs := [9]) (by kernel_rfl) (by simp) ?_
                      refine AllReady.cons rfl (fun K hK => ?_) AllReady.nil
                      go_simp
                      refine (JS.out _ S8.out.later).mono ?_
                      rintro e w9 ⟨rfl, b⟩
                      have S9 := Lib.hid (S8.out.on b)
                      clear b
                      try clear p0 p1 p2 p3 q0 q1 q2 q3 bx0 bx1 bx2 bx3 y0 y1 y2 y3 z0 z1 z2 z3 c0 c1' c2' c3'
                      obtain ⟨⟨p0, p1, p2, p3⟩, ⟨q0, q1, q2, q3⟩⟩ := HK.out _ S9.out.later
                      obtain ⟨bx0, bx1, bx2, bx3⟩ := S9.out.box
                      go_wp2_with fail
                      refine wpAny_take_at (i := 10) (some 67) (v := ?_) rfl rfl (by kernel_rfl) (by kernel_rfl) (by kernel_rfl) (fun _ _ _ h => h) (Or.inl ⟨by rfl, ?_⟩) ?_
                      rotate_left
                      focus (intro w; go_simp; try with_reducible rfl)
                      simp only [Act.put, List.setIfInBounds_toArray, List.set_cons_succ, List.set_cons_zero]
                      refine wpAny_take_at (i := 11) (some 68) (v := ?_) rfl rfl (by kernel_rfl) (by kernel_rfl) (by kernel_rfl) (fun _ _ _ h => h) (Or.inl ⟨by rfl, ?_⟩) ?_
                      rotate_left
                      focus (intro w; go_simp; try with_reducible rfl)
                      simp only [Act.put, List.setIfInBounds_toArray, List.set_cons_succ, List.set_cons_zero]
                      refine wpAny_take_at (i := 12) (some 69) (v := undef) rfl rfl (by kernel_rfl) (by kernel_rfl) (by kernel_rfl) (fun _ _ _ h => h) (Or.inr ⟨by rfl, rfl⟩) ?_
                      simp only [Act.put, List.setIfInBounds_toArray, List.set_cons_succ, List.set_cons_zero]
                      refine wpAny_take_at (i := 13) (some 70) (v := undef) rfl rfl (by kernel_rfl) (by kernel_rfl) (by kernel_rfl) (fun _ _ _ h => h) (Or.inr ⟨by rfl, rfl⟩) ?_
                      simp only [Act.put, List.setIfInBounds_toArray, List.set_cons_succ, List.set_cons_zero]
                      refine wpAny_take_at (i := 14) (some 71) (v := undef) rfl rfl (by kernel_rfl) (by kernel_rfl) (by kernel_rfl) (fun _ _ _ h => h) (Or.inr ⟨by rfl, rfl⟩) ?_
                      simp only [Act.put, List.setIfInBounds_toArray, List.set_cons_succ, List.set_cons_zero]
                      refine wpAny_take_at (i := 15) (some 72) (v := undef) rfl rfl (by kernel_rfl) (by kernel_rfl) (by kernel_rfl) (fun _ _ _ h => h) (Or.inr ⟨by rfl, rfl⟩) ?_
                      simp only [Act.put, List.setIfInBounds_toArray, List.set_cons_succ, List.set_cons_zero]
                      refine wpAny_take_at (i := 16) (some 73) (v := undef) rfl rfl (by kernel_rfl) (by kernel_rfl) (by kernel_rfl) (fun _ _ _ h => h) (Or.inr ⟨by rfl, rfl⟩) ?_
                      simp only [Act.put, List.setIfInBounds_toArray, List.set_cons_succ, List.set_cons_zero]
                      refine wpAny_take_at (i := 17) (some 74) (v := undef) rfl rfl (by kernel_rfl) (by kernel_rfl) (by kernel_rfl) (fun _ _ _ h => h) (Or.inr ⟨by rfl, rfl⟩) ?_
                      simp only [Act.put, List.setIfInBounds_toArray, List.set_cons_succ, List.set_cons_zero]
                      refine wpAny_take_at (i := 18) (some 75) (v := undef) rfl rfl (by kernel_rfl) (by kernel_rfl) (by kernel_rfl) (fun _ _ _ h => h) (Or.inr ⟨by rfl, rfl⟩) ?_
                      simp only [Act.put, List.setIfInBounds_toArray, List.set_cons_succ, List.set_cons_zero]
                      refine wpAny_take_at (i := 19) (some 76) (v := ?_) rfl rfl (by kernel_rfl) (by kernel_rfl) (by kernel_rfl) (fun _ _ _ h => h) (Or.inl ⟨by rfl, ?_⟩) ?_
                      rotate_left
                      focus (intro w; go_simp; try with_reducible rfl)
                      simp only [Act.put, List.setIfInBounds_toArray, List.set_cons_succ, List.set_cons_zero]
                      refine wpAny_take_at (i := 20) (some 2) (v := ?_) rfl rfl (by kernel_rfl) (by kernel_rfl) (by kernel_rfl) (fun _ _ _ h => h) (Or.inl ⟨by rfl, ?_⟩) ?_
                      rotate_left
                      focus (intro w; go_simp; try with_reducible rfl)
                      simp only [Act.put, List.setIfInBounds_toArray, List.set_cons_succ, List.set_cons_zero]
                      refine wpAny_done (by kernel_rfl) ?_ _
                      go_wp2_with fail
                      go_ret
                      exact ⟨says_no rfl, S9.out.below⟩
                    · go_simp
                      refine hK _ _ ?_
                      clear hK K
                      refine wpAny_take_at (i := 7) (some 64) (v := ?_) rfl rfl (by kernel_rfl) (by kernel_rfl) (by kernel_rfl) (fun _ _ _ h => h) (Or.inl ⟨by rfl, ?_⟩) ?_
                      rotate_left
                      focus (intro w; go_simp; try with_reducible rfl)
                      simp only [Act.put, List.setIfInBounds_toArray, List.set_cons_succ, List.set_cons_zero]
                      refine wpAny_ready (rs := [4, 8]) (by kernel_rfl) (by simp) ?_
                      refine AllReady.cons rfl (fun K hK => ?_) (AllReady.cons rfl (fun K hK => ?_) AllReady.nil)
                      · go_simp
                        refine hK _ _ ?_
                        clear hK K
                        refine wpAny_ready (rs := [8]) (by kernel_rfl) (by simp) ?_
                        refine AllReady.cons rfl (fun K hK => ?_) AllReady.nil
                        go_simp
                        refine hK _ _ ?_
                        clear hK K
                        refine wpAny_ready (rs := [9]) (by kernel_rfl) (by simp) ?_
                        refine AllReady.cons rfl (fun K hK => ?_) AllReady.nil
                        go_simp
                        refine (JS.out _ S8.out.later).mono ?_
                        rintro e w9 ⟨rfl, b⟩
                        have S9 := Lib.hid (S8.out.on b)
                        clear b
                        try clear p0 p1 p2 p3 q0 q1 q2 q3 bx0 bx1 bx2 bx3 y0 y1 y2 y3 z0 z1 z2 z3 c0 c1' c2' c3'
                        obtain ⟨⟨p0, p1, p2, p3⟩, ⟨q0, q1, q2, q3⟩⟩ := HK.out _ S9.out.later
                        obtain ⟨bx0, bx1, bx2, bx3⟩ := S9.out.box
                        go_wp2_with fail
                        refine wpAny_take_at (i := 10) (some 67) (v := ?_) rfl rfl (by kernel_rfl) (by kernel_rfl) (by kernel_rfl) (fun _ _ _ h => h) (Or.inl ⟨by rfl, ?_⟩) ?_
                        rotate_left
                        focus (intro w; go_simp; try with_reducible rfl)
                        simp only [Act.put, List.setIfInBounds_toArray, List.set_cons_succ, List.set_cons_zero]
                        refine wpAny_take_at (i := 11) (some 68) (v := ?_) rfl rfl (by kernel_rfl) (by kernel_rfl) (by kernel_rfl) (fun _ _ _ h => h) (Or.inl ⟨by rfl, ?_⟩) ?_
                        rotate_left
                        focus (intro w; go_simp; try with_reducible rfl)
                        simp only [Act.put, List.setIfInBounds_toArray, List.set_cons_succ, List.set_cons_zero]
                        refine wpAny_take_at (i := 12) (some 69) (v := undef) rfl rfl (by kernel_rfl) (by kernel_rfl) (by kernel_rfl) (fun _ _ _ h => h) (Or.inr ⟨by rfl, rfl⟩) ?_
                        simp only [Act.put, List.setIfInBounds_toArray, List.set_cons_succ, List.set_cons_zero]
                        refine wpAny_take_at (i := 13) (some 70) (v := undef) rfl rfl (by kernel_rfl) (by kernel_rfl) (by kernel_rfl) (fun _ _ _ h => h) (Or.inr ⟨by rfl, rfl⟩) ?_
                        simp only [Act.put, List.setIfInBounds_toArray, List.set_cons_succ, List.set_cons_zero]
                        refine wpAny_take_at (i := 14) (some 71) (v := undef) rfl rfl (by kernel_rfl) (by kernel_rfl) (by kernel_rfl) (fun _ _ _ h => h) (Or.inr ⟨by rfl, rfl⟩) ?_
                        simp only [Act.put, List.setIfInBounds_toArray, List.set_cons_succ, List.set_cons_zero]
                        refine wpAny_take_at (i := 15) (some 72) (v := undef) rfl rfl (by kernel_rfl) (by kernel_rfl) (by kernel_rfl) (fun _ _ _ h => h) (Or.inr ⟨by rfl, rfl⟩) ?_
                        simp only [Act.put, List.setIfInBounds_toArray, List.set_cons_succ, List.set_cons_zero]
                        refine wpAny_take_at (i := 16) (some 73) (v := undef) rfl rfl (by kernel_rfl) (by kernel_rfl) (by kernel_rfl) (fun _ _ _ h => h) (Or.inr ⟨by rfl, rfl⟩) ?_
                        simp only [Act.put, List.setIfInBounds_toArray, List.set_cons_succ, List.set_cons_zero]
                        refine wpAny_take_at (i := 17) (some 74) (v := undef) rfl rfl (by kernel_rfl) (by kernel_rfl) (by kernel_rfl) (fun _ _ _ h => h) (Or.inr ⟨by rfl, rfl⟩) ?_
                        simp only [Act.put, List.setIfInBounds_toArray, List.set_cons_succ, List.set_cons_zero]
                        refine wpAny_take_at (i := 18) (some 75) (v := undef) rfl rfl (by kernel_rfl) (by kernel_rfl) (by kernel_rfl) (fun _ _ _ h => h) (Or.inr ⟨by rfl, rfl⟩) ?_
                        simp only [Act.put, List.setIfInBounds_toArray, List.set_cons_succ, List.set_cons_zero]
                        refine wpAny_take_at (i := 19) (some 76) (v := ?_) rfl rfl (by kernel_rfl) (by kernel_rfl) (by kernel_rfl) (fun _ _ _ h => h) (Or.inl ⟨by rfl, ?_⟩) ?_
                        rotate_left
                        focus (intro w; go_simp; try with_reducible rfl)
                        simp only [Act.put, List.setIfInBounds_toArray, List.set_cons_succ, List.set_cons_zero]
                        refine wpAny_take_at (i := 20) (some 2) (v := ?_) rfl rfl (by kernel_rfl) (by kernel_rfl) (by kernel_rfl) (fun _ _ _ h => h) (Or.inl ⟨by rfl, ?_⟩) ?_
                        rotate_left
                        focus (intro w; go_simp; try with_reducible rfl)
                        simp only [Act.put, List.setIfInBounds_toArray, List.set_cons_succ, List.set_cons_zero]
                        refine wpAny_done (by kernel_rfl) ?_ _
                        go_wp2_with fail
                        go_ret
                        exact ⟨says_no rfl, S9.out.below⟩
                      · go_simp
                        refine hK _ _ ?_
                        clear hK K
                        refine wpAny_ready (rs := [4]) (by kernel_rfl) (by simp) ?_
                        refine AllReady.cons rfl (fun K hK => ?_) AllReady.nil
                        go_simp
                        refine hK _ _ ?_
                        clear hK K
                        refine wpAny_ready (rs := [9]) (by kernel_rfl) (by simp) ?_
                        refine AllReady.cons rfl (fun K hK => ?_) AllReady.nil
                        go_simp
                        refine (JS.out _ S8.out.later).mono ?_
                        rintro e w9 ⟨rfl, b⟩
                        have S9 := Lib.hid (S8.out.on b)
                        clear b
                        try clear p0 p1 p2 p3 q0 q1 q2 q3 bx0 bx1 bx2 bx3 y0 y1 y2 y3 z0 z1 z2 z3 c0 c1' c2' c3'
                        obtain ⟨⟨p0, p1, p2, p3⟩, ⟨q0, q1, q2, q3⟩⟩ := HK.out _ S9.out.later
                        obtain ⟨bx0, bx1, bx2, bx3⟩ := S9.out.box
                        go_wp2_with fail
                        refine wpAny_take_at (i := 10) (some 67) (v := ?_) rfl rfl (by kernel_rfl) (by kernel_rfl) (by kernel_rfl) (fun _ _ _ h => h) (Or.inl ⟨by rfl, ?_⟩) ?_
                        rotate_left
                        focus (intro w; go_simp; try with_reducible rfl)
                        simp only [Act.put, List.setIfInBounds_toArray, List.set_cons_succ, List.set_cons_zero]
                        refine wpAny_take_at (i := 11) (some 68) (v := ?_) rfl rfl (by kernel_rfl) (by kernel_rfl) (by kernel_rfl) (fun _ _ _ h => h) (Or.inl ⟨by rfl, ?_⟩) ?_
                        rotate_left
                        focus (intro w; go_simp; try with_reducible rfl)
                        simp only [Act.put, List.setIfInBounds_toArray, List.set_cons_succ, List.set_cons_zero]
                        refine wpAny_take_at (i := 12) (some 69) (v := undef) rfl rfl (by kernel_rfl) (by kernel_rfl) (by kernel_rfl) (fun _ _ _ h => h) (Or.inr ⟨by rfl, rfl⟩) ?_
                        simp only [Act.put, List.setIfInBounds_toArray, List.set_cons_succ, List.set_cons_zero]
                        refine wpAny_take_at (i := 13) (some 70) (v := undef) rfl rfl (by kernel_rfl) (by kernel_rfl) (by kernel_rfl) (fun _ _ _ h => h) (Or.inr ⟨by rfl, rfl⟩) ?_
                        simp only [Act.put, List.setIfInBounds_toArray, List.set_cons_succ, List.set_cons_zero]
                        refine wpAny_take_at (i := 14) (some 71) (v := undef) rfl rfl (by kernel_rfl) (by kernel_rfl) (by kernel_rfl) (fun _ _ _ h => h) (Or.inr ⟨by rfl, rfl⟩) ?_
                        simp only [Act.put, List.setIfInBounds_toArray, List.set_cons_succ, List.set_cons_zero]
                        refine wpAny_take_at (i := 15) (some 72) (v := undef) rfl rfl (by kernel_rfl) (by kernel_rfl) (by kernel_rfl) (fun _ _ _ h => h) (Or.inr ⟨by rfl, rfl⟩) ?_
                        simp only [Act.put, List.setIfInBounds_toArray, List.set_cons_succ, List.set_cons_zero]
                        refine wpAny_take_at (i := 16) (some 73) (v := undef) rfl rfl (by kernel_rfl) (by kernel_rfl) (by kernel_rfl) (fun _ _ _ h => h) (Or.inr ⟨by rfl, rfl⟩) ?_
                        simp only [Act.put, List.setIfInBounds_toArray, List.set_cons_succ, List.set_cons_zero]
                        refine wpAny_take_at (i := 17) (some 74) (v := undef) rfl rfl (by kernel_rfl) (by kernel_rfl) (by kernel_rfl) (fun _ _ _ h => h) (Or.inr ⟨by rfl, rfl⟩) ?_
                        simp only [Act.put, List.setIfInBounds_toArray, List.set_cons_succ, List.set_cons_zero]
                        refine wpAny_take_at (i := 18) (some 75) (v := undef) rfl rfl (by kernel_rfl) (by kernel_rfl) (by kernel_rfl) (fun _ _ _ h => h) (Or.inr ⟨by rfl, rfl⟩) ?_
                        simp only [Act.put, List.setIfInBounds_toArray, List.set_cons_succ, List.set_cons_zero]
                        refine wpAny_take_at (i := 19) (some 76) (v := ?_) rfl rfl (by kernel_rfl) (by kernel_rfl) (by kernel_rfl) (fun _ _ _ h => h) (Or.inl ⟨by rfl, ?_⟩) ?_
                        rotate_left
                        focus (intro w; go_simp; try with_reducible rfl)
                        simp only [Act.put, List.setIfInBounds_toArray, List.set_cons_succ, List.set_cons_zero]
                        refine wpAny_take_at (i := 20) (some 2) (v := ?_) rfl rfl (by kernel_rfl) (by kernel_rfl) (by kernel_rfl) (fun _ _ _ h => h) (Or.inl ⟨by rfl, ?_⟩) ?_
                        rotate_left
                        focus (intro w; go_simp; try with_reducible rfl)
                        simp only [Act.put, List.setIfInBounds_toArray, List.set_cons_succ, List.set_cons_zero]
                        refine wpAny_done (by kernel_rfl) ?_ _
                        go_wp2_with fail
                        go_ret
                        exact ⟨says_no rfl, S9.out.below⟩
                · have hk3' : (k3.toList == [78, 97, 109, 101]) = false := ne_of hk3
                  clear hk3
                  go_wp2_with fail
                  refine wp_region_any (by kernel_rfl) ?_
                  change wpAny _ _ _ _ _ _ _ (World.drew _)
                  refine wpAny_take_at (i := 0) (some 57) (v := ?_) rfl rfl (by kernel_rfl) (by kernel_rfl) (by kernel_rfl) (fun _ _ _ h => h) (Or.inl ⟨by rfl, ?_⟩) ?_
                  rotate_left
                  focus (intro w; go_simp; try with_reducible rfl)
                  simp only [Act.put, List.setIfInBounds_toArray, List.set_cons_succ, List.set_cons_zero]
                  refine wpAny_ready (rs := [1]) (by kernel_rfl) (by simp) ?_
                  refine AllReady.cons rfl (fun K hK => ?_) AllReady.nil
                  go_simp
                  refine hK _ _ ?_
                  clear hK K
                  refine wpAny_take_at (i := 2) (some 59) (v := ?_) rfl rfl (by kernel_rfl) (by kernel_rfl) (by kernel_rfl) (fun _ _ _ h => h) (Or.inl ⟨by rfl, ?_⟩) ?_
                  rotate_left
                  focus (intro w; go_simp; try with_reducible rfl)
                  simp only [Act.put, List.setIfInBounds_toArray, List.set_cons_succ, List.set_cons_zero]
                  refine wpAny_take_at (i := 3) (some 60) (v := ?_) rfl rfl (by kernel_rfl) (by kernel_rfl) (by kernel_rfl) (fun _ _ _ h => h) (Or.inl ⟨by rfl, ?_⟩) ?_
                  rotate_left
                  focus (intro w; go_simp; try with_reducible rfl)
                  simp only [Act.put, List.setIfInBounds_toArray, List.set_cons_succ, List.set_cons_zero]
                  refine wpAny_take_at (i := 4) (some 61) (v := undef) rfl rfl (by kernel_rfl) (by kernel_rfl) (by kernel_rfl) (fun _ _ _ h => h) (Or.inr ⟨by rfl, rfl⟩) ?_
                  simp only [Act.put, List.setIfInBounds_toArray, List.set_cons_succ, List.set_cons_zero]
                  refine wpAny_take_at (i := 5) (some 62) (v := undef) rfl rfl (by kernel_rfl) (by kernel_rfl) (by kernel_rfl) (fun _ _ _ h => h) (Or.inr ⟨by rfl, rfl⟩) ?_
                  simp only [Act.put, List.setIfInBounds_toArray, List.set_cons_succ, List.set_cons_zero]
                  refine wpAny_take_at (i := 6) (some 63) (v := undef) rfl rfl (by kernel_rfl) (by kernel_rfl) (by kernel_rfl) (fun _ _ _ h => h) (Or.inr ⟨by rfl, rfl⟩) ?_
                  simp only [Act.put, List.setIfInBounds_toArray, List.set_cons_succ, List.set_cons_zero]
                  refine wpAny_take_at (i := 7) (some 64) (v := undef) rfl rfl (by kernel_rfl) (by kernel_rfl) (by kernel_rfl) (fun _ _ _ h => h) (Or.inr ⟨by rfl, rfl⟩) ?_
                  simp only [Act.put, List.setIfInBounds_toArray, List.set_cons_succ, List.set_cons_zero]
                  refine wpAny_take_at (i := 8) (some 65) (v := undef) rfl rfl (by kernel_rfl) (by kernel_rfl) (by kernel_rfl) (fun _ _ _ h => h) (Or.inr ⟨by rfl, rfl⟩) ?_
                  simp only [Act.put, List.setIfInBounds_toArray, List.set_cons_succ, List.set_cons_zero]
                  refine wpAny_take_at (i := 9) (some 66) (v := undef) rfl rfl (by kernel_rfl) (by kernel_rfl) (by kernel_rfl) (fun _ _ _ h => h) (Or.inr ⟨by rfl, rfl⟩) ?_
                  simp only [Act.put, List.setIfInBounds_toArray, List.set_cons_succ, List.set_cons_zero]
                  refine wpAny_take_at (i := 10) (some 67) (v := ?_) rfl rfl (by kernel_rfl) (by kernel_rfl) (by kernel_rfl) (fun _ _ _ h => h) (Or.inl ⟨by rfl, ?_⟩) ?_
                  rotate_left
                  focus (intro w; go_simp; try with_reducible rfl)
                  simp only [Act.put, List.setIfInBounds_toArray, List.set_cons_succ, List.set_cons_zero]
                  refine wpAny_take_at (i := 11) (some 68) (v := ?_) rfl rfl (by kernel_rfl) (by kernel_rfl) (by kernel_rfl) (fun _ _ _ h => h) (Or.inl ⟨by rfl, ?_⟩) ?_
                  rotate_left
                  focus (intro w; go_simp; try with_reducible rfl)
                  simp only [Act.put, List.setIfInBounds_toArray, List.set_cons_succ, List.set_cons_zero]
                  refine wpAny_take_at (i := 12) (some 69) (v := undef) rfl rfl (by kernel_rfl) (by kernel_rfl) (by kernel_rfl) (fun _ _ _ h => h) (Or.inr ⟨by rfl, rfl⟩) ?_
                  simp only [Act.put, List.setIfInBounds_toArray, List.set_cons_succ, List.set_cons_zero]
                  refine wpAny_take_at (i := 13) (some 70) (v := undef) rfl rfl (by kernel_rfl) (by kernel_rfl) (by kernel_rfl) (fun _ _ _ h => h) (Or.inr ⟨by rfl, rfl⟩) ?_
                  simp only [Act.put, List.setIfInBounds_toArray, List.set_cons_succ, List.set_cons_zero]
                  refine wpAny_take_at (i := 14) (some 71) (v := undef) rfl rfl (by kernel_rfl) (by kernel_rfl) (by kernel_rfl) (fun _ _ _ h => h) (Or.inr ⟨by rfl, rfl⟩) ?_
                  simp only [Act.put, List.setIfInBounds_toArray, List.set_cons_succ, List.set_cons_zero]
                  refine wpAny_take_at (i := 15) (some 72) (v := undef) rfl rfl (by kernel_rfl) (by kernel_rfl) (by kernel_rfl) (fun _ _ _ h => h) (Or.inr ⟨by rfl, rfl⟩) ?_
                  simp only [Act.put, List.setIfInBounds_toArray, List.set_cons_succ, List.set_cons_zero]
                  refine wpAny_take_at (i := 16) (some 73) (v := undef) rfl rfl (by kernel_rfl) (by kernel_rfl) (by kernel_rfl) (fun _ _ _ h => h) (Or.inr ⟨by rfl, rfl⟩) ?_
                  simp only [Act.put, List.setIfInBounds_toArray, List.set_cons_succ, List.set_cons_zero]
                  refine wpAny_take_at (i := 17) (some 74) (v := undef) rfl rfl (by kernel_rfl) (by kernel_rfl) (by kernel_rfl) (fun _ _ _ h => h) (Or.inr ⟨by rfl, rfl⟩) ?_
                  simp only [Act.put, List.setIfInBounds_toArray, List.set_cons_succ, List.set_cons_zero]
                  refine wpAny_take_at (i := 18) (some 75) (v := undef) rfl rfl (by kernel_rfl) (by kernel_rfl) (by kernel_rfl) (fun _ _ _ h => h) (Or.inr ⟨by rfl, rfl⟩) ?_
                  simp only [Act.put, List.setIfInBounds_toArray, List.set_cons_succ, List.set_cons_zero]
                  refine wpAny_take_at (i := 19) (some 76) (v := ?_) rfl rfl (by kernel_rfl) (by kernel_rfl) (by kernel_rfl) (fun _ _ _ h => h) (Or.inl ⟨by rfl, ?_⟩) ?_
                  rotate_left
                  focus (intro w; go_simp; try with_reducible rfl)
                  simp only [Act.put, List.setIfInBounds_toArray, List.set_cons_succ, List.set_cons_zero]
                  refine wpAny_take_at (i := 20) (some 2) (v := ?_) rfl rfl (by kernel_rfl) (by kernel_rfl) (by kernel_rfl) (fun _ _ _ h => h) (Or.inl ⟨by rfl, ?_⟩) ?_
                  rotate_left
                  focus (intro w; go_simp; try with_reducible rfl)
                  simp only [Act.put, List.setIfInBounds_toArray, List.set_cons_succ, List.set_cons_zero]
                  refine wpAny_done (by kernel_rfl) ?_ _
                  go_wp2_with fail
                  go_ret
                  exact ⟨says_no rfl, S8.out.below⟩
              | true =>
                clear hr
                obtain ⟨⟨p0, p1, p2, p3⟩, ⟨q0, q1, q2, q3⟩⟩ := HK.out _ S4.out.later
                obtain ⟨bx0, bx1, bx2, bx3⟩ := S4.out.box
                go_wp2_with fail
                go_ret
                exact ⟨says_no rfl, S4.out.below⟩
            | true =>
              clear hr
              obtain ⟨⟨p0, p1, p2, p3⟩, ⟨q0, q1, q2, q3⟩⟩ := HK.out _ S3.out.later
              obtain ⟨bx0, bx1, bx2, bx3⟩ := S3.out.box
              go_wp2_with fail
              go_ret
              exact ⟨says_no rfl, S3.out.below⟩
        · have HQ1 := Lib.hid (fun W => plain_not W ⟨#[68, 101, 115, 116, 114, 117, 99, 116, 111, 114]⟩ x2 n2 l2.length qa qc 1 hs2)
          clear hs2 hq
          go_enter Tryz.func51, Tryz.ntmps51
          go_wp2_with fail
          refine (HP.out _).mono ?_
          rintro e w1 ⟨rfl, b⟩
          have S1 := Lib.hid (S0.out.on b)
          clear b
          obtain ⟨⟨p0, p1, p2, p3⟩, ⟨q0, q1, q2, q3⟩⟩ := HK.out _ S1.out.later
          obtain ⟨bx0, bx1, bx2, bx3⟩ := S1.out.box
          go_wp2_with fail
          refine (I1.out _ S1.out.later).mono ?_
          rintro e w2 ⟨⟨r, rfl, hr⟩, b⟩
          have S2 := Lib.hid (S1.out.on b)
          clear b
          try clear p0 p1 p2 p3 q0 q1 q2 q3 bx0 bx1 bx2 bx3
          cases r with
          | false =>
            clear hr
            obtain ⟨⟨p0, p1, p2, p3⟩, ⟨q0, q1, q2, q3⟩⟩ := HK.out _ S2.out.later
            obtain ⟨bx0, bx1, bx2, bx3⟩ := S2.out.box
            go_wp2_with fail
            go_ret
            exact ⟨says_no rfl, S2.out.below⟩
          | true =>
            have R1 := Lib.hid (hr rfl)
            clear hr
            obtain ⟨⟨p0, p1, p2, p3⟩, ⟨q0, q1, q2, q3⟩⟩ := HK.out _ S2.out.later
            obtain ⟨bx0, bx1, bx2, bx3⟩ := S2.out.box
            go_wp2_with fail
            refine (IS.out R1.out _ S2.out.later).mono ?_
            rintro e w3 ⟨⟨r, rfl, hr⟩, b⟩
            have S3 := Lib.hid (S2.out.on b)
            clear b
            try clear p0 p1 p2 p3 q0 q1 q2 q3 bx0 bx1 bx2 bx3
            cases r with
            | false =>
              clear hr
              obtain ⟨⟨p0, p1, p2, p3⟩, ⟨q0, q1, q2, q3⟩⟩ := HK.out _ S3.out.later
              obtain ⟨bx0, bx1, bx2, bx3⟩ := S3.out.box
              go_wp2_with fail
              refine (IT.out _ S3.out.later).mono ?_
              rintro e w4 ⟨⟨r, rfl, hr⟩, b⟩
              have S4 := Lib.hid (S3.out.on b)
              clear b
              try clear p0 p1 p2 p3 q0 q1 q2 q3 bx0 bx1 bx2 bx3
              cases r with
              | false =>
                clear hr
                obtain ⟨⟨p0, p1, p2, p3⟩, ⟨q0, q1, q2, q3⟩⟩ := HK.out _ S4.out.later
                obtain ⟨bx0, bx1, bx2, bx3⟩ := S4.out.box
                have S5 := Lib.hid (S4.out.on (box_below w4 (.cells #[.string ⟨#[68, 101, 115, 116, 114, 117, 99, 116, 111, 114]⟩, .string x2, .int .i64 n2, .slice qa l2.length qc] 24)))
                have B5 := Lib.hid (Below.refl (w4.heap.size + 1) (w4.alloc (.cells #[.string ⟨#[68, 101, 115, 116, 114, 117, 99, 116, 111, 114]⟩, .string x2, .int .i64 n2, .slice qa l2.length qc] 24)))
                go_wp2_with fail
                refine (HQ1.out _).mono ?_
                rintro e w6 ⟨rfl, b⟩
                have S6 := Lib.hid (S5.out.on b)
                have B6 := Lib.hid (bx_on B5.out b)
                clear b
                try clear y0 y1 y2 y3
                obtain ⟨y0, y1, y2, y3⟩ := box_at B6.out
                go_wp2_with fail
                go_ret
                exact ⟨says_no rfl, S6.out.below⟩
              | true =>
                clear hr
                obtain ⟨⟨p0, p1, p2, p3⟩, ⟨q0, q1, q2, q3⟩⟩ := HK.out _ S4.out.later
                obtain ⟨bx0, bx1, bx2, bx3⟩ := S4.out.box
                go_wp2_with fail
                go_ret
                exact ⟨says_no rfl, S4.out.below⟩
            | true =>
              clear hr
              obtain ⟨⟨p0, p1, p2, p3⟩, ⟨q0, q1, q2, q3⟩⟩ := HK.out _ S3.out.later
              obtain ⟨bx0, bx1, bx2, bx3⟩ := S3.out.box
              go_wp2_with fail
              go_ret
              exact ⟨says_no rfl, S3.out.below⟩
      have hk3' : (k2.toList == [68, 101, 115, 116, 114, 117, 99, 116, 111, 114]) = false := ne_of hk2
      clear hk2 hq
      go_enter Tryz.func51, Tryz.ntmps51
      go_wp2_with fail
      refine (HP.out _).mono ?_
      rintro e w1 ⟨rfl, b⟩
      have S1 := Lib.hid (S0.out.on b)
      clear b
      obtain ⟨⟨p0, p1, p2, p3⟩, ⟨q0, q1, q2, q3⟩⟩ := HK.out _ S1.out.later
      obtain ⟨bx0, bx1, bx2, bx3⟩ := S1.out.box
      go_wp2_with fail
      refine (I1.out _ S1.out.later).mono ?_
      rintro e w2 ⟨⟨r, rfl, hr⟩, b⟩
      have S2 := Lib.hid (S1.out.on b)
      clear b
      try clear p0 p1 p2 p3 q0 q1 q2 q3 bx0 bx1 bx2 bx3
      cases r with
      | false =>
        clear hr
        obtain ⟨⟨p0, p1, p2, p3⟩, ⟨q0, q1, q2, q3⟩⟩ := HK.out _ S2.out.later
        obtain ⟨bx0, bx1, bx2, bx3⟩ := S2.out.box
        go_wp2_with fail
        go_ret
        exact ⟨says_no rfl, S2.out.below⟩
      | true =>
        have R1 := Lib.hid (hr rfl)
        clear hr
        obtain ⟨⟨p0, p1, p2, p3⟩, ⟨q0, q1, q2, q3⟩⟩ := HK.out _ S2.out.later
        obtain ⟨bx0, bx1, bx2, bx3⟩ := S2.out.box
        go_wp2_with fail
        refine (IS.out R1.out _ S2.out.later).mono ?_
        rintro e w3 ⟨⟨r, rfl, hr⟩, b⟩
        have S3 := Lib.hid (S2.out.on b)
        clear b
        try clear p0 p1 p2 p3 q0 q1 q2 q3 bx0 bx1 bx2 bx3
        cases r with
        | false =>
          clear hr
          obtain ⟨⟨p0, p1, p2, p3⟩, ⟨q0, q1, q2, q3⟩⟩ := HK.out _ S3.out.later
          obtain ⟨bx0, bx1, bx2, bx3⟩ := S3.out.box
          go_wp2_with fail
          refine (IT.out _ S3.out.later).mono ?_
          rintro e w4 ⟨⟨r, rfl, hr⟩, b⟩
          have S4 := Lib.hid (S3.out.on b)
          clear b
          try clear p0 p1 p2 p3 q0 q1 q2 q3 bx0 bx1 bx2 bx3
          cases r with
          | false =>
            clear hr
            obtain ⟨⟨p0, p1, p2, p3⟩, ⟨q0, q1, q2, q3⟩⟩ := HK.out _ S4.out.later
            obtain ⟨bx0, bx1, bx2, bx3⟩ := S4.out.box
            have S5 := Lib.hid (S4.out.on (box_below w4 (.cells #[.string k2, .string x2, .int .i64 n2, .slice qa l2.length qc] 24)))
            have B5 := Lib.hid (Below.refl (w4.heap.size + 1) (w4.alloc (.cells #[.string k2, .string x2, .int .i64 n2, .slice qa l2.length qc] 24)))
            go_wp2_with fail
            go_ret
            exact ⟨says_no rfl, S5.out.below⟩
          | true =>
            clear hr
            obtain ⟨⟨p0, p1, p2, p3⟩, ⟨q0, q1, q2, q3⟩⟩ := HK.out _ S4.out.later
            obtain ⟨bx0, bx1, bx2, bx3⟩ := S4.out.box
            go_wp2_with fail
            go_ret
            exact ⟨says_no rfl, S4.out.below⟩
        | true =>
          clear hr
          obtain ⟨⟨p0, p1, p2, p3⟩, ⟨q0, q1, q2, q3⟩⟩ := HK.out _ S3.out.later
          obtain ⟨bx0, bx1, bx2, bx3⟩ := S3.out.box
          go_wp2_with fail
          go_ret
          exact ⟨says_no rfl, S3.out.below⟩
    · obtain ⟨a, c, rfl, _⟩ := hv.shut
      have HP := Lib.hid (fun W => plain_not W ⟨#[81, 117, 97, 108, 105, 102, 105, 101, 100]⟩ x n ks.length a c 2 hs)
      have S0 := Lib.hid (St.start hw (.string ⟨#[81, 117, 97, 108, 105, 102, 105, 101, 100]⟩) (.string x) (.int .i64 n) (.slice a ks.length c))
      clear hv hs hw
      go_enter Tryz.func51, Tryz.ntmps51
      go_wp2_with fail
      refine (HP.out _).mono ?_
      rintro e w1 ⟨rfl, b⟩
      have S1 := Lib.hid (S0.out.on b)
      clear b
      obtain ⟨bx0, bx1, bx2, bx3⟩ := S1.out.box
      go_wp2_with fail
      go_ret
      exact ⟨says_no rfl, S1.out.below⟩
  · have hk' : (k.toList == [81, 117, 97, 108, 105, 102, 105, 101, 100]) = false := ne_of hk
    obtain ⟨a, c, rfl, _⟩ := hv.shut
    have S0 := Lib.hid (St.start hw (.string k) (.string x) (.int .i64 n) (.slice a ks.length c))
    clear hv hw
    go_enter Tryz.func51, Tryz.ntmps51
    go_wp2_with fail
    go_ret
    exact ⟨says_no rfl, S0.out.below⟩

end Go.Proofs.YtnhccgbkalpcnaaGreatDoor
