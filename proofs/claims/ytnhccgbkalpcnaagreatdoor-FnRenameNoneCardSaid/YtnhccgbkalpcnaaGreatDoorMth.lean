/- isMethod, isMember. -/
import Derived.Test.YtnhccgbkalpcnaaGreatDoorQualsT
namespace Go.Proofs.YtnhccgbkalpcnaaGreatDoor
open Go.RowKit

/-- a method with qualifiers, or with none behind a sign -/
def MethodP (t : Tree) : Prop := ∃ x p q, t = .node ⟨#[77, 101, 116, 104, 111, 100, 87, 105, 116, 104, 81, 117, 97, 108, 105, 102, 105, 101, 114, 115]⟩ x 0 [p, q] ∧ (Quals q ∨ q = nilT)

theorem nil_in (w : World) : In w nilT (.agg #[.string ⟨#[]⟩, .string ⟨#[]⟩, .int .i64 0, .slice none 0 0]) :=
  .mk _ _ 0 [] none 0 0 0 (fun _ => .bool true) (Nat.le_refl _) (by omega) (.inl rfl) (fun i h => by simp at h) (fun i h => by simp at h)

theorem same_says (W0 : World) (q : Tree) (v : Value) (hq : At W0 q v) (W : World) (hW : Later W0 W) : Calls Tryz.prog 15 #[v, .agg #[.string ⟨#[]⟩, .string ⟨#[]⟩, .int .i64 0, .slice none 0 0]] W fun e w' => Says (q = nilT) e ∧ Below W.heap.size W w' := by
  refine (same_tells W q nilT _ _ (hq.in_ hW) (nil_in W)).mono ?_
  rintro e w' ⟨⟨r, rfl, hr⟩, b⟩
  exact ⟨⟨r, rfl, hr.1⟩, b⟩

set_option maxRecDepth 100000 in
set_option maxHeartbeats 2000000 in
theorem isMethod_any (W0 : World) (t : Tree) : Test W0 35 t (MethodP t) := by
  intro v hv w hw
  obtain ⟨k, x, n, ks⟩ := t
  by_cases hk : k = ⟨#[77, 101, 116, 104, 111, 100, 87, 105, 116, 104, 81, 117, 97, 108, 105, 102, 105, 101, 114, 115]⟩
  · subst hk
    by_cases hn : n = 0
    · subst hn
      by_cases hl : ks.length = 2
      · obtain ⟨p, q, rfl⟩ := two_kids hl
        obtain ⟨b, off, c, pa, pc, qa, qc, rfl, hc1, hc2, hkid, hp, hq⟩ := hv.two
        have IQ := Lib.hid (isQualifiers_step W0 q false _ hq)
        have IS := same_says W0 q _ hq
        have FIN := Lib.hid (fun (x : ByteArray) (h : Quals q ∨ q = nilT) => (⟨x, p, q, rfl, h⟩ : MethodP (.node ⟨#[77, 101, 116, 104, 111, 100, 87, 105, 116, 104, 81, 117, 97, 108, 105, 102, 105, 101, 114, 115]⟩ x 0 [p, q])))
        have S0 := Lib.hid (St.start hw (.string ⟨#[77, 101, 116, 104, 111, 100, 87, 105, 116, 104, 81, 117, 97, 108, 105, 102, 105, 101, 114, 115]⟩) (.string x) (.int .i64 0) (.slice (some ⟨b, off, none⟩) 2 c))
        clear hv hp hq hl
        by_cases hx0 : x = ⟨#[]⟩
        · subst hx0
          by_cases hq0 : q.kind = ⟨#[]⟩
          · have HK := Lib.hid (show ∀ W, Later W0 W → W.cell? ⟨b, off + 4, none⟩ = some (.string ⟨#[]⟩) ∧ W.cell? ⟨b, off + 4 + 1, none⟩ = some (.string q.text) ∧ W.cell? ⟨b, off + 4 + 2, none⟩ = some (.int .i64 q.num) ∧ W.cell? ⟨b, off + 4 + 3, none⟩ = some (.slice qa q.kids.length qc) from fun W hW => by have h := (hkid W hW).2; rw [Kid, hq0] at h; exact h)
            clear hkid
            obtain ⟨q0, q1, q2, q3⟩ := HK.out _ S0.out.later
            clear hw
            go_enter Tryz.func35, Tryz.ntmps35
            go_wp2_with fail
            go_ret
            exact ⟨says_no rfl, S0.out.below⟩
          · have hq0' : q.kind.toList.isEmpty = false := ne_empty hq0
            have HK := Lib.hid (show ∀ W, Later W0 W → W.cell? ⟨b, off + 4, none⟩ = some (.string q.kind) ∧ W.cell? ⟨b, off + 4 + 1, none⟩ = some (.string q.text) ∧ W.cell? ⟨b, off + 4 + 2, none⟩ = some (.int .i64 q.num) ∧ W.cell? ⟨b, off + 4 + 3, none⟩ = some (.slice qa q.kids.length qc) from fun W hW => (hkid W hW).2)
            clear hkid
            clear IS
            obtain ⟨q0, q1, q2, q3⟩ := HK.out _ S0.out.later
            clear hw
            go_enter Tryz.func35, Tryz.ntmps35
            go_wp2_with fail
            refine (IQ.out _ S0.out.later).mono ?_
            rintro e w1 ⟨⟨r, rfl, hr⟩, b⟩
            have S1 := Lib.hid (S0.out.on b)
            clear b
            cases r with
            | false =>
              clear hr
              obtain ⟨q0, q1, q2, q3⟩ := HK.out _ S1.out.later
              obtain ⟨x0, x1, x2, x3⟩ := S1.out.box
              go_wp2_with fail
              go_ret
              exact ⟨says_no rfl, S1.out.below⟩
            | true =>
              have R1 := Lib.hid (hr rfl)
              clear hr
              obtain ⟨q0, q1, q2, q3⟩ := HK.out _ S1.out.later
              obtain ⟨x0, x1, x2, x3⟩ := S1.out.box
              go_wp2_with fail
              go_ret
              exact ⟨⟨_, rfl, fun _ => FIN.out _ (.inl R1.out)⟩, S1.out.below⟩
        · have hx0' : x.toList.isEmpty = false := ne_empty hx0
          by_cases hx1 : x = ⟨#[38]⟩
          · subst hx1
            by_cases hq0 : q.kind = ⟨#[]⟩
            · have HK := Lib.hid (show ∀ W, Later W0 W → W.cell? ⟨b, off + 4, none⟩ = some (.string ⟨#[]⟩) ∧ W.cell? ⟨b, off + 4 + 1, none⟩ = some (.string q.text) ∧ W.cell? ⟨b, off + 4 + 2, none⟩ = some (.int .i64 q.num) ∧ W.cell? ⟨b, off + 4 + 3, none⟩ = some (.slice qa q.kids.length qc) from fun W hW => by have h := (hkid W hW).2; rw [Kid, hq0] at h; exact h)
              clear hkid
              have IS2 := Lib.hid (show ∀ W, Later W0 W → Calls Tryz.prog 15 #[.agg #[.string ⟨#[]⟩, .string q.text, .int .i64 q.num, .slice qa q.kids.length qc], .agg #[.string ⟨#[]⟩, .string ⟨#[]⟩, .int .i64 0, .slice none 0 0]] W fun e w' => Says (q = nilT) e ∧ Below W.heap.size W w' from fun W hW => by have h := IS W hW; rw [val, hq0] at h; exact h)
              clear IS
              obtain ⟨q0, q1, q2, q3⟩ := HK.out _ S0.out.later
              clear hw
              go_enter Tryz.func35, Tryz.ntmps35
              go_wp2_with fail
              refine (IS2.out _ S0.out.later).mono ?_
              rintro e w1 ⟨⟨r, rfl, hr⟩, b⟩
              have S1 := Lib.hid (S0.out.on b)
              clear b
              cases r with
              | false =>
                clear hr
                obtain ⟨q0, q1, q2, q3⟩ := HK.out _ S1.out.later
                obtain ⟨x0, x1, x2, x3⟩ := S1.out.box
                go_wp2_with fail
                go_ret
                exact ⟨says_no rfl, S1.out.below⟩
              | true =>
                have R1 := Lib.hid (hr rfl)
                clear hr
                obtain ⟨q0, q1, q2, q3⟩ := HK.out _ S1.out.later
                obtain ⟨x0, x1, x2, x3⟩ := S1.out.box
                go_wp2_with fail
                go_ret
                exact ⟨⟨_, rfl, fun _ => FIN.out _ (.inr R1.out)⟩, S1.out.below⟩
            · have hq0' : q.kind.toList.isEmpty = false := ne_empty hq0
              have HK := Lib.hid (show ∀ W, Later W0 W → W.cell? ⟨b, off + 4, none⟩ = some (.string q.kind) ∧ W.cell? ⟨b, off + 4 + 1, none⟩ = some (.string q.text) ∧ W.cell? ⟨b, off + 4 + 2, none⟩ = some (.int .i64 q.num) ∧ W.cell? ⟨b, off + 4 + 3, none⟩ = some (.slice qa q.kids.length qc) from fun W hW => (hkid W hW).2)
              clear hkid
              clear IS
              obtain ⟨q0, q1, q2, q3⟩ := HK.out _ S0.out.later
              clear hw
              go_enter Tryz.func35, Tryz.ntmps35
              go_wp2_with fail
              refine (IQ.out _ S0.out.later).mono ?_
              rintro e w1 ⟨⟨r, rfl, hr⟩, b⟩
              have S1 := Lib.hid (S0.out.on b)
              clear b
              cases r with
              | false =>
                clear hr
                obtain ⟨q0, q1, q2, q3⟩ := HK.out _ S1.out.later
                obtain ⟨x0, x1, x2, x3⟩ := S1.out.box
                go_wp2_with fail
                go_ret
                exact ⟨says_no rfl, S1.out.below⟩
              | true =>
                have R1 := Lib.hid (hr rfl)
                clear hr
                obtain ⟨q0, q1, q2, q3⟩ := HK.out _ S1.out.later
                obtain ⟨x0, x1, x2, x3⟩ := S1.out.box
                go_wp2_with fail
                go_ret
                exact ⟨⟨_, rfl, fun _ => FIN.out _ (.inl R1.out)⟩, S1.out.below⟩
          · have hx1' : (x.toList == [38]) = false := ne_of hx1
            by_cases hx2 : x = ⟨#[38, 38]⟩
            · subst hx2
              by_cases hq0 : q.kind = ⟨#[]⟩
              · have HK := Lib.hid (show ∀ W, Later W0 W → W.cell? ⟨b, off + 4, none⟩ = some (.string ⟨#[]⟩) ∧ W.cell? ⟨b, off + 4 + 1, none⟩ = some (.string q.text) ∧ W.cell? ⟨b, off + 4 + 2, none⟩ = some (.int .i64 q.num) ∧ W.cell? ⟨b, off + 4 + 3, none⟩ = some (.slice qa q.kids.length qc) from fun W hW => by have h := (hkid W hW).2; rw [Kid, hq0] at h; exact h)
                clear hkid
                have IS2 := Lib.hid (show ∀ W, Later W0 W → Calls Tryz.prog 15 #[.agg #[.string ⟨#[]⟩, .string q.text, .int .i64 q.num, .slice qa q.kids.length qc], .agg #[.string ⟨#[]⟩, .string ⟨#[]⟩, .int .i64 0, .slice none 0 0]] W fun e w' => Says (q = nilT) e ∧ Below W.heap.size W w' from fun W hW => by have h := IS W hW; rw [val, hq0] at h; exact h)
                clear IS
                obtain ⟨q0, q1, q2, q3⟩ := HK.out _ S0.out.later
                clear hw
                go_enter Tryz.func35, Tryz.ntmps35
                go_wp2_with fail
                refine (IS2.out _ S0.out.later).mono ?_
                rintro e w1 ⟨⟨r, rfl, hr⟩, b⟩
                have S1 := Lib.hid (S0.out.on b)
                clear b
                cases r with
                | false =>
                  clear hr
                  obtain ⟨q0, q1, q2, q3⟩ := HK.out _ S1.out.later
                  obtain ⟨x0, x1, x2, x3⟩ := S1.out.box
                  go_wp2_with fail
                  go_ret
                  exact ⟨says_no rfl, S1.out.below⟩
                | true =>
                  have R1 := Lib.hid (hr rfl)
                  clear hr
                  obtain ⟨q0, q1, q2, q3⟩ := HK.out _ S1.out.later
                  obtain ⟨x0, x1, x2, x3⟩ := S1.out.box
                  go_wp2_with fail
                  go_ret
                  exact ⟨⟨_, rfl, fun _ => FIN.out _ (.inr R1.out)⟩, S1.out.below⟩
              · have hq0' : q.kind.toList.isEmpty = false := ne_empty hq0
                have HK := Lib.hid (show ∀ W, Later W0 W → W.cell? ⟨b, off + 4, none⟩ = some (.string q.kind) ∧ W.cell? ⟨b, off + 4 + 1, none⟩ = some (.string q.text) ∧ W.cell? ⟨b, off + 4 + 2, none⟩ = some (.int .i64 q.num) ∧ W.cell? ⟨b, off + 4 + 3, none⟩ = some (.slice qa q.kids.length qc) from fun W hW => (hkid W hW).2)
                clear hkid
                clear IS
                obtain ⟨q0, q1, q2, q3⟩ := HK.out _ S0.out.later
                clear hw
                go_enter Tryz.func35, Tryz.ntmps35
                go_wp2_with fail
                refine (IQ.out _ S0.out.later).mono ?_
                rintro e w1 ⟨⟨r, rfl, hr⟩, b⟩
                have S1 := Lib.hid (S0.out.on b)
                clear b
                cases r with
                | false =>
                  clear hr
                  obtain ⟨q0, q1, q2, q3⟩ := HK.out _ S1.out.later
                  obtain ⟨x0, x1, x2, x3⟩ := S1.out.box
                  go_wp2_with fail
                  go_ret
                  exact ⟨says_no rfl, S1.out.below⟩
                | true =>
                  have R1 := Lib.hid (hr rfl)
                  clear hr
                  obtain ⟨q0, q1, q2, q3⟩ := HK.out _ S1.out.later
                  obtain ⟨x0, x1, x2, x3⟩ := S1.out.box
                  go_wp2_with fail
                  go_ret
                  exact ⟨⟨_, rfl, fun _ => FIN.out _ (.inl R1.out)⟩, S1.out.below⟩
            · have hx2' : (x.toList == [38, 38]) = false := ne_of hx2
              clear IS hkid hw
              go_enter Tryz.func35, Tryz.ntmps35
              go_wp2_with fail
              go_ret
              exact ⟨says_no rfl, S0.out.below⟩
      · have hl' : ((ks.length : Int) == 2) = false := beq_eq_false_iff_ne.2 (by omega)
        obtain ⟨a, c, rfl, _⟩ := hv.shut
        have S0 := Lib.hid (St.start hw (.string ⟨#[77, 101, 116, 104, 111, 100, 87, 105, 116, 104, 81, 117, 97, 108, 105, 102, 105, 101, 114, 115]⟩) (.string x) (.int .i64 0) (.slice a ks.length c))
        clear hv hw
        go_enter Tryz.func35, Tryz.ntmps35
        go_wp2_with fail
        go_ret
        exact ⟨says_no rfl, S0.out.below⟩
    · have hn' : (n == 0) = false := beq_eq_false_iff_ne.2 hn
      obtain ⟨a, c, rfl, _⟩ := hv.shut
      have S0 := Lib.hid (St.start hw (.string ⟨#[77, 101, 116, 104, 111, 100, 87, 105, 116, 104, 81, 117, 97, 108, 105, 102, 105, 101, 114, 115]⟩) (.string x) (.int .i64 n) (.slice a ks.length c))
      clear hv hw
      go_enter Tryz.func35, Tryz.ntmps35
      go_wp2_with fail
      go_ret
      exact ⟨says_no rfl, S0.out.below⟩
  · have hk' : (k.toList == [77, 101, 116, 104, 111, 100, 87, 105, 116, 104, 81, 117, 97, 108, 105, 102, 105, 101, 114, 115]) = false := ne_of hk
    obtain ⟨a, c, rfl, _⟩ := hv.shut
    have S0 := Lib.hid (St.start hw (.string k) (.string x) (.int .i64 n) (.slice a ks.length c))
    clear hv hw
    go_enter Tryz.func35, Tryz.ntmps35
    go_wp2_with fail
    go_ret
    exact ⟨says_no rfl, S0.out.below⟩

set_option maxRecDepth 100000 in
set_option maxHeartbeats 2000000 in
theorem isMember_step (W0 : World) (t : Tree) (hft : Test W0 68 t (Good t)) (hfk : ∀ p ∈ t.kids, Test W0 68 p (Good p)) (hob : Test W0 70 t (Good t)) : Test W0 71 t (Good t) := by
  have hme := isMethod_any W0 t
  intro v hv w hw
  obtain ⟨k, x, n, ks⟩ := t
  by_cases hk : k = ⟨#[77, 101, 116, 104, 111, 100, 87, 105, 116, 104, 81, 117, 97, 108, 105, 102, 105, 101, 114, 115]⟩
  · subst hk
    by_cases hl : ks.length = 2
    · obtain ⟨p, q, rfl⟩ := two_kids hl
      have HM := Lib.hid (hme _ hv)
      obtain ⟨b, off, c, pa, pc, qa, qc, rfl, hc1, hc2, hkid, hp, hq⟩ := hv.two
      have IF := Lib.hid (hfk p (by simp [Tree.kids]) _ hp)
      have HK := Lib.hid hkid
      have FIN := Lib.hid (show MethodP (.node ⟨#[77, 101, 116, 104, 111, 100, 87, 105, 116, 104, 81, 117, 97, 108, 105, 102, 105, 101, 114, 115]⟩ x n [p, q]) → Good p → Good (.node ⟨#[77, 101, 116, 104, 111, 100, 87, 105, 116, 104, 81, 117, 97, 108, 105, 102, 105, 101, 114, 115]⟩ x n [p, q]) from by
        rintro ⟨x', p', q', e, h⟩ hp
        injection e with _ e1 e2 e3
        injection e3 with e3 e4
        injection e4 with e4 _
        subst e1 e2 e3 e4
        exact .methodWithQualifiers _ hp h)
      have S0 := Lib.hid (St.start hw (.string ⟨#[77, 101, 116, 104, 111, 100, 87, 105, 116, 104, 81, 117, 97, 108, 105, 102, 105, 101, 114, 115]⟩) (.string x) (.int .i64 n) (.slice (some ⟨b, off, none⟩) 2 c))
      clear hv hkid hp hq hl hw hme hft hfk hob
      go_enter Tryz.func71, Tryz.ntmps71
      go_wp2_with fail
      refine (HM.out _ S0.out.later).mono ?_
      rintro e w1 ⟨⟨r, rfl, hr⟩, b⟩
      have S1 := Lib.hid (S0.out.on b)
      clear b
      cases r with
      | false =>
        clear hr
        obtain ⟨⟨p0, p1, p2, p3⟩, ⟨q0, q1, q2, q3⟩⟩ := HK.out _ S1.out.later
        obtain ⟨x0, x1, x2, x3⟩ := S1.out.box
        go_wp2_with fail
        go_ret
        exact ⟨says_no rfl, S1.out.below⟩
      | true =>
        have R1 := Lib.hid (hr rfl)
        clear hr
        obtain ⟨⟨p0, p1, p2, p3⟩, ⟨q0, q1, q2, q3⟩⟩ := HK.out _ S1.out.later
        obtain ⟨x0, x1, x2, x3⟩ := S1.out.box
        go_wp2_with fail
        refine (IF.out w1 S1.out.later).mono ?_
        rintro e w2 ⟨⟨r, rfl, hr⟩, b⟩
        have S2 := Lib.hid (S1.out.on b)
        clear b
        clear p0 p1 p2 p3 q0 q1 q2 q3 x0 x1 x2 x3
        cases r with
        | false =>
          clear hr
          obtain ⟨⟨p0, p1, p2, p3⟩, ⟨q0, q1, q2, q3⟩⟩ := HK.out _ S2.out.later
          obtain ⟨x0, x1, x2, x3⟩ := S2.out.box
          go_wp2_with fail
          go_ret
          exact ⟨says_no rfl, S2.out.below⟩
        | true =>
          have R2 := Lib.hid (hr rfl)
          clear hr
          obtain ⟨⟨p0, p1, p2, p3⟩, ⟨q0, q1, q2, q3⟩⟩ := HK.out _ S2.out.later
          obtain ⟨x0, x1, x2, x3⟩ := S2.out.box
          go_wp2_with fail
          go_ret
          exact ⟨⟨_, rfl, fun _ => FIN.out R1.out R2.out⟩, S2.out.below⟩
    · have HM := Lib.hid (hme _ hv)
      have HX := Lib.hid (show MethodP (.node ⟨#[77, 101, 116, 104, 111, 100, 87, 105, 116, 104, 81, 117, 97, 108, 105, 102, 105, 101, 114, 115]⟩ x n ks) → False from by
        rintro ⟨x', p', q', e, h⟩
        injection e with _ _ _ e3
        subst e3
        exact hl rfl)
      obtain ⟨a, c, rfl, _⟩ := hv.shut
      have S0 := Lib.hid (St.start hw (.string ⟨#[77, 101, 116, 104, 111, 100, 87, 105, 116, 104, 81, 117, 97, 108, 105, 102, 105, 101, 114, 115]⟩) (.string x) (.int .i64 n) (.slice a ks.length c))
      clear hv hw hme hft hfk hob
      go_enter Tryz.func71, Tryz.ntmps71
      go_wp2_with fail
      refine (HM.out _ S0.out.later).mono ?_
      rintro e w1 ⟨⟨r, rfl, hr⟩, b1⟩
      have S1 := Lib.hid (S0.out.on b1)
      cases r with
      | false =>
        clear hr b1
        go_wp2_with fail
        go_ret
        exact ⟨says_no rfl, S1.out.below⟩
      | true => exact absurd (hr rfl) HX.out
  · have hk' : (k.toList == [77, 101, 116, 104, 111, 100, 87, 105, 116, 104, 81, 117, 97, 108, 105, 102, 105, 101, 114, 115]) = false := ne_of hk
    have HF := Lib.hid (hft _ hv)
    have HO := Lib.hid (hob _ hv)
    obtain ⟨a, c, rfl, _⟩ := hv.shut
    have S0 := Lib.hid (St.start hw (.string k) (.string x) (.int .i64 n) (.slice a ks.length c))
    clear hv hw hme hft hfk hob
    go_enter Tryz.func71, Tryz.ntmps71
    go_wp2_with fail
    refine (HF.out _ S0.out.later).mono ?_
    rintro e w1 ⟨⟨r, rfl, hr⟩, b⟩
    have S1 := Lib.hid (S0.out.on b)
    clear b
    cases r with
    | false =>
      clear hr
      obtain ⟨x0, x1, x2, x3⟩ := S1.out.box
      go_wp2_with fail
      refine (HO.out w1 S1.out.later).mono ?_
      rintro e w2 ⟨⟨r, rfl, hr⟩, b⟩
      have S2 := Lib.hid (S1.out.on b)
      clear b
      clear x0 x1 x2 x3
      cases r with
      | false =>
        clear hr
        obtain ⟨x0, x1, x2, x3⟩ := S2.out.box
        go_wp2_with fail
        go_ret
        exact ⟨says_no rfl, S2.out.below⟩
      | true =>
        have R2 := Lib.hid (hr rfl)
        clear hr
        obtain ⟨x0, x1, x2, x3⟩ := S2.out.box
        go_wp2_with fail
        go_ret
        exact ⟨⟨_, rfl, fun _ => R2.out⟩, S2.out.below⟩
    | true =>
      have R1 := Lib.hid (hr rfl)
      clear hr
      obtain ⟨x0, x1, x2, x3⟩ := S1.out.box
      go_wp2_with fail
      go_ret
      exact ⟨⟨_, rfl, fun _ => R1.out⟩, S1.out.below⟩

end Go.Proofs.YtnhccgbkalpcnaaGreatDoor
