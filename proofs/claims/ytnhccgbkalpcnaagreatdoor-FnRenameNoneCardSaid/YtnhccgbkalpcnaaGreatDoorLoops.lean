/- The loops over trees: areStraight, areParams. -/
import Derived.Test.YtnhccgbkalpcnaaGreatDoorTurned
namespace Go.Proofs.YtnhccgbkalpcnaaGreatDoor
open Go.RowKit

theorem take_all {P : Tree → Prop} {ks : List Tree} {j : Nat} (h : ∀ k ∈ ks.take j, P k) (hj : j < ks.length) (h1 : P ks[j]) : ∀ k ∈ ks.take (j + 1), P k := by
  intro k hk
  rw [List.take_succ_eq_append_getElem hj] at hk
  rcases List.mem_append.1 hk with hk | hk
  · exact h k hk
  · simp at hk
    subst hk
    exact h1

theorem take_done {P : Tree → Prop} {ks : List Tree} {j : Nat} (h : ∀ k ∈ ks.take j, P k) (hj : ¬ j < ks.length) : ∀ k ∈ ks, P k := by
  rw [List.take_of_length_le (by omega)] at h
  exact h

/-- a kid, its fields named -/
theorem Kid.fields {w : World} {b o : Nat} {K : Tree} {ka : Option Addr} {kc : Nat} (h : Kid w b o K ka kc) {k x : ByteArray} {n : Int} {ks : List Tree} (e : K = .node k x n ks) :
    w.cell? ⟨b, o, none⟩ = some (.string k) ∧ w.cell? ⟨b, o + 1, none⟩ = some (.string x) ∧ w.cell? ⟨b, o + 2, none⟩ = some (.int .i64 n) ∧ w.cell? ⟨b, o + 3, none⟩ = some (.slice ka ks.length kc) := by
  subst e
  exact h

/-- what a list of trees answers -/
def TestL (W0 : World) (f : FuncId) (ks : List Tree) (P : Prop) : Prop := ∀ (v : Value), AtL W0 ks v → ∀ w, Later W0 w → Calls Tryz.prog f #[v] w fun e w' => Says P e ∧ Below w.heap.size w w'

theorem good_dots {k x : ByteArray} {n : Int} {l : List Tree} (h1 : k = ⟨#[66, 117, 105, 108, 116, 105, 110, 84, 121, 112, 101]⟩) (h2 : n = 0) (h3 : l = []) : Good (.node k x n l) := by
  subst h1 h2 h3
  exact .builtinType x

set_option maxRecDepth 100000 in
set_option maxHeartbeats 4000000 in
theorem areParams_step (W0 : World) (ks : List Tree) (ih : ∀ t ∈ ks, Test W0 53 t (Good t)) : TestL W0 31 ks (∀ k ∈ ks, Good k) := by
  intro v hl w hw
  obtain ⟨a, c, rfl, hc1, hc2, hk⟩ := hl
  have HK := Lib.hid hk
  have IH := Lib.hid ih
  have HW := Lib.hid hw
  have hnl : (ks.length : Int) ≤ 9223372036854775807 := by omega
  clear hk ih hw hc1 hc2
  go_enter Tryz.func31, Tryz.ntmps31
  go_wp2_with fail
  go_loopg [7] (ks.length) (fun k' i wr => ∃ j : Nat, j + k' = ks.length ∧ i = .int .i64 j ∧ Hid (∀ k ∈ ks.take j, Good k) ∧ Hid (Below w.heap.size w wr))
  case atStart => exact ⟨0, by omega, rfl, fun k hk => by simp at hk, Below.refl _ _⟩
  case round =>
    obtain ⟨j, hj, rfl, hg, hb⟩ := hrel
    by_cases hlt : j < ks.length
    · obtain ⟨b, off, rfl, hk⟩ := HK.out.resolve_left (by intro e; subst e; simp at hlt)
      obtain ⟨ka, kc, hkid, hat⟩ := hk j hlt
      have L1 := HW.out.on hb.out
      have TA := Lib.hid (fun h => take_all (P := Good) hg.out hlt h)
      have HT := Lib.hid (IH.out ks[j] (List.getElem_mem hlt) _ hat)
      generalize hKK : ks[j] = K at *
      obtain ⟨k, x, n, l⟩ := K
      obtain ⟨p0, p1, p2, p3⟩ := (hkid wr L1).fields rfl
      have B1 := Lib.hid (hb.out.trans ((box_below wr (.cells #[.string k, .string x, .int .i64 n, .slice ka l.length kc] 24)).mono hb.out.size))
      have L2 := Lib.hid (L1.box (.cells #[.string k, .string x, .int .i64 n, .slice ka l.length kc] 24))
      clear hk hkid hat hKK L1
      by_cases hk1 : k = ⟨#[66, 117, 105, 108, 116, 105, 110, 84, 121, 112, 101]⟩
      · subst hk1
        by_cases hx1 : x = ⟨#[46, 46, 46]⟩
        · subst hx1
          by_cases hnz : n = 0 ∧ l = []
          · obtain ⟨rfl, rfl⟩ := hnz
            have G := Lib.hid (TA.out (.builtinType ⟨#[46, 46, 46]⟩))
            simp only [List.length_nil] at *
            cases hjl : decide ((j : Int) < (ks.length : Int) - 1) with
            | true =>
              go_wp2_with fail
              go_ret
              exact ⟨says_no rfl, B1.out⟩
            | false =>
              go_wp2_with fail
              go_roundg (gk - 1)
              case measure => omega
              case rel => exact ⟨j + 1, by omega, by go_num, G.out, B1.out⟩
          · by_cases hn0 : n = 0
            · subst hn0
              have hl0 : 0 < l.length := List.length_pos_iff.2 (fun e => hnz ⟨rfl, e⟩)
              have hd0 : decide ((0 : Int) < (l.length : Int)) = true := decide_eq_true (by omega)
              clear HT TA
              cases hjl : decide ((j : Int) < (ks.length : Int) - 1) with
              | true =>
                go_wp2_with fail
                go_ret
                exact ⟨says_no rfl, B1.out⟩
              | false =>
                go_wp2_with fail
                go_ret
                exact ⟨says_no rfl, B1.out⟩
            · have hb0 : (n == 0) = false := beq_eq_false_iff_ne.2 hn0
              have hb1 : (n != 0) = true := by rw [bne, hb0]; rfl
              clear HT TA
              cases hjl : decide ((j : Int) < (ks.length : Int) - 1) with
              | true =>
                go_wp2_with fail
                go_ret
                exact ⟨says_no rfl, B1.out⟩
              | false =>
                go_wp2_with fail
                go_ret
                exact ⟨says_no rfl, B1.out⟩
        · have hx1' : (x.toList == [46, 46, 46]) = false := ne_of hx1
          by_cases hx2 : x = ⟨#[118, 111, 105, 100]⟩
          · subst hx2
            go_wp2_with fail
            refine (HT.out _ L2.out).mono ?_
            rintro e w2 ⟨⟨r, rfl, hr⟩, b2⟩
            have B2 := Lib.hid (B1.out.trans (b2.mono (by have := hb.out.size; simp; omega)))
            have F2 := Lib.hid (box_at (b2.mono (by simp)))
            clear b2
            cases r with
            | false =>
              clear hr
              go_wp2_with fail
              go_ret
              exact ⟨says_no rfl, B2.out⟩
            | true =>
              have G := Lib.hid (TA.out (hr rfl))
              clear hr
              obtain ⟨x0, x1, x2, x3⟩ := F2.out
              go_wp2_with fail
              go_ret
              exact ⟨says_no rfl, B2.out⟩
          · have hx2' : (x.toList == [118, 111, 105, 100]) = false := ne_of hx2
            go_wp2_with fail
            refine (HT.out _ L2.out).mono ?_
            rintro e w2 ⟨⟨r, rfl, hr⟩, b2⟩
            have B2 := Lib.hid (B1.out.trans (b2.mono (by have := hb.out.size; simp; omega)))
            have F2 := Lib.hid (box_at (b2.mono (by simp)))
            clear b2
            cases r with
            | false =>
              clear hr
              go_wp2_with fail
              go_ret
              exact ⟨says_no rfl, B2.out⟩
            | true =>
              have G := Lib.hid (TA.out (hr rfl))
              clear hr
              obtain ⟨x0, x1, x2, x3⟩ := F2.out
              go_wp2_with fail
              go_roundg (gk - 1)
              case measure => omega
              case rel => exact ⟨j + 1, by omega, by go_num, G.out, B2.out⟩
      · have hk1' : (k.toList == [66, 117, 105, 108, 116, 105, 110, 84, 121, 112, 101]) = false := ne_of hk1
        go_wp2_with fail
        refine (HT.out _ L2.out).mono ?_
        rintro e w2 ⟨⟨r, rfl, hr⟩, b2⟩
        have B2 := Lib.hid (B1.out.trans (b2.mono (by have := hb.out.size; simp; omega)))
        have F2 := Lib.hid (box_at (b2.mono (by simp)))
        clear b2
        cases r with
        | false =>
          clear hr
          go_wp2_with fail
          go_ret
          exact ⟨says_no rfl, B2.out⟩
        | true =>
          have G := Lib.hid (TA.out (hr rfl))
          clear hr
          obtain ⟨x0, x1, x2, x3⟩ := F2.out
          go_wp2_with fail
          go_roundg (gk - 1)
          case measure => omega
          case rel => exact ⟨j + 1, by omega, by go_num, G.out, B2.out⟩
    · have HN := Lib.hid (take_done hg.out hlt)
      go_wp2_with fail
      go_ret
      exact ⟨⟨true, rfl, fun _ => HN.out⟩, hb.out⟩

end Go.Proofs.YtnhccgbkalpcnaaGreatDoor
