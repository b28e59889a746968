/- isTemplate. -/
import Derived.Test.YtnhccgbkalpcnaaGreatDoorLoops2
namespace Go.Proofs.YtnhccgbkalpcnaaGreatDoor
open Go.RowKit

theorem ne_empty {x : ByteArray} (h : x ≠ ⟨#[]⟩) : x.toList.isEmpty = false := by
  cases e : x.toList with
  | nil => exact absurd (isEmpty_eq e) h
  | cons a l => rfl

set_option maxRecDepth 100000 in
set_option maxHeartbeats 2000000 in
theorem isTemplate_step (W0 : World) (k x : ByteArray) (n : Int) (ks0 : List Tree) (ih : ∀ t ∈ ks0, Test W0 57 t (Good t)) : Test W0 39 (.node k x n ks0) (TmplP x n ks0) := by
  intro v hv w hw
  by_cases hx : x = ⟨#[]⟩
  · subst hx
    by_cases hn : n = 0
    · subst hn
      obtain ⟨sv, rfl, hl⟩ := hv.kids
      match ks0, hl, ih with
      | [], hl, _ =>
        obtain ⟨a, c, rfl, _⟩ := hl
        have S0 := Lib.hid (St.start hw (.string k) (.string ⟨#[]⟩) (.int .i64 0) (.slice a 0 c))
        simp only [List.length_nil]
        clear hv
        go_enter Tryz.func39, Tryz.ntmps39
        go_wp2_with fail
        go_ret
        exact ⟨says_no rfl, S0.out.below⟩
      | [p], hl, _ =>
        obtain ⟨a, c, rfl, _⟩ := hl
        have S0 := Lib.hid (St.start hw (.string k) (.string ⟨#[]⟩) (.int .i64 0) (.slice a 1 c))
        simp only [List.length_nil, List.length_cons, Nat.zero_add]
        clear hv
        go_enter Tryz.func39, Tryz.ntmps39
        go_wp2_with fail
        go_ret
        exact ⟨says_no rfl, S0.out.below⟩
      | p :: q :: l, hl, ih =>
        obtain ⟨b, off, c, pa, pc, rfl, hc1, hc2, -, -⟩ := hl.first
        obtain ⟨_, _, e, _, ht, _⟩ := AtL.tail hl
        simp only [Option.some.injEq, Addr.mk.injEq, and_true] at e
        obtain ⟨rfl, rfl⟩ := e
        obtain ⟨ks, hks⟩ : ∃ ks, ks = q :: l := ⟨_, rfl⟩
        have hlen : l.length + 1 = ks.length := by rw [hks]; rfl
        have hpos : 0 < ks.length := by omega
        rw [← hks] at ht ih hc1 ⊢
        have IH := Lib.hid (fun t (h : t ∈ ks) => ih t (List.mem_cons_of_mem _ h))
        have HKS := Lib.hid hks
        clear hks ih hv hl hlen
        have S0 := Lib.hid (St.start hw (.string k) (.string ⟨#[]⟩) (.int .i64 0) (.slice (some ⟨b, off, none⟩) (ks.length + 1) c))
        obtain ⟨_, _, e, h1, h2, hk⟩ := ht
        simp only [Value.slice.injEq, true_and] at e
        obtain ⟨rfl, rfl⟩ := e
        have HK := Lib.hid hk
        have hnl : (ks.length : Int) + 1 ≤ 9223372036854775807 := by omega
        have hd2 : decide ((ks.length : Int) + 1 < 2) = false := decide_eq_false (by omega)
        clear hk
        go_enter Tryz.func39, Tryz.ntmps39
        go_wp2_with fail
        have HW := Lib.hid hw
        clear hw
        go_loopg [23] (ks.length) (fun k' i wr => ∃ j : Nat, j + k' = ks.length ∧ i = .int .i64 j ∧ Hid (∀ k ∈ ks.take j, Good k) ∧ Hid (Below w.heap.size w wr))
        case atStart => exact ⟨0, by omega, rfl, fun k hk => by simp at hk, S0.out.below⟩
        case round =>
          obtain ⟨j, hj, rfl, hg, hb⟩ := hrel
          by_cases hlt : j < ks.length
          · obtain ⟨b2, off2, hab, hk⟩ := HK.out.resolve_left (by intro e; subst e; simp at hlt)
            simp only [Option.some.injEq, Addr.mk.injEq, and_true] at hab
            obtain ⟨rfl, rfl⟩ := hab
            obtain ⟨ka, kc, hkid, hat⟩ := hk j hlt
            have L1 := HW.out.on hb.out
            obtain ⟨p0, p1, p2, p3⟩ := hkid wr L1
            have B1 := Lib.hid (hb.out.trans ((box_below wr (.cells #[.string ks[j].kind, .string ks[j].text, .int .i64 ks[j].num, .slice ka ks[j].kids.length kc] 24)).mono hb.out.size))
            have L2 := Lib.hid (L1.box (.cells #[.string ks[j].kind, .string ks[j].text, .int .i64 ks[j].num, .slice ka ks[j].kids.length kc] 24))
            have HT := Lib.hid (IH.out ks[j] (List.getElem_mem hlt) _ hat)
            have TA := Lib.hid (fun h => take_all (P := Good) hg.out hlt h)
            clear hat
            clear hk hkid L1
            go_wp2_with fail
            refine (HT.out _ L2.out).mono ?_
            rintro e w2 ⟨⟨r, rfl, hr⟩, b2⟩
            have B2 := Lib.hid (B1.out.trans (b2.mono (by have := hb.out.size; simp; omega)))
            clear b2
            cases r with
            | false =>
              clear hr
              go_wp2_with fail
              go_ret
              exact ⟨says_no rfl, B2.out⟩
            | true =>
              have G := Lib.hid (TA.out (hr rfl))
              clear hr
              go_wp2_with fail
              go_roundg (gk - 1)
              case measure => omega
              case rel => exact ⟨j + 1, by omega, by go_num, G.out, B2.out⟩
          · have HN := Lib.hid (take_done hg.out hlt)
            go_wp2_with fail
            go_ret
            exact ⟨⟨true, rfl, fun _ => ⟨rfl, rfl, p, ks, rfl, List.length_pos_iff.1 hpos, HN.out⟩⟩, hb.out⟩

    · have hb0 : (n == 0) = false := beq_eq_false_iff_ne.2 hn
      have hb1 : (n != 0) = true := by rw [bne, hb0]; rfl
      obtain ⟨a, c, rfl, _⟩ := hv.shut
      clear hv
      go_enter Tryz.func39, Tryz.ntmps39
      go_wp2_with fail
      go_ret
      exact ⟨says_no rfl, box_below _ _⟩
  · have hx0 : x.toList.isEmpty = false := ne_empty hx
    obtain ⟨a, c, rfl, _⟩ := hv.shut
    clear hv
    go_enter Tryz.func39, Tryz.ntmps39
    go_wp2_with fail
    go_ret
    exact ⟨says_no rfl, box_below _ _⟩

end Go.Proofs.YtnhccgbkalpcnaaGreatDoor
