/- spec.Turned. -/
import Derived.Test.YtnhccgbkalpcnaaGreatDoorHas
namespace Go.Proofs.YtnhccgbkalpcnaaGreatDoor
open Go.RowKit

/-- the first kid -/
theorem AtL.first {W0 : World} {p : Tree} {l : List Tree} {sv : Value} (h : AtL W0 (p :: l) sv) :
    ∃ b off c pa pc, sv = .slice (some ⟨b, off, none⟩) (l.length + 1) c ∧ l.length + 1 ≤ c ∧ c ≤ 9223372036854775807 ∧ (∀ w, Later W0 w → Kid w b off p pa pc) ∧ At W0 p (val p pa pc) := by
  obtain ⟨a, c, rfl, h1, h2, h3⟩ := h
  obtain ⟨b, off, rfl, hk⟩ := h3.resolve_left (by simp)
  obtain ⟨pa, pc, kp, hp⟩ := hk 0 (by simp)
  refine ⟨b, off, c, pa, pc, rfl, h1, h2, fun w hw => ?_, hp⟩
  have := kp w hw
  simpa using this

/-- the first two kids -/
theorem AtL.firsts {W0 : World} {p q : Tree} {l : List Tree} {sv : Value} (h : AtL W0 (p :: q :: l) sv) :
    ∃ b off c pa pc qa qc, sv = .slice (some ⟨b, off, none⟩) (l.length + 1 + 1) c ∧ l.length + 2 ≤ c ∧ c ≤ 9223372036854775807 ∧ (∀ w, Later W0 w → Kid w b off p pa pc ∧ Kid w b (off + 4) q qa qc) ∧ At W0 p (val p pa pc) ∧ At W0 q (val q qa qc) := by
  obtain ⟨a, c, rfl, h1, h2, h3⟩ := h
  obtain ⟨b, off, rfl, hk⟩ := h3.resolve_left (by simp)
  obtain ⟨pa, pc, kp, hp⟩ := hk 0 (by simp)
  obtain ⟨qa, qc, kq, hq⟩ := hk 1 (by simp)
  refine ⟨b, off, c, pa, pc, qa, qc, rfl, h1, h2, fun w hw => ⟨?_, ?_⟩, hp, hq⟩
  · have := kp w hw
    simpa using this
  · have := kq w hw
    simpa using this

set_option maxRecDepth 100000 in
set_option maxHeartbeats 2000000 in
/-- where the type is written around what it belongs to -/
theorem turned_yes (W0 : World) (k x : ByteArray) (n : Int) (ks : List Tree) (hk : k = ⟨#[70, 117, 110, 99, 116, 105, 111, 110, 84, 121, 112, 101]⟩ ∨ k = ⟨#[65, 114, 114, 97, 121, 84, 121, 112, 101]⟩ ∨ k = ⟨#[77, 101, 116, 104, 111, 100, 87, 105, 116, 104, 81, 117, 97, 108, 105, 102, 105, 101, 114, 115]⟩) : Test W0 34 (.node k x n ks) True := by
  intro v hv w hw
  obtain ⟨a, c, rfl, _⟩ := hv.shut
  have S0 := Lib.hid (St.start hw (.string k) (.string x) (.int .i64 n) (.slice a ks.length c))
  clear hv
  rcases hk with rfl | rfl | rfl
  · go_enter Tryz.func34, Tryz.ntmps34
    go_wp2_with fail
    go_ret
    exact ⟨says_any rfl, S0.out.below⟩
  · go_enter Tryz.func34, Tryz.ntmps34
    go_wp2_with fail
    go_ret
    exact ⟨says_any rfl, S0.out.below⟩
  · go_enter Tryz.func34, Tryz.ntmps34
    go_wp2_with fail
    go_ret
    exact ⟨says_any rfl, S0.out.below⟩

set_option maxRecDepth 100000 in
set_option maxHeartbeats 2000000 in
/-- where it is what its first part is -/
theorem turned_first (W0 : World) (k x : ByteArray) (n : Int) (ks : List Tree) (hk : k = ⟨#[80, 111, 105, 110, 116, 101, 114, 84, 121, 112, 101]⟩ ∨ k = ⟨#[82, 101, 102, 101, 114, 101, 110, 99, 101, 84, 121, 112, 101]⟩ ∨ k = ⟨#[82, 118, 97, 108, 117, 101, 82, 101, 102, 101, 114, 101, 110, 99, 101, 84, 121, 112, 101]⟩ ∨ k = ⟨#[84, 121, 112, 101, 87, 105, 116, 104, 81, 117, 97, 108, 105, 102, 105, 101, 114, 115]⟩ ∨ k = ⟨#[67, 111, 109, 112, 108, 101, 120, 84, 121, 112, 101]⟩ ∨ k = ⟨#[73, 109, 97, 103, 105, 110, 97, 114, 121, 84, 121, 112, 101]⟩) (ih : ∀ t ∈ ks, Test W0 34 t True) : Test W0 34 (.node k x n ks) True := by
  intro v hv w hw
  obtain ⟨sv, rfl, hl⟩ := hv.kids
  match ks, hl, ih with
  | [], hl, _ =>
    obtain ⟨a, c, rfl, _⟩ := hl
    simp only [List.length_nil]
    have S0 := Lib.hid (St.start hw (.string k) (.string x) (.int .i64 n) (.slice a 0 c))
    clear hv
    rcases hk with rfl | rfl | rfl | rfl | rfl | rfl
    · go_enter Tryz.func34, Tryz.ntmps34
      go_wp2_with fail
      go_ret
      exact ⟨says_any rfl, S0.out.below⟩
    · go_enter Tryz.func34, Tryz.ntmps34
      go_wp2_with fail
      go_ret
      exact ⟨says_any rfl, S0.out.below⟩
    · go_enter Tryz.func34, Tryz.ntmps34
      go_wp2_with fail
      go_ret
      exact ⟨says_any rfl, S0.out.below⟩
    · go_enter Tryz.func34, Tryz.ntmps34
      go_wp2_with fail
      go_ret
      exact ⟨says_any rfl, S0.out.below⟩
    · go_enter Tryz.func34, Tryz.ntmps34
      go_wp2_with fail
      go_ret
      exact ⟨says_any rfl, S0.out.below⟩
    · go_enter Tryz.func34, Tryz.ntmps34
      go_wp2_with fail
      go_ret
      exact ⟨says_any rfl, S0.out.below⟩
  | p :: l, hl, ih =>
    obtain ⟨b, off, c, pa, pc, rfl, hc1, hc2, kp, hp⟩ := hl.first
    have S0 := Lib.hid (St.start hw (.string k) (.string x) (.int .i64 n) (.slice (some ⟨b, off, none⟩) (l.length + 1) c))
    have I1 := Lib.hid (ih p (by simp) _ hp)
    obtain ⟨p0, p1, p2, p3⟩ := kp _ S0.out.later
    clear hv hl kp hp ih hw
    rcases hk with rfl | rfl | rfl | rfl | rfl | rfl
    · go_enter Tryz.func34, Tryz.ntmps34
      go_wp2_with fail
      refine (I1.out _ S0.out.later).mono ?_
      rintro e w1 ⟨⟨r, rfl, _⟩, b1⟩
      have S1 := Lib.hid (S0.out.on b1)
      clear b1
      go_wp2_with fail
      go_ret
      exact ⟨says_any rfl, S1.out.below⟩
    · go_enter Tryz.func34, Tryz.ntmps34
      go_wp2_with fail
      refine (I1.out _ S0.out.later).mono ?_
      rintro e w1 ⟨⟨r, rfl, _⟩, b1⟩
      have S1 := Lib.hid (S0.out.on b1)
      clear b1
      go_wp2_with fail
      go_ret
      exact ⟨says_any rfl, S1.out.below⟩
    · go_enter Tryz.func34, Tryz.ntmps34
      go_wp2_with fail
      refine (I1.out _ S0.out.later).mono ?_
      rintro e w1 ⟨⟨r, rfl, _⟩, b1⟩
      have S1 := Lib.hid (S0.out.on b1)
      clear b1
      go_wp2_with fail
      go_ret
      exact ⟨says_any rfl, S1.out.below⟩
    · go_enter Tryz.func34, Tryz.ntmps34
      go_wp2_with fail
      refine (I1.out _ S0.out.later).mono ?_
      rintro e w1 ⟨⟨r, rfl, _⟩, b1⟩
      have S1 := Lib.hid (S0.out.on b1)
      clear b1
      go_wp2_with fail
      go_ret
      exact ⟨says_any rfl, S1.out.below⟩
    · go_enter Tryz.func34, Tryz.ntmps34
      go_wp2_with fail
      refine (I1.out _ S0.out.later).mono ?_
      rintro e w1 ⟨⟨r, rfl, _⟩, b1⟩
      have S1 := Lib.hid (S0.out.on b1)
      clear b1
      go_wp2_with fail
      go_ret
      exact ⟨says_any rfl, S1.out.below⟩
    · go_enter Tryz.func34, Tryz.ntmps34
      go_wp2_with fail
      refine (I1.out _ S0.out.later).mono ?_
      rintro e w1 ⟨⟨r, rfl, _⟩, b1⟩
      have S1 := Lib.hid (S0.out.on b1)
      clear b1
      go_wp2_with fail
      go_ret
      exact ⟨says_any rfl, S1.out.below⟩

set_option maxRecDepth 100000 in
set_option maxHeartbeats 2000000 in
/-- where it is what its second part is -/
theorem turned_second (W0 : World) (k x : ByteArray) (n : Int) (ks : List Tree) (hk : k = ⟨#[80, 116, 114, 77, 101, 109]⟩ ∨ k = ⟨#[86, 101, 110, 100, 111, 114, 81, 117, 97, 108, 105, 102, 105, 101, 114]⟩) (ih : ∀ t ∈ ks, Test W0 34 t True) : Test W0 34 (.node k x n ks) True := by
  intro v hv w hw
  obtain ⟨sv, rfl, hl⟩ := hv.kids
  match ks, hl, ih with
  | [], hl, _ =>
    obtain ⟨a, c, rfl, _⟩ := hl
    simp only [List.length_nil]
    have S0 := Lib.hid (St.start hw (.string k) (.string x) (.int .i64 n) (.slice a 0 c))
    clear hv
    rcases hk with rfl | rfl
    all_goals go_enter Tryz.func34, Tryz.ntmps34
    all_goals go_wp2_with fail
    all_goals go_ret
    all_goals exact ⟨says_any rfl, S0.out.below⟩
  | [p], hl, _ =>
    obtain ⟨a, c, rfl, _⟩ := hl
    simp only [List.length_nil, List.length_cons, Nat.zero_add]
    have S0 := Lib.hid (St.start hw (.string k) (.string x) (.int .i64 n) (.slice a 1 c))
    clear hv
    rcases hk with rfl | rfl
    all_goals go_enter Tryz.func34, Tryz.ntmps34
    all_goals go_wp2_with fail
    all_goals go_ret
    all_goals exact ⟨says_any rfl, S0.out.below⟩
  | p :: q :: l, hl, ih =>
    obtain ⟨b, off, c, pa, pc, qa, qc, rfl, hc1, hc2, kk, hp, hq⟩ := hl.firsts
    have S0 := Lib.hid (St.start hw (.string k) (.string x) (.int .i64 n) (.slice (some ⟨b, off, none⟩) (l.length + 1 + 1) c))
    have I1 := Lib.hid (ih q (by simp) _ hq)
    obtain ⟨-, ⟨q0, q1, q2, q3⟩⟩ := kk _ S0.out.later
    clear hv hl kk hp hq ih hw
    rcases hk with rfl | rfl
    · go_enter Tryz.func34, Tryz.ntmps34
      go_wp2_with fail
      refine (I1.out _ S0.out.later).mono ?_
      rintro e w1 ⟨⟨r, rfl, _⟩, b1⟩
      have S1 := Lib.hid (S0.out.on b1)
      clear b1
      go_wp2_with fail
      go_ret
      exact ⟨says_any rfl, S1.out.below⟩
    · go_enter Tryz.func34, Tryz.ntmps34
      go_wp2_with fail
      refine (I1.out _ S0.out.later).mono ?_
      rintro e w1 ⟨⟨r, rfl, _⟩, b1⟩
      have S1 := Lib.hid (S0.out.on b1)
      clear b1
      go_wp2_with fail
      go_ret
      exact ⟨says_any rfl, S1.out.below⟩

set_option maxRecDepth 100000 in
set_option maxHeartbeats 2000000 in
theorem turned_any (W0 : World) (t : Tree) : Test W0 34 t True := by
  induction hn : t.sz using Nat.strongRecOn generalizing t with
  | ind m ih =>
  obtain ⟨k, x, n, ks⟩ := t
  have hi : ∀ t ∈ ks, Test W0 34 t True := fun t ht => ih t.sz (by rw [← hn]; exact Tree.sz_lt (t := .node k x n ks) ht) t rfl
  by_cases a0 : k = ⟨#[70, 117, 110, 99, 116, 105, 111, 110, 84, 121, 112, 101]⟩
  · exact turned_yes W0 k x n ks (by simp [a0])
  by_cases a1 : k = ⟨#[65, 114, 114, 97, 121, 84, 121, 112, 101]⟩
  · exact turned_yes W0 k x n ks (by simp [a1])
  by_cases a2 : k = ⟨#[77, 101, 116, 104, 111, 100, 87, 105, 116, 104, 81, 117, 97, 108, 105, 102, 105, 101, 114, 115]⟩
  · exact turned_yes W0 k x n ks (by simp [a2])
  by_cases b0 : k = ⟨#[80, 111, 105, 110, 116, 101, 114, 84, 121, 112, 101]⟩
  · exact turned_first W0 k x n ks (by simp [b0]) hi
  by_cases b1 : k = ⟨#[82, 101, 102, 101, 114, 101, 110, 99, 101, 84, 121, 112, 101]⟩
  · exact turned_first W0 k x n ks (by simp [b1]) hi
  by_cases b2 : k = ⟨#[82, 118, 97, 108, 117, 101, 82, 101, 102, 101, 114, 101, 110, 99, 101, 84, 121, 112, 101]⟩
  · exact turned_first W0 k x n ks (by simp [b2]) hi
  by_cases b3 : k = ⟨#[84, 121, 112, 101, 87, 105, 116, 104, 81, 117, 97, 108, 105, 102, 105, 101, 114, 115]⟩
  · exact turned_first W0 k x n ks (by simp [b3]) hi
  by_cases b4 : k = ⟨#[67, 111, 109, 112, 108, 101, 120, 84, 121, 112, 101]⟩
  · exact turned_first W0 k x n ks (by simp [b4]) hi
  by_cases b5 : k = ⟨#[73, 109, 97, 103, 105, 110, 97, 114, 121, 84, 121, 112, 101]⟩
  · exact turned_first W0 k x n ks (by simp [b5]) hi
  by_cases c0 : k = ⟨#[80, 116, 114, 77, 101, 109]⟩
  · exact turned_second W0 k x n ks (by simp [c0]) hi
  by_cases c1 : k = ⟨#[86, 101, 110, 100, 111, 114, 81, 117, 97, 108, 105, 102, 105, 101, 114]⟩
  · exact turned_second W0 k x n ks (by simp [c1]) hi
  replace a0 : (k.toList == [70, 117, 110, 99, 116, 105, 111, 110, 84, 121, 112, 101]) = false := ne_of a0
  replace a1 : (k.toList == [65, 114, 114, 97, 121, 84, 121, 112, 101]) = false := ne_of a1
  replace a2 : (k.toList == [77, 101, 116, 104, 111, 100, 87, 105, 116, 104, 81, 117, 97, 108, 105, 102, 105, 101, 114, 115]) = false := ne_of a2
  replace b0 : (k.toList == [80, 111, 105, 110, 116, 101, 114, 84, 121, 112, 101]) = false := ne_of b0
  replace b1 : (k.toList == [82, 101, 102, 101, 114, 101, 110, 99, 101, 84, 121, 112, 101]) = false := ne_of b1
  replace b2 : (k.toList == [82, 118, 97, 108, 117, 101, 82, 101, 102, 101, 114, 101, 110, 99, 101, 84, 121, 112, 101]) = false := ne_of b2
  replace b3 : (k.toList == [84, 121, 112, 101, 87, 105, 116, 104, 81, 117, 97, 108, 105, 102, 105, 101, 114, 115]) = false := ne_of b3
  replace b4 : (k.toList == [67, 111, 109, 112, 108, 101, 120, 84, 121, 112, 101]) = false := ne_of b4
  replace b5 : (k.toList == [73, 109, 97, 103, 105, 110, 97, 114, 121, 84, 121, 112, 101]) = false := ne_of b5
  replace c0 : (k.toList == [80, 116, 114, 77, 101, 109]) = false := ne_of c0
  replace c1 : (k.toList == [86, 101, 110, 100, 111, 114, 81, 117, 97, 108, 105, 102, 105, 101, 114]) = false := ne_of c1
  intro v hv w hw
  obtain ⟨a, c, rfl, _⟩ := hv.shut
  clear hv hi ih hn
  go_enter Tryz.func34, Tryz.ntmps34
  go_wp2_with fail
  go_ret
  exact ⟨says_any rfl, box_below _ _⟩

end Go.Proofs.YtnhccgbkalpcnaaGreatDoor
