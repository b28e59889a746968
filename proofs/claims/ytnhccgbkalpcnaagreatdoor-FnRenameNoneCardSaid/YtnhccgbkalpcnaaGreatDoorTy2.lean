/- IsType: names, builtin types, types of functions; the kinds that are no types. -/
import Derived.Test.YtnhccgbkalpcnaaGreatDoorTy1
import Derived.Test.YtnhccgbkalpcnaaGreatDoorTwq
namespace Go.Proofs.YtnhccgbkalpcnaaGreatDoor
open Go.RowKit

set_option maxRecDepth 100000 in
set_option maxHeartbeats 2000000 in
theorem ty_name (W0 : World) (x : ByteArray) (n : Int) (ks : List Tree) (h : Test W0 20 (.node ⟨#[78, 97, 109, 101]⟩ x n ks) (Good (.node ⟨#[78, 97, 109, 101]⟩ x n ks))) : Test W0 53 (.node ⟨#[78, 97, 109, 101]⟩ x n ks) (Good (.node ⟨#[78, 97, 109, 101]⟩ x n ks)) := by
  intro v hv w hw
  have HT := Lib.hid (h _ hv)
  obtain ⟨a, c, rfl, _⟩ := hv.shut
  have S0 := Lib.hid (St.start hw (.string ⟨#[78, 97, 109, 101]⟩) (.string x) (.int .i64 n) (.slice a ks.length c))
  clear hv hw h
  go_enter Tryz.func53, Tryz.ntmps53
  go_wp2_with fail
  refine (HT.out _ S0.out.later).mono ?_
  rintro e w1 ⟨⟨r, rfl, hr⟩, b⟩
  have S1 := Lib.hid (S0.out.on b)
  clear b
  cases r with
  | false =>
    clear hr
    obtain ⟨x0, x1, x2, x3⟩ := S1.out.box
    go_wp2_with fail
    go_ret
    exact ⟨says_no rfl, S1.out.below⟩
  | true =>
    have R1 := Lib.hid (hr rfl)
    clear hr
    obtain ⟨x0, x1, x2, x3⟩ := S1.out.box
    go_wp2_with fail
    go_ret
    exact ⟨⟨_, rfl, fun _ => R1.out⟩, S1.out.below⟩

set_option maxRecDepth 100000 in
set_option maxHeartbeats 2000000 in
theorem ty_taggedName (W0 : World) (x : ByteArray) (n : Int) (ks : List Tree) (h : Test W0 20 (.node ⟨#[84, 97, 103, 103, 101, 100, 78, 97, 109, 101]⟩ x n ks) (Good (.node ⟨#[84, 97, 103, 103, 101, 100, 78, 97, 109, 101]⟩ x n ks))) : Test W0 53 (.node ⟨#[84, 97, 103, 103, 101, 100, 78, 97, 109, 101]⟩ x n ks) (Good (.node ⟨#[84, 97, 103, 103, 101, 100, 78, 97, 109, 101]⟩ x n ks)) := by
  intro v hv w hw
  have HT := Lib.hid (h _ hv)
  obtain ⟨a, c, rfl, _⟩ := hv.shut
  have S0 := Lib.hid (St.start hw (.string ⟨#[84, 97, 103, 103, 101, 100, 78, 97, 109, 101]⟩) (.string x) (.int .i64 n) (.slice a ks.length c))
  clear hv hw h
  go_enter Tryz.func53, Tryz.ntmps53
  go_wp2_with fail
  refine (HT.out _ S0.out.later).mono ?_
  rintro e w1 ⟨⟨r, rfl, hr⟩, b⟩
  have S1 := Lib.hid (S0.out.on b)
  clear b
  cases r with
  | false =>
    clear hr
    obtain ⟨x0, x1, x2, x3⟩ := S1.out.box
    go_wp2_with fail
    go_ret
    exact ⟨says_no rfl, S1.out.below⟩
  | true =>
    have R1 := Lib.hid (hr rfl)
    clear hr
    obtain ⟨x0, x1, x2, x3⟩ := S1.out.box
    go_wp2_with fail
    go_ret
    exact ⟨⟨_, rfl, fun _ => R1.out⟩, S1.out.below⟩

set_option maxRecDepth 100000 in
set_option maxHeartbeats 2000000 in
theorem ty_qualified (W0 : World) (x : ByteArray) (n : Int) (ks : List Tree) (h : Test W0 20 (.node ⟨#[81, 117, 97, 108, 105, 102, 105, 101, 100]⟩ x n ks) (Good (.node ⟨#[81, 117, 97, 108, 105, 102, 105, 101, 100]⟩ x n ks))) : Test W0 53 (.node ⟨#[81, 117, 97, 108, 105, 102, 105, 101, 100]⟩ x n ks) (Good (.node ⟨#[81, 117, 97, 108, 105, 102, 105, 101, 100]⟩ x n ks)) := by
  intro v hv w hw
  have HT := Lib.hid (h _ hv)
  obtain ⟨a, c, rfl, _⟩ := hv.shut
  have S0 := Lib.hid (St.start hw (.string ⟨#[81, 117, 97, 108, 105, 102, 105, 101, 100]⟩) (.string x) (.int .i64 n) (.slice a ks.length c))
  clear hv hw h
  go_enter Tryz.func53, Tryz.ntmps53
  go_wp2_with fail
  refine (HT.out _ S0.out.later).mono ?_
  rintro e w1 ⟨⟨r, rfl, hr⟩, b⟩
  have S1 := Lib.hid (S0.out.on b)
  clear b
  cases r with
  | false =>
    clear hr
    obtain ⟨x0, x1, x2, x3⟩ := S1.out.box
    go_wp2_with fail
    go_ret
    exact ⟨says_no rfl, S1.out.below⟩
  | true =>
    have R1 := Lib.hid (hr rfl)
    clear hr
    obtain ⟨x0, x1, x2, x3⟩ := S1.out.box
    go_wp2_with fail
    go_ret
    exact ⟨⟨_, rfl, fun _ => R1.out⟩, S1.out.below⟩

set_option maxRecDepth 100000 in
set_option maxHeartbeats 2000000 in
theorem ty_template (W0 : World) (x : ByteArray) (n : Int) (ks : List Tree) (h : Test W0 20 (.node ⟨#[84, 101, 109, 112, 108, 97, 116, 101]⟩ x n ks) (Good (.node ⟨#[84, 101, 109, 112, 108, 97, 116, 101]⟩ x n ks))) : Test W0 53 (.node ⟨#[84, 101, 109, 112, 108, 97, 116, 101]⟩ x n ks) (Good (.node ⟨#[84, 101, 109, 112, 108, 97, 116, 101]⟩ x n ks)) := by
  intro v hv w hw
  have HT := Lib.hid (h _ hv)
  obtain ⟨a, c, rfl, _⟩ := hv.shut
  have S0 := Lib.hid (St.start hw (.string ⟨#[84, 101, 109, 112, 108, 97, 116, 101]⟩) (.string x) (.int .i64 n) (.slice a ks.length c))
  clear hv hw h
  go_enter Tryz.func53, Tryz.ntmps53
  go_wp2_with fail
  refine (HT.out _ S0.out.later).mono ?_
  rintro e w1 ⟨⟨r, rfl, hr⟩, b⟩
  have S1 := Lib.hid (S0.out.on b)
  clear b
  cases r with
  | false =>
    clear hr
    obtain ⟨x0, x1, x2, x3⟩ := S1.out.box
    go_wp2_with fail
    go_ret
    exact ⟨says_no rfl, S1.out.below⟩
  | true =>
    have R1 := Lib.hid (hr rfl)
    clear hr
    obtain ⟨x0, x1, x2, x3⟩ := S1.out.box
    go_wp2_with fail
    go_ret
    exact ⟨⟨_, rfl, fun _ => R1.out⟩, S1.out.below⟩

set_option maxRecDepth 100000 in
set_option maxHeartbeats 2000000 in
theorem ty_functionType (W0 : World) (x : ByteArray) (n : Int) (ks : List Tree) (h : Test W0 68 (.node ⟨#[70, 117, 110, 99, 116, 105, 111, 110, 84, 121, 112, 101]⟩ x n ks) (Good (.node ⟨#[70, 117, 110, 99, 116, 105, 111, 110, 84, 121, 112, 101]⟩ x n ks))) : Test W0 53 (.node ⟨#[70, 117, 110, 99, 116, 105, 111, 110, 84, 121, 112, 101]⟩ x n ks) (Good (.node ⟨#[70, 117, 110, 99, 116, 105, 111, 110, 84, 121, 112, 101]⟩ x n ks)) := by
  intro v hv w hw
  have HT := Lib.hid (h _ hv)
  obtain ⟨a, c, rfl, _⟩ := hv.shut
  have S0 := Lib.hid (St.start hw (.string ⟨#[70, 117, 110, 99, 116, 105, 111, 110, 84, 121, 112, 101]⟩) (.string x) (.int .i64 n) (.slice a ks.length c))
  clear hv hw h
  go_enter Tryz.func53, Tryz.ntmps53
  go_wp2_with fail
  refine (HT.out _ S0.out.later).mono ?_
  rintro e w1 ⟨⟨r, rfl, hr⟩, b⟩
  have S1 := Lib.hid (S0.out.on b)
  clear b
  cases r with
  | false =>
    clear hr
    obtain ⟨x0, x1, x2, x3⟩ := S1.out.box
    go_wp2_with fail
    go_ret
    exact ⟨says_no rfl, S1.out.below⟩
  | true =>
    have R1 := Lib.hid (hr rfl)
    clear hr
    obtain ⟨x0, x1, x2, x3⟩ := S1.out.box
    go_wp2_with fail
    go_ret
    exact ⟨⟨_, rfl, fun _ => R1.out⟩, S1.out.below⟩

set_option maxRecDepth 100000 in
set_option maxHeartbeats 2000000 in
theorem ty_builtin (W0 : World) (x : ByteArray) (n : Int) (ks : List Tree) : Test W0 53 (.node ⟨#[66, 117, 105, 108, 116, 105, 110, 84, 121, 112, 101]⟩ x n ks) (Good (.node ⟨#[66, 117, 105, 108, 116, 105, 110, 84, 121, 112, 101]⟩ x n ks)) := by
  intro v hv w hw
  obtain ⟨a, c, rfl, _⟩ := hv.shut
  have S0 := Lib.hid (St.start hw (.string ⟨#[66, 117, 105, 108, 116, 105, 110, 84, 121, 112, 101]⟩) (.string x) (.int .i64 n) (.slice a ks.length c))
  clear hv hw
  by_cases h1 : n = 0
  · subst h1
    by_cases h2 : ks = []
    · subst h2
      simp only [List.length_nil] at *
      by_cases h3 : x = ⟨#[46, 46, 46]⟩
      · subst h3
        go_enter Tryz.func53, Tryz.ntmps53
        go_wp2_with fail
        go_ret
        exact ⟨says_no rfl, S0.out.below⟩
      · have h3' : (x.toList == [46, 46, 46]) = false := ne_of h3
        have HC := Lib.hid (fun W hW => code_any x W hW)
        go_enter Tryz.func53, Tryz.ntmps53
        go_wp2_with fail
        refine (HC.out _ S0.out.later.tables).mono ?_
        rintro e w1 ⟨⟨s, rfl⟩, rfl⟩
        go_wp2_with fail
        all_goals go_ret
        all_goals exact ⟨⟨_, rfl, fun _ => .builtinType x⟩, S0.out.below⟩
    · have hl0 : ((ks.length : Int) == 0) = false := beq_eq_false_iff_ne.2 (by have := List.length_pos_iff.2 h2; omega)
      go_enter Tryz.func53, Tryz.ntmps53
      go_wp2_with fail
      go_ret
      exact ⟨says_no rfl, S0.out.below⟩
  · have h1' : (n == 0) = false := beq_eq_false_iff_ne.2 h1
    go_enter Tryz.func53, Tryz.ntmps53
    go_wp2_with fail
    go_ret
    exact ⟨says_no rfl, S0.out.below⟩

set_option maxRecDepth 100000 in
set_option maxHeartbeats 4000000 in
theorem ty_other (W0 : World) (k x : ByteArray) (n : Int) (ks : List Tree) (h0 : k ≠ ⟨#[78, 97, 109, 101]⟩) (h1 : k ≠ ⟨#[84, 97, 103, 103, 101, 100, 78, 97, 109, 101]⟩) (h2 : k ≠ ⟨#[81, 117, 97, 108, 105, 102, 105, 101, 100]⟩) (h3 : k ≠ ⟨#[84, 101, 109, 112, 108, 97, 116, 101]⟩) (h4 : k ≠ ⟨#[66, 117, 105, 108, 116, 105, 110, 84, 121, 112, 101]⟩) (h5 : k ≠ ⟨#[80, 111, 105, 110, 116, 101, 114, 84, 121, 112, 101]⟩) (h6 : k ≠ ⟨#[82, 101, 102, 101, 114, 101, 110, 99, 101, 84, 121, 112, 101]⟩) (h7 : k ≠ ⟨#[82, 118, 97, 108, 117, 101, 82, 101, 102, 101, 114, 101, 110, 99, 101, 84, 121, 112, 101]⟩) (h8 : k ≠ ⟨#[84, 121, 112, 101, 87, 105, 116, 104, 81, 117, 97, 108, 105, 102, 105, 101, 114, 115]⟩) (h9 : k ≠ ⟨#[67, 111, 109, 112, 108, 101, 120, 84, 121, 112, 101]⟩) (h10 : k ≠ ⟨#[73, 109, 97, 103, 105, 110, 97, 114, 121, 84, 121, 112, 101]⟩) (h11 : k ≠ ⟨#[70, 117, 110, 99, 116, 105, 111, 110, 84, 121, 112, 101]⟩) (h12 : k ≠ ⟨#[65, 114, 114, 97, 121, 84, 121, 112, 101]⟩) (h13 : k ≠ ⟨#[80, 116, 114, 77, 101, 109]⟩) (h14 : k ≠ ⟨#[86, 101, 99, 116, 111, 114, 84, 121, 112, 101]⟩) (h15 : k ≠ ⟨#[86, 101, 110, 100, 111, 114, 81, 117, 97, 108, 105, 102, 105, 101, 114]⟩) (P : Prop) : Test W0 53 (.node k x n ks) P := by
  intro v hv w hw
  obtain ⟨a, c, rfl, _⟩ := hv.shut
  have S0 := Lib.hid (St.start hw (.string k) (.string x) (.int .i64 n) (.slice a ks.length c))
  clear hv hw
  have g0 : (k.toList == [78, 97, 109, 101]) = false := ne_of h0
  have g1 : (k.toList == [84, 97, 103, 103, 101, 100, 78, 97, 109, 101]) = false := ne_of h1
  have g2 : (k.toList == [81, 117, 97, 108, 105, 102, 105, 101, 100]) = false := ne_of h2
  have g3 : (k.toList == [84, 101, 109, 112, 108, 97, 116, 101]) = false := ne_of h3
  have g4 : (k.toList == [66, 117, 105, 108, 116, 105, 110, 84, 121, 112, 101]) = false := ne_of h4
  have g5 : (k.toList == [80, 111, 105, 110, 116, 101, 114, 84, 121, 112, 101]) = false := ne_of h5
  have g6 : (k.toList == [82, 101, 102, 101, 114, 101, 110, 99, 101, 84, 121, 112, 101]) = false := ne_of h6
  have g7 : (k.toList == [82, 118, 97, 108, 117, 101, 82, 101, 102, 101, 114, 101, 110, 99, 101, 84, 121, 112, 101]) = false := ne_of h7
  have g8 : (k.toList == [84, 121, 112, 101, 87, 105, 116, 104, 81, 117, 97, 108, 105, 102, 105, 101, 114, 115]) = false := ne_of h8
  have g9 : (k.toList == [67, 111, 109, 112, 108, 101, 120, 84, 121, 112, 101]) = false := ne_of h9
  have g10 : (k.toList == [73, 109, 97, 103, 105, 110, 97, 114, 121, 84, 121, 112, 101]) = false := ne_of h10
  have g11 : (k.toList == [70, 117, 110, 99, 116, 105, 111, 110, 84, 121, 112, 101]) = false := ne_of h11
  have g12 : (k.toList == [65, 114, 114, 97, 121, 84, 121, 112, 101]) = false := ne_of h12
  have g13 : (k.toList == [80, 116, 114, 77, 101, 109]) = false := ne_of h13
  have g14 : (k.toList == [86, 101, 99, 116, 111, 114, 84, 121, 112, 101]) = false := ne_of h14
  have g15 : (k.toList == [86, 101, 110, 100, 111, 114, 81, 117, 97, 108, 105, 102, 105, 101, 114]) = false := ne_of h15
  clear h0 h1 h2 h3 h4 h5 h6 h7 h8 h9 h10 h11 h12 h13 h14 h15
  go_enter Tryz.func53, Tryz.ntmps53
  go_wp2_with fail
  go_ret
  exact ⟨says_no rfl, S0.out.below⟩

/-- what is shown of a tree -/
structure TyOK (W0 : World) (t : Tree) : Prop where
  ty : Test W0 53 t (Good t)
  cl : Test W0 20 t (Good t)
  un : Test W0 38 t (Good t)
  arg : Test W0 57 t (Good t)
  ft : Test W0 68 t (Good t)
  ob : Test W0 70 t (Good t)
  fl : Test W0 67 t (Good t)
  qu : Test W0 66 t (Good t)
  re : Test W0 33 t (Good t)
  me : Test W0 71 t (Good t)
  tm : Test W0 39 t (TmplP t.text t.num t.kids)

theorem twq_any (W0 : World) (x : ByteArray) (n : Int) (ks : List Tree) (hqu : ∀ p ∈ ks, Test W0 66 p (Good p)) : Test W0 53 (.node ⟨#[84, 121, 112, 101, 87, 105, 116, 104, 81, 117, 97, 108, 105, 102, 105, 101, 114, 115]⟩ x n ks) (Good (.node ⟨#[84, 121, 112, 101, 87, 105, 116, 104, 81, 117, 97, 108, 105, 102, 105, 101, 114, 115]⟩ x n ks)) := by
  by_cases h : x = ⟨#[]⟩ ∧ n = 0 ∧ (ks.length : Int) = 2
  · obtain ⟨rfl, rfl, hl⟩ := h
    obtain ⟨p, q, rfl⟩ := two_kids (ks := ks) (by omega)
    exact twq_open W0 p q (hqu p (by simp))
  · exact twq_shut W0 x n ks h _

theorem isType_step (W0 : World) (k x : ByteArray) (n : Int) (ks : List Tree) (ih : ∀ p ∈ ks, TyOK W0 p) (hcl : Test W0 20 (.node k x n ks) (Good (.node k x n ks))) (hft : Test W0 68 (.node k x n ks) (Good (.node k x n ks))) : Test W0 53 (.node k x n ks) (Good (.node k x n ks)) := by
  by_cases h0 : k = ⟨#[78, 97, 109, 101]⟩
  · subst h0
    exact ty_name W0 x n ks hcl
  by_cases h1 : k = ⟨#[84, 97, 103, 103, 101, 100, 78, 97, 109, 101]⟩
  · subst h1
    exact ty_taggedName W0 x n ks hcl
  by_cases h2 : k = ⟨#[81, 117, 97, 108, 105, 102, 105, 101, 100]⟩
  · subst h2
    exact ty_qualified W0 x n ks hcl
  by_cases h3 : k = ⟨#[84, 101, 109, 112, 108, 97, 116, 101]⟩
  · subst h3
    exact ty_template W0 x n ks hcl
  by_cases h4 : k = ⟨#[66, 117, 105, 108, 116, 105, 110, 84, 121, 112, 101]⟩
  · subst h4
    exact ty_builtin W0 x n ks
  by_cases h5 : k = ⟨#[80, 111, 105, 110, 116, 101, 114, 84, 121, 112, 101]⟩
  · subst h5
    exact ty_pointer W0 x n ks fun p hp => (ih p hp).ty
  by_cases h6 : k = ⟨#[82, 101, 102, 101, 114, 101, 110, 99, 101, 84, 121, 112, 101]⟩
  · subst h6
    exact ty_reference W0 x n ks fun p hp => (ih p hp).ty
  by_cases h7 : k = ⟨#[82, 118, 97, 108, 117, 101, 82, 101, 102, 101, 114, 101, 110, 99, 101, 84, 121, 112, 101]⟩
  · subst h7
    exact ty_rvalueReference W0 x n ks fun p hp => (ih p hp).ty
  by_cases h8 : k = ⟨#[84, 121, 112, 101, 87, 105, 116, 104, 81, 117, 97, 108, 105, 102, 105, 101, 114, 115]⟩
  · subst h8
    exact twq_any W0 x n ks fun p hp => (ih p hp).qu
  by_cases h9 : k = ⟨#[67, 111, 109, 112, 108, 101, 120, 84, 121, 112, 101]⟩
  · subst h9
    exact ty_complex W0 x n ks fun p hp => (ih p hp).fl
  by_cases h10 : k = ⟨#[73, 109, 97, 103, 105, 110, 97, 114, 121, 84, 121, 112, 101]⟩
  · subst h10
    exact ty_imaginary W0 x n ks fun p hp => (ih p hp).fl
  by_cases h11 : k = ⟨#[70, 117, 110, 99, 116, 105, 111, 110, 84, 121, 112, 101]⟩
  · subst h11
    exact ty_functionType W0 x n ks hft
  by_cases h12 : k = ⟨#[65, 114, 114, 97, 121, 84, 121, 112, 101]⟩
  · subst h12
    exact ty_array W0 x n ks fun p hp => (ih p hp).ob
  by_cases h13 : k = ⟨#[80, 116, 114, 77, 101, 109]⟩
  · subst h13
    exact ty_ptrMem W0 x n ks (fun p hp => (ih p hp).cl) fun p hp => (ih p hp).me
  by_cases h14 : k = ⟨#[86, 101, 99, 116, 111, 114, 84, 121, 112, 101]⟩
  · subst h14
    exact ty_vector W0 x n ks fun p hp => (ih p hp).ob
  by_cases h15 : k = ⟨#[86, 101, 110, 100, 111, 114, 81, 117, 97, 108, 105, 102, 105, 101, 114]⟩
  · subst h15
    exact ty_vendor W0 x n ks (fun p hp => (ih p hp).ob) fun p hp => (ih p hp).cl
  exact ty_other W0 k x n ks h0 h1 h2 h3 h4 h5 h6 h7 h8 h9 h10 h11 h12 h13 h14 h15 _

theorem types_ok (W0 : World) (hb1 : 1 < W0.heap.size) (t : Tree) : TyOK W0 t := by
  induction hm : t.sz using Nat.strongRecOn generalizing t with
  | ind m ih =>
  obtain ⟨k, x, n, ks⟩ := t
  have K : ∀ p ∈ ks, TyOK W0 p := fun p hp => ih p.sz (by rw [← hm]; exact Tree.sz_lt (t := .node k x n ks) hp) p rfl
  have tm := isTemplate_step W0 k x n ks fun p hp => (K p hp).arg
  have un := isUnnamed_step W0 k x n ks fun p hp => (K p hp).ty
  have li := isLiteral_step W0 k x n ks (fun p hp => (K p hp).cl) fun p hp => (K p hp).ty
  have cl := isClass_step W0 (.node k x n ks) (fun p hp => (K p hp).cl) (fun p hp => (K p hp).un) tm
  have ft := isFunctionType_step W0 (.node k x n ks) (fun p hp => (K p hp).re) (fun p hp => (K p hp).ty)
  have ty := isType_step W0 k x n ks K cl ft
  have ob := isObject_step W0 _ ty
  exact ⟨ty, cl, un, isArg_step W0 _ (fun p hp => (K p hp).arg) li ty, ft, ob, isFloating_step W0 _ ty, isQualified_step W0 _ ty, isReturn_step W0 hb1 _ ty, isMember_step W0 _ ft (fun p hp => (K p hp).ft) ob, tm⟩

end Go.Proofs.YtnhccgbkalpcnaaGreatDoor
