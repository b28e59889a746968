/- impl.treeOf: what it makes of each kind. -/
import Derived.Test.YtnhccgbkalpcnaaGreatDoorKids
import Derived.Deep.RegionWith
namespace Go.Proofs.YtnhccgbkalpcnaaGreatDoor
open Go.RowKit

set_option maxRecDepth 100000 in
set_option maxHeartbeats 2000000 in
theorem treeOf_functionType (W0 : World) {a : Tree} (ha : MakesRep W0 21 a) {l : List Tree} (hl : ∀ p ∈ l, MakesRep W0 21 p) (hm : l.length ≤ 900) : MakesRep W0 21 (.node ⟨#[70, 117, 110, 99, 116, 105, 111, 110, 84, 121, 112, 101]⟩ ⟨#[]⟩ 0 (a :: l)) := by
  intro v hv w hw
  have K0 := Lib.hid (fun W hW => kid_ok (W0 := W0) (t := (.node ⟨#[70, 117, 110, 99, 116, 105, 111, 110, 84, 121, 112, 101]⟩ ⟨#[]⟩ 0 (a :: l))) (i := 0) rfl (lowers_rep a) ha _ hv W hW)
  have K1 := Lib.hid (fun W hW => kids_ok (W0 := W0) (t := (.node ⟨#[70, 117, 110, 99, 116, 105, 111, 110, 84, 121, 112, 101]⟩ ⟨#[]⟩ 0 (a :: l))) 1 (by simp [Tree.kids]) (by simp only [Tree.kids, List.length_cons]; omega) hl _ hv W hW)
  obtain ⟨a', c', rfl, _⟩ := hv.shut
  have S0 := Lib.hid ((St.start hw (.string ⟨#[70, 117, 110, 99, 116, 105, 111, 110, 84, 121, 112, 101]⟩) (.string ⟨#[]⟩) (.int .i64 0) (.slice a' (a :: l).length c')).on (Below.refl _ _).drew)
  have S0' := Lib.hid (St.start hw (.string ⟨#[70, 117, 110, 99, 116, 105, 111, 110, 84, 121, 112, 101]⟩) (.string ⟨#[]⟩) (.int .i64 0) (.slice a' (a :: l).length c'))
  clear hv hw ha hl
  go_enter Tryz.func21, Tryz.ntmps21
  go_wp2_with fail
  go_region_with (first
    | (go_at_call_of 42 (Value.int IntKind.i64 1); refine (K1.out _ S1.out.later).mono ?_; rintro e w2 ⟨sv, rfl, r, b⟩; obtain ⟨sa, sn, sc, rfl⟩ := RepL.form r; have R1 := Lib.hid (r.from (show w.heap.size ≤ _ from S1.out.below.size)); have R0 := Lib.hid (R0.out.on b); have S2 := Lib.hid (S1.out.on b); clear x0 x1 x2 x3; obtain ⟨x0, x1, x2, x3⟩ := S2.out.box; clear b K1 r)
    | (go_at_call_of 41 (Value.int IntKind.i64 0); refine (K0.out _ S0.out.later).mono ?_; rintro e w1 ⟨u, rfl, r, b⟩; obtain ⟨Tu, qu, rfl, _⟩ := Rep.form r; have R0 := Lib.hid (r.from (show w.heap.size ≤ _ from S0.out.below.size)); have S1 := Lib.hid (S0.out.on b); obtain ⟨x0, x1, x2, x3⟩ := S1.out.box; clear b K0 r)
    )
  all_goals (go_wp2_with fail; go_ret; exact ⟨_, rfl, made_functionType (S2.out.below.size) R0.out R1.out, (S2.out.below).alloc (S2.out.below.size) _⟩)

set_option maxRecDepth 100000 in
set_option maxHeartbeats 2000000 in
theorem treeOf_functionNil (W0 : World) (hz : Makes W0 21 nilT fun _ _ u => u = .nilIface) {l : List Tree} (hl : ∀ p ∈ l, MakesRep W0 21 p) (hm : l.length ≤ 900) : MakesRep W0 21 (.node ⟨#[70, 117, 110, 99, 116, 105, 111, 110, 84, 121, 112, 101]⟩ ⟨#[]⟩ 0 (nilT :: l)) := by
  intro v hv w hw
  have K0 := Lib.hid (fun W hW => kid_ok (W0 := W0) (t := (.node ⟨#[70, 117, 110, 99, 116, 105, 111, 110, 84, 121, 112, 101]⟩ ⟨#[]⟩ 0 (nilT :: l))) (i := 0) rfl (lowers_nil) hz _ hv W hW)
  have K1 := Lib.hid (fun W hW => kids_ok (W0 := W0) (t := (.node ⟨#[70, 117, 110, 99, 116, 105, 111, 110, 84, 121, 112, 101]⟩ ⟨#[]⟩ 0 (nilT :: l))) 1 (by simp [Tree.kids]) (by simp only [Tree.kids, List.length_cons]; omega) hl _ hv W hW)
  obtain ⟨a', c', rfl, _⟩ := hv.shut
  have S0 := Lib.hid ((St.start hw (.string ⟨#[70, 117, 110, 99, 116, 105, 111, 110, 84, 121, 112, 101]⟩) (.string ⟨#[]⟩) (.int .i64 0) (.slice a' (nilT :: l).length c')).on (Below.refl _ _).drew)
  have S0' := Lib.hid (St.start hw (.string ⟨#[70, 117, 110, 99, 116, 105, 111, 110, 84, 121, 112, 101]⟩) (.string ⟨#[]⟩) (.int .i64 0) (.slice a' (nilT :: l).length c'))
  clear hv hw hz hl
  go_enter Tryz.func21, Tryz.ntmps21
  go_wp2_with fail
  go_region_with (first
    | (go_at_call_of 42 (Value.int IntKind.i64 1); refine (K1.out _ S1.out.later).mono ?_; rintro e w2 ⟨sv, rfl, r, b⟩; obtain ⟨sa, sn, sc, rfl⟩ := RepL.form r; have R1 := Lib.hid (r.from (show w.heap.size ≤ _ from S1.out.below.size)); have S2 := Lib.hid (S1.out.on b); clear x0 x1 x2 x3; obtain ⟨x0, x1, x2, x3⟩ := S2.out.box; clear b K1 r)
    | (go_at_call_of 41 (Value.int IntKind.i64 0); refine (K0.out _ S0.out.later).mono ?_; rintro e w1 ⟨z, rfl, r, b⟩; subst r; have S1 := Lib.hid (S0.out.on b); obtain ⟨x0, x1, x2, x3⟩ := S1.out.box; clear b K0)
    )
  all_goals (go_wp2_with fail; go_ret; exact ⟨_, rfl, made_functionNil (S2.out.below.size) R1.out, (S2.out.below).alloc (S2.out.below.size) _⟩)

set_option maxRecDepth 100000 in
set_option maxHeartbeats 2000000 in
theorem treeOf_typeWithQualifiers (W0 : World) {a : Tree} (ha : MakesRep W0 21 a) {q : Tree} (hq : Makes W0 21 q fun B w u => RepQM B w q u) : MakesRep W0 21 (.node ⟨#[84, 121, 112, 101, 87, 105, 116, 104, 81, 117, 97, 108, 105, 102, 105, 101, 114, 115]⟩ ⟨#[]⟩ 0 [a, q]) := by
  intro v hv w hw
  have K0 := Lib.hid (fun W hW => kid_ok (W0 := W0) (t := (.node ⟨#[84, 121, 112, 101, 87, 105, 116, 104, 81, 117, 97, 108, 105, 102, 105, 101, 114, 115]⟩ ⟨#[]⟩ 0 [a, q])) (i := 0) rfl (lowers_rep a) ha _ hv W hW)
  have K1 := Lib.hid (fun W hW => kid_ok (W0 := W0) (t := (.node ⟨#[84, 121, 112, 101, 87, 105, 116, 104, 81, 117, 97, 108, 105, 102, 105, 101, 114, 115]⟩ ⟨#[]⟩ 0 [a, q])) (i := 1) rfl (lowers_quals q) hq _ hv W hW)
  obtain ⟨a', c', rfl, _⟩ := hv.shut
  have S0 := Lib.hid ((St.start hw (.string ⟨#[84, 121, 112, 101, 87, 105, 116, 104, 81, 117, 97, 108, 105, 102, 105, 101, 114, 115]⟩) (.string ⟨#[]⟩) (.int .i64 0) (.slice a' [a, q].length c')).on (Below.refl _ _).drew)
  have S0' := Lib.hid (St.start hw (.string ⟨#[84, 121, 112, 101, 87, 105, 116, 104, 81, 117, 97, 108, 105, 102, 105, 101, 114, 115]⟩) (.string ⟨#[]⟩) (.int .i64 0) (.slice a' [a, q].length c'))
  clear hv hw ha hq
  go_enter Tryz.func21, Tryz.ntmps21
  go_wp2_with fail
  go_region_with (first
    | (go_at_call_of 41 (Value.int IntKind.i64 1); refine (K1.out _ S1.out.later).mono ?_; rintro e w2 ⟨y, rfl, r, b⟩; obtain ⟨qy, rfl⟩ := RepQM.form r; have R1 := Lib.hid (r.from (show w.heap.size ≤ _ from S1.out.below.size)); have R0 := Lib.hid (R0.out.on b); have S2 := Lib.hid (S1.out.on b); clear x0 x1 x2 x3; obtain ⟨x0, x1, x2, x3⟩ := S2.out.box; clear b K1 r)
    | (go_at_call_of 41 (Value.int IntKind.i64 0); refine (K0.out _ S0.out.later).mono ?_; rintro e w1 ⟨u, rfl, r, b⟩; obtain ⟨Tu, qu, rfl, _⟩ := Rep.form r; have R0 := Lib.hid (r.from (show w.heap.size ≤ _ from S0.out.below.size)); have S1 := Lib.hid (S0.out.on b); obtain ⟨x0, x1, x2, x3⟩ := S1.out.box; clear b K0 r)
    )
  all_goals (go_wp2_with fail; go_ret; exact ⟨_, rfl, made_typeWithQualifiers (S2.out.below.size) R0.out R1.out, (S2.out.below).alloc (S2.out.below.size) _⟩)

end Go.Proofs.YtnhccgbkalpcnaaGreatDoor
