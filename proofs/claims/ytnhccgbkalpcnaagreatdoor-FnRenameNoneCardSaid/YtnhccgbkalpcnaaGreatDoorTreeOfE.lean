/- impl.treeOfMore: what it makes of each kind. -/
import Derived.Test.YtnhccgbkalpcnaaGreatDoorKids
import Derived.Deep.RegionWith
namespace Go.Proofs.YtnhccgbkalpcnaaGreatDoor
open Go.RowKit

set_option maxRecDepth 100000 in
set_option maxHeartbeats 2000000 in
theorem treeOfMore_arrayType (W0 : World) {a : Tree} (ha : MakesRep W0 21 a) {c : Tree} (hc : MakesRep W0 21 c) : MakesRep W0 43 (.node ⟨#[65, 114, 114, 97, 121, 84, 121, 112, 101]⟩ ⟨#[]⟩ 0 [a, c]) := by
  intro v hv w hw
  have K0 := Lib.hid (fun W hW => kid_ok (W0 := W0) (t := (.node ⟨#[65, 114, 114, 97, 121, 84, 121, 112, 101]⟩ ⟨#[]⟩ 0 [a, c])) (i := 0) rfl (lowers_rep a) ha _ hv W hW)
  have K1 := Lib.hid (fun W hW => kid_ok (W0 := W0) (t := (.node ⟨#[65, 114, 114, 97, 121, 84, 121, 112, 101]⟩ ⟨#[]⟩ 0 [a, c])) (i := 1) rfl (lowers_rep c) hc _ hv W hW)
  obtain ⟨a', c', rfl, _⟩ := hv.shut
  have S0 := Lib.hid ((St.start hw (.string ⟨#[65, 114, 114, 97, 121, 84, 121, 112, 101]⟩) (.string ⟨#[]⟩) (.int .i64 0) (.slice a' [a, c].length c')).on (Below.refl _ _).drew)
  have S0' := Lib.hid (St.start hw (.string ⟨#[65, 114, 114, 97, 121, 84, 121, 112, 101]⟩) (.string ⟨#[]⟩) (.int .i64 0) (.slice a' [a, c].length c'))
  clear hv hw ha hc
  go_enter Tryz.func43, Tryz.ntmps43
  go_wp2_with fail
  go_region_with (first
    | (go_at_call_of 41 (Value.int IntKind.i64 1); refine (K1.out _ S1.out.later).mono ?_; rintro e w2 ⟨y, rfl, r, b⟩; obtain ⟨Ty, qy, rfl, _⟩ := Rep.form r; have R1 := Lib.hid (r.from (show w.heap.size ≤ _ from S1.out.below.size)); have R0 := Lib.hid (R0.out.on b); have S2 := Lib.hid (S1.out.on b); clear x0 x1 x2 x3; obtain ⟨x0, x1, x2, x3⟩ := S2.out.box; clear b K1 r)
    | (go_at_call_of 41 (Value.int IntKind.i64 0); refine (K0.out _ S0.out.later).mono ?_; rintro e w1 ⟨u, rfl, r, b⟩; obtain ⟨Tu, qu, rfl, _⟩ := Rep.form r; have R0 := Lib.hid (r.from (show w.heap.size ≤ _ from S0.out.below.size)); have S1 := Lib.hid (S0.out.on b); obtain ⟨x0, x1, x2, x3⟩ := S1.out.box; clear b K0 r)
    )
  all_goals (go_wp2_with fail; go_ret; exact ⟨_, rfl, made_arrayType (S2.out.below.size) R0.out R1.out, (S2.out.below).alloc (S2.out.below.size) _⟩)

set_option maxRecDepth 100000 in
set_option maxHeartbeats 2000000 in
theorem treeOfMore_vectorType (W0 : World) {a : Tree} (ha : MakesRep W0 21 a) {c : Tree} (hc : MakesRep W0 21 c) : MakesRep W0 43 (.node ⟨#[86, 101, 99, 116, 111, 114, 84, 121, 112, 101]⟩ ⟨#[]⟩ 0 [a, c]) := by
  intro v hv w hw
  have K0 := Lib.hid (fun W hW => kid_ok (W0 := W0) (t := (.node ⟨#[86, 101, 99, 116, 111, 114, 84, 121, 112, 101]⟩ ⟨#[]⟩ 0 [a, c])) (i := 0) rfl (lowers_rep a) ha _ hv W hW)
  have K1 := Lib.hid (fun W hW => kid_ok (W0 := W0) (t := (.node ⟨#[86, 101, 99, 116, 111, 114, 84, 121, 112, 101]⟩ ⟨#[]⟩ 0 [a, c])) (i := 1) rfl (lowers_rep c) hc _ hv W hW)
  obtain ⟨a', c', rfl, _⟩ := hv.shut
  have S0 := Lib.hid ((St.start hw (.string ⟨#[86, 101, 99, 116, 111, 114, 84, 121, 112, 101]⟩) (.string ⟨#[]⟩) (.int .i64 0) (.slice a' [a, c].length c')).on (Below.refl _ _).drew)
  have S0' := Lib.hid (St.start hw (.string ⟨#[86, 101, 99, 116, 111, 114, 84, 121, 112, 101]⟩) (.string ⟨#[]⟩) (.int .i64 0) (.slice a' [a, c].length c'))
  clear hv hw ha hc
  go_enter Tryz.func43, Tryz.ntmps43
  go_wp2_with fail
  go_region_with (first
    | (go_at_call_of 41 (Value.int IntKind.i64 1); refine (K1.out _ S1.out.later).mono ?_; rintro e w2 ⟨y, rfl, r, b⟩; obtain ⟨Ty, qy, rfl, _⟩ := Rep.form r; have R1 := Lib.hid (r.from (show w.heap.size ≤ _ from S1.out.below.size)); have R0 := Lib.hid (R0.out.on b); have S2 := Lib.hid (S1.out.on b); clear x0 x1 x2 x3; obtain ⟨x0, x1, x2, x3⟩ := S2.out.box; clear b K1 r)
    | (go_at_call_of 41 (Value.int IntKind.i64 0); refine (K0.out _ S0.out.later).mono ?_; rintro e w1 ⟨u, rfl, r, b⟩; obtain ⟨Tu, qu, rfl, _⟩ := Rep.form r; have R0 := Lib.hid (r.from (show w.heap.size ≤ _ from S0.out.below.size)); have S1 := Lib.hid (S0.out.on b); obtain ⟨x0, x1, x2, x3⟩ := S1.out.box; clear b K0 r)
    )
  all_goals (go_wp2_with fail; go_ret; exact ⟨_, rfl, made_vectorType (S2.out.below.size) R0.out R1.out, (S2.out.below).alloc (S2.out.below.size) _⟩)

set_option maxRecDepth 100000 in
set_option maxHeartbeats 2000000 in
theorem treeOfMore_ptrMem (W0 : World) {a : Tree} (ha : MakesRep W0 21 a) {c : Tree} (hc : MakesRep W0 21 c) : MakesRep W0 43 (.node ⟨#[80, 116, 114, 77, 101, 109]⟩ ⟨#[]⟩ 0 [a, c]) := by
  intro v hv w hw
  have K0 := Lib.hid (fun W hW => kid_ok (W0 := W0) (t := (.node ⟨#[80, 116, 114, 77, 101, 109]⟩ ⟨#[]⟩ 0 [a, c])) (i := 0) rfl (lowers_rep a) ha _ hv W hW)
  have K1 := Lib.hid (fun W hW => kid_ok (W0 := W0) (t := (.node ⟨#[80, 116, 114, 77, 101, 109]⟩ ⟨#[]⟩ 0 [a, c])) (i := 1) rfl (lowers_rep c) hc _ hv W hW)
  obtain ⟨a', c', rfl, _⟩ := hv.shut
  have S0 := Lib.hid ((St.start hw (.string ⟨#[80, 116, 114, 77, 101, 109]⟩) (.string ⟨#[]⟩) (.int .i64 0) (.slice a' [a, c].length c')).on (Below.refl _ _).drew)
  have S0' := Lib.hid (St.start hw (.string ⟨#[80, 116, 114, 77, 101, 109]⟩) (.string ⟨#[]⟩) (.int .i64 0) (.slice a' [a, c].length c'))
  clear hv hw ha hc
  go_enter Tryz.func43, Tryz.ntmps43
  go_wp2_with fail
  go_region_with (first
    | (go_at_call_of 41 (Value.int IntKind.i64 1); refine (K1.out _ S1.out.later).mono ?_; rintro e w2 ⟨y, rfl, r, b⟩; obtain ⟨Ty, qy, rfl, _⟩ := Rep.form r; have R1 := Lib.hid (r.from (show w.heap.size ≤ _ from S1.out.below.size)); have R0 := Lib.hid (R0.out.on b); have S2 := Lib.hid (S1.out.on b); clear x0 x1 x2 x3; obtain ⟨x0, x1, x2, x3⟩ := S2.out.box; clear b K1 r)
    | (go_at_call_of 41 (Value.int IntKind.i64 0); refine (K0.out _ S0.out.later).mono ?_; rintro e w1 ⟨u, rfl, r, b⟩; obtain ⟨Tu, qu, rfl, _⟩ := Rep.form r; have R0 := Lib.hid (r.from (show w.heap.size ≤ _ from S0.out.below.size)); have S1 := Lib.hid (S0.out.on b); obtain ⟨x0, x1, x2, x3⟩ := S1.out.box; clear b K0 r)
    )
  all_goals (go_wp2_with fail; go_ret; exact ⟨_, rfl, made_ptrMem (S2.out.below.size) R0.out R1.out, (S2.out.below).alloc (S2.out.below.size) _⟩)

set_option maxRecDepth 100000 in
set_option maxHeartbeats 2000000 in
theorem treeOfMore_vendorQualifier (W0 : World) {a : Tree} (ha : MakesRep W0 21 a) {c : Tree} (hc : MakesRep W0 21 c) : MakesRep W0 43 (.node ⟨#[86, 101, 110, 100, 111, 114, 81, 117, 97, 108, 105, 102, 105, 101, 114]⟩ ⟨#[]⟩ 0 [a, c]) := by
  intro v hv w hw
  have K0 := Lib.hid (fun W hW => kid_ok (W0 := W0) (t := (.node ⟨#[86, 101, 110, 100, 111, 114, 81, 117, 97, 108, 105, 102, 105, 101, 114]⟩ ⟨#[]⟩ 0 [a, c])) (i := 0) rfl (lowers_rep a) ha _ hv W hW)
  have K1 := Lib.hid (fun W hW => kid_ok (W0 := W0) (t := (.node ⟨#[86, 101, 110, 100, 111, 114, 81, 117, 97, 108, 105, 102, 105, 101, 114]⟩ ⟨#[]⟩ 0 [a, c])) (i := 1) rfl (lowers_rep c) hc _ hv W hW)
  obtain ⟨a', c', rfl, _⟩ := hv.shut
  have S0 := Lib.hid ((St.start hw (.string ⟨#[86, 101, 110, 100, 111, 114, 81, 117, 97, 108, 105, 102, 105, 101, 114]⟩) (.string ⟨#[]⟩) (.int .i64 0) (.slice a' [a, c].length c')).on (Below.refl _ _).drew)
  have S0' := Lib.hid (St.start hw (.string ⟨#[86, 101, 110, 100, 111, 114, 81, 117, 97, 108, 105, 102, 105, 101, 114]⟩) (.string ⟨#[]⟩) (.int .i64 0) (.slice a' [a, c].length c'))
  clear hv hw ha hc
  go_enter Tryz.func43, Tryz.ntmps43
  go_wp2_with fail
  go_region_with (first
    | (go_at_call_of 41 (Value.int IntKind.i64 1); refine (K1.out _ S1.out.later).mono ?_; rintro e w2 ⟨y, rfl, r, b⟩; obtain ⟨Ty, qy, rfl, _⟩ := Rep.form r; have R1 := Lib.hid (r.from (show w.heap.size ≤ _ from S1.out.below.size)); have R0 := Lib.hid (R0.out.on b); have S2 := Lib.hid (S1.out.on b); clear x0 x1 x2 x3; obtain ⟨x0, x1, x2, x3⟩ := S2.out.box; clear b K1 r)
    | (go_at_call_of 41 (Value.int IntKind.i64 0); refine (K0.out _ S0.out.later).mono ?_; rintro e w1 ⟨u, rfl, r, b⟩; obtain ⟨Tu, qu, rfl, _⟩ := Rep.form r; have R0 := Lib.hid (r.from (show w.heap.size ≤ _ from S0.out.below.size)); have S1 := Lib.hid (S0.out.on b); obtain ⟨x0, x1, x2, x3⟩ := S1.out.box; clear b K0 r)
    )
  all_goals (go_wp2_with fail; go_ret; exact ⟨_, rfl, made_vendorQualifier (S2.out.below.size) R0.out R1.out, (S2.out.below).alloc (S2.out.below.size) _⟩)

end Go.Proofs.YtnhccgbkalpcnaaGreatDoor
