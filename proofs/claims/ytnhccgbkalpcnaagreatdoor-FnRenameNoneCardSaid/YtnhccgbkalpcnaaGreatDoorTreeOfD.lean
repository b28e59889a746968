/- impl.treeOf: what it makes of each kind. -/
import Derived.Test.YtnhccgbkalpcnaaGreatDoorKids
import Derived.Deep.RegionWith
namespace Go.Proofs.YtnhccgbkalpcnaaGreatDoor
open Go.RowKit

set_option maxRecDepth 100000 in
set_option maxHeartbeats 2000000 in
theorem treeOf_methodWithQualifiers (W0 : World) (s : ByteArray) {a : Tree} (ha : MakesRep W0 21 a) {q : Tree} (hq : Makes W0 21 q fun B w u => RepQM B w q u) : MakesRep W0 21 (.node ⟨#[77, 101, 116, 104, 111, 100, 87, 105, 116, 104, 81, 117, 97, 108, 105, 102, 105, 101, 114, 115]⟩ s 0 [a, q]) := by
  intro v hv w hw
  have K0 := Lib.hid (fun W hW => kid_ok (W0 := W0) (t := (.node ⟨#[77, 101, 116, 104, 111, 100, 87, 105, 116, 104, 81, 117, 97, 108, 105, 102, 105, 101, 114, 115]⟩ s 0 [a, q])) (i := 0) rfl (lowers_rep a) ha _ hv W hW)
  have K1 := Lib.hid (fun W hW => kid_ok (W0 := W0) (t := (.node ⟨#[77, 101, 116, 104, 111, 100, 87, 105, 116, 104, 81, 117, 97, 108, 105, 102, 105, 101, 114, 115]⟩ s 0 [a, q])) (i := 1) rfl (lowers_quals q) hq _ hv W hW)
  obtain ⟨a', c', rfl, _⟩ := hv.shut
  have S0 := Lib.hid ((St.start hw (.string ⟨#[77, 101, 116, 104, 111, 100, 87, 105, 116, 104, 81, 117, 97, 108, 105, 102, 105, 101, 114, 115]⟩) (.string s) (.int .i64 0) (.slice a' [a, q].length c')).on (Below.refl _ _).drew)
  have S0' := Lib.hid (St.start hw (.string ⟨#[77, 101, 116, 104, 111, 100, 87, 105, 116, 104, 81, 117, 97, 108, 105, 102, 105, 101, 114, 115]⟩) (.string s) (.int .i64 0) (.slice a' [a, q].length c'))
  clear hv hw ha hq
  go_enter Tryz.func21, Tryz.ntmps21
  go_wp2_with fail
  go_region_with (first
    | (go_at_call_of 41 (Value.int IntKind.i64 1); refine (K1.out _ S1.out.later).mono ?_; rintro e w2 ⟨y, rfl, r, b⟩; obtain ⟨qy, rfl⟩ := RepQM.form r; have R1 := Lib.hid (r.from (show w.heap.size ≤ _ from S1.out.below.size)); have R0 := Lib.hid (R0.out.on b); have S2 := Lib.hid (S1.out.on b); clear x0 x1 x2 x3; obtain ⟨x0, x1, x2, x3⟩ := S2.out.box; clear b K1 r)
    | (go_at_call_of 41 (Value.int IntKind.i64 0); refine (K0.out _ S0.out.later).mono ?_; rintro e w1 ⟨u, rfl, r, b⟩; obtain ⟨Tu, qu, rfl, _⟩ := Rep.form r; have R0 := Lib.hid (r.from (show w.heap.size ≤ _ from S0.out.below.size)); have S1 := Lib.hid (S0.out.on b); obtain ⟨x0, x1, x2, x3⟩ := S1.out.box; clear b K0 r)
    )
  all_goals (go_wp2_with fail; go_ret; exact ⟨_, rfl, made_methodWithQualifiers (S2.out.below.size) s R0.out R1.out, (S2.out.below).alloc (S2.out.below.size) _⟩)

set_option maxRecDepth 100000 in
set_option maxHeartbeats 2000000 in
theorem treeOf_methodNil (W0 : World) (s : ByteArray) {a : Tree} (ha : MakesRep W0 21 a) (hz : Makes W0 21 nilT fun _ _ u => u = .nilIface) : MakesRep W0 21 (.node ⟨#[77, 101, 116, 104, 111, 100, 87, 105, 116, 104, 81, 117, 97, 108, 105, 102, 105, 101, 114, 115]⟩ s 0 [a, nilT]) := by
  intro v hv w hw
  have K0 := Lib.hid (fun W hW => kid_ok (W0 := W0) (t := (.node ⟨#[77, 101, 116, 104, 111, 100, 87, 105, 116, 104, 81, 117, 97, 108, 105, 102, 105, 101, 114, 115]⟩ s 0 [a, nilT])) (i := 0) rfl (lowers_rep a) ha _ hv W hW)
  have K1 := Lib.hid (fun W hW => kid_ok (W0 := W0) (t := (.node ⟨#[77, 101, 116, 104, 111, 100, 87, 105, 116, 104, 81, 117, 97, 108, 105, 102, 105, 101, 114, 115]⟩ s 0 [a, nilT])) (i := 1) rfl (lowers_nil) hz _ hv W hW)
  obtain ⟨a', c', rfl, _⟩ := hv.shut
  have S0 := Lib.hid ((St.start hw (.string ⟨#[77, 101, 116, 104, 111, 100, 87, 105, 116, 104, 81, 117, 97, 108, 105, 102, 105, 101, 114, 115]⟩) (.string s) (.int .i64 0) (.slice a' [a, nilT].length c')).on (Below.refl _ _).drew)
  have S0' := Lib.hid (St.start hw (.string ⟨#[77, 101, 116, 104, 111, 100, 87, 105, 116, 104, 81, 117, 97, 108, 105, 102, 105, 101, 114, 115]⟩) (.string s) (.int .i64 0) (.slice a' [a, nilT].length c'))
  clear hv hw ha hz
  go_enter Tryz.func21, Tryz.ntmps21
  go_wp2_with fail
  go_region_with (first
    | (go_at_call_of 41 (Value.int IntKind.i64 1); refine (K1.out _ S1.out.later).mono ?_; rintro e w2 ⟨z, rfl, r, b⟩; subst r; have R0 := Lib.hid (R0.out.on b); have S2 := Lib.hid (S1.out.on b); clear x0 x1 x2 x3; obtain ⟨x0, x1, x2, x3⟩ := S2.out.box; clear b K1)
    | (go_at_call_of 41 (Value.int IntKind.i64 0); refine (K0.out _ S0.out.later).mono ?_; rintro e w1 ⟨u, rfl, r, b⟩; obtain ⟨Tu, qu, rfl, _⟩ := Rep.form r; have R0 := Lib.hid (r.from (show w.heap.size ≤ _ from S0.out.below.size)); have S1 := Lib.hid (S0.out.on b); obtain ⟨x0, x1, x2, x3⟩ := S1.out.box; clear b K0 r)
    )
  all_goals (go_wp2_with fail; go_ret; exact ⟨_, rfl, made_methodNil (S2.out.below.size) s R0.out, (S2.out.below).alloc (S2.out.below.size) _⟩)

end Go.Proofs.YtnhccgbkalpcnaaGreatDoor
