/- impl.treeOf: what it makes of each kind. -/
import Derived.Test.YtnhccgbkalpcnaaGreatDoorKids
import Derived.Deep.RegionWith
namespace Go.Proofs.YtnhccgbkalpcnaaGreatDoor
open Go.RowKit

set_option maxRecDepth 100000 in
set_option maxHeartbeats 2000000 in
theorem treeOf_name (W0 : World) (s : ByteArray) : MakesRep W0 21 (.node ⟨#[78, 97, 109, 101]⟩ s 0 []) := by
  intro v hv w hw
  obtain ⟨a', c', rfl, _⟩ := hv.shut
  have S0 := Lib.hid ((St.start hw (.string ⟨#[78, 97, 109, 101]⟩) (.string s) (.int .i64 0) (.slice a' ([] : List Tree).length c')).on (Below.refl _ _).drew)
  have S0' := Lib.hid (St.start hw (.string ⟨#[78, 97, 109, 101]⟩) (.string s) (.int .i64 0) (.slice a' ([] : List Tree).length c'))
  clear hv hw 
  go_enter Tryz.func21, Tryz.ntmps21
  go_wp2_with fail
  go_ret
  exact ⟨_, rfl, by simpa using made_name (S0'.out.below.size) s, by simpa using (S0'.out.below).alloc (S0'.out.below.size) _⟩

set_option maxRecDepth 100000 in
set_option maxHeartbeats 2000000 in
theorem treeOf_builtinType (W0 : World) (s : ByteArray) : MakesRep W0 21 (.node ⟨#[66, 117, 105, 108, 116, 105, 110, 84, 121, 112, 101]⟩ s 0 []) := by
  intro v hv w hw
  obtain ⟨a', c', rfl, _⟩ := hv.shut
  have S0 := Lib.hid ((St.start hw (.string ⟨#[66, 117, 105, 108, 116, 105, 110, 84, 121, 112, 101]⟩) (.string s) (.int .i64 0) (.slice a' ([] : List Tree).length c')).on (Below.refl _ _).drew)
  have S0' := Lib.hid (St.start hw (.string ⟨#[66, 117, 105, 108, 116, 105, 110, 84, 121, 112, 101]⟩) (.string s) (.int .i64 0) (.slice a' ([] : List Tree).length c'))
  clear hv hw 
  go_enter Tryz.func21, Tryz.ntmps21
  go_wp2_with fail
  go_ret
  exact ⟨_, rfl, by simpa using made_builtinType (S0'.out.below.size) s, by simpa using (S0'.out.below).alloc (S0'.out.below.size) _⟩

set_option maxRecDepth 100000 in
set_option maxHeartbeats 2000000 in
theorem treeOf_operator (W0 : World) (s : ByteArray) : MakesRep W0 21 (.node ⟨#[79, 112, 101, 114, 97, 116, 111, 114]⟩ s 0 []) := by
  intro v hv w hw
  obtain ⟨a', c', rfl, _⟩ := hv.shut
  have S0 := Lib.hid ((St.start hw (.string ⟨#[79, 112, 101, 114, 97, 116, 111, 114]⟩) (.string s) (.int .i64 0) (.slice a' ([] : List Tree).length c')).on (Below.refl _ _).drew)
  have S0' := Lib.hid (St.start hw (.string ⟨#[79, 112, 101, 114, 97, 116, 111, 114]⟩) (.string s) (.int .i64 0) (.slice a' ([] : List Tree).length c'))
  clear hv hw 
  go_enter Tryz.func21, Tryz.ntmps21
  go_wp2_with fail
  go_ret
  exact ⟨_, rfl, by simpa using made_operator (S0'.out.below.size) s, by simpa using (S0'.out.below).alloc (S0'.out.below.size) _⟩

set_option maxRecDepth 100000 in
set_option maxHeartbeats 2000000 in
theorem treeOf_constructor (W0 : World) {a : Tree} (ha : MakesRep W0 21 a) : MakesRep W0 21 (.node ⟨#[67, 111, 110, 115, 116, 114, 117, 99, 116, 111, 114]⟩ ⟨#[]⟩ 0 [a]) := by
  intro v hv w hw
  have K0 := Lib.hid (fun W hW => kid_ok (W0 := W0) (t := (.node ⟨#[67, 111, 110, 115, 116, 114, 117, 99, 116, 111, 114]⟩ ⟨#[]⟩ 0 [a])) (i := 0) rfl (lowers_rep a) ha _ hv W hW)
  obtain ⟨a', c', rfl, _⟩ := hv.shut
  have S0 := Lib.hid ((St.start hw (.string ⟨#[67, 111, 110, 115, 116, 114, 117, 99, 116, 111, 114]⟩) (.string ⟨#[]⟩) (.int .i64 0) (.slice a' [a].length c')).on (Below.refl _ _).drew)
  have S0' := Lib.hid (St.start hw (.string ⟨#[67, 111, 110, 115, 116, 114, 117, 99, 116, 111, 114]⟩) (.string ⟨#[]⟩) (.int .i64 0) (.slice a' [a].length c'))
  clear hv hw ha
  go_enter Tryz.func21, Tryz.ntmps21
  go_wp2_with fail
  refine (K0.out _ S0'.out.later).mono ?_
  rintro e w1 ⟨u, rfl, r, b⟩
  obtain ⟨Tu, qu, rfl, _⟩ := Rep.form r
  have R0 := Lib.hid (r.from (show w.heap.size ≤ _ from S0'.out.below.size))
  have S1 := Lib.hid (S0'.out.on b)
  clear r b K0
  go_wp2_with fail
  go_ret
  exact ⟨_, rfl, made_constructor (S1.out.below.size) R0.out, (S1.out.below).alloc (S1.out.below.size) _⟩

set_option maxRecDepth 100000 in
set_option maxHeartbeats 2000000 in
theorem treeOf_destructor (W0 : World) {a : Tree} (ha : MakesRep W0 21 a) : MakesRep W0 21 (.node ⟨#[68, 101, 115, 116, 114, 117, 99, 116, 111, 114]⟩ ⟨#[]⟩ 0 [a]) := by
  intro v hv w hw
  have K0 := Lib.hid (fun W hW => kid_ok (W0 := W0) (t := (.node ⟨#[68, 101, 115, 116, 114, 117, 99, 116, 111, 114]⟩ ⟨#[]⟩ 0 [a])) (i := 0) rfl (lowers_rep a) ha _ hv W hW)
  obtain ⟨a', c', rfl, _⟩ := hv.shut
  have S0 := Lib.hid ((St.start hw (.string ⟨#[68, 101, 115, 116, 114, 117, 99, 116, 111, 114]⟩) (.string ⟨#[]⟩) (.int .i64 0) (.slice a' [a].length c')).on (Below.refl _ _).drew)
  have S0' := Lib.hid (St.start hw (.string ⟨#[68, 101, 115, 116, 114, 117, 99, 116, 111, 114]⟩) (.string ⟨#[]⟩) (.int .i64 0) (.slice a' [a].length c'))
  clear hv hw ha
  go_enter Tryz.func21, Tryz.ntmps21
  go_wp2_with fail
  refine (K0.out _ S0'.out.later).mono ?_
  rintro e w1 ⟨u, rfl, r, b⟩
  obtain ⟨Tu, qu, rfl, _⟩ := Rep.form r
  have R0 := Lib.hid (r.from (show w.heap.size ≤ _ from S0'.out.below.size))
  have S1 := Lib.hid (S0'.out.on b)
  clear r b K0
  go_wp2_with fail
  go_ret
  exact ⟨_, rfl, made_destructor (S1.out.below.size) R0.out, (S1.out.below).alloc (S1.out.below.size) _⟩

set_option maxRecDepth 100000 in
set_option maxHeartbeats 2000000 in
theorem treeOf_pointerType (W0 : World) {a : Tree} (ha : MakesRep W0 21 a) : MakesRep W0 21 (.node ⟨#[80, 111, 105, 110, 116, 101, 114, 84, 121, 112, 101]⟩ ⟨#[]⟩ 0 [a]) := by
  intro v hv w hw
  have K0 := Lib.hid (fun W hW => kid_ok (W0 := W0) (t := (.node ⟨#[80, 111, 105, 110, 116, 101, 114, 84, 121, 112, 101]⟩ ⟨#[]⟩ 0 [a])) (i := 0) rfl (lowers_rep a) ha _ hv W hW)
  obtain ⟨a', c', rfl, _⟩ := hv.shut
  have S0 := Lib.hid ((St.start hw (.string ⟨#[80, 111, 105, 110, 116, 101, 114, 84, 121, 112, 101]⟩) (.string ⟨#[]⟩) (.int .i64 0) (.slice a' [a].length c')).on (Below.refl _ _).drew)
  have S0' := Lib.hid (St.start hw (.string ⟨#[80, 111, 105, 110, 116, 101, 114, 84, 121, 112, 101]⟩) (.string ⟨#[]⟩) (.int .i64 0) (.slice a' [a].length c'))
  clear hv hw ha
  go_enter Tryz.func21, Tryz.ntmps21
  go_wp2_with fail
  refine (K0.out _ S0'.out.later).mono ?_
  rintro e w1 ⟨u, rfl, r, b⟩
  obtain ⟨Tu, qu, rfl, _⟩ := Rep.form r
  have R0 := Lib.hid (r.from (show w.heap.size ≤ _ from S0'.out.below.size))
  have S1 := Lib.hid (S0'.out.on b)
  clear r b K0
  go_wp2_with fail
  go_ret
  exact ⟨_, rfl, made_pointerType (S1.out.below.size) R0.out, (S1.out.below).alloc (S1.out.below.size) _⟩

set_option maxRecDepth 100000 in
set_option maxHeartbeats 2000000 in
theorem treeOf_referenceType (W0 : World) {a : Tree} (ha : MakesRep W0 21 a) : MakesRep W0 21 (.node ⟨#[82, 101, 102, 101, 114, 101, 110, 99, 101, 84, 121, 112, 101]⟩ ⟨#[]⟩ 0 [a]) := by
  intro v hv w hw
  have K0 := Lib.hid (fun W hW => kid_ok (W0 := W0) (t := (.node ⟨#[82, 101, 102, 101, 114, 101, 110, 99, 101, 84, 121, 112, 101]⟩ ⟨#[]⟩ 0 [a])) (i := 0) rfl (lowers_rep a) ha _ hv W hW)
  obtain ⟨a', c', rfl, _⟩ := hv.shut
  have S0 := Lib.hid ((St.start hw (.string ⟨#[82, 101, 102, 101, 114, 101, 110, 99, 101, 84, 121, 112, 101]⟩) (.string ⟨#[]⟩) (.int .i64 0) (.slice a' [a].length c')).on (Below.refl _ _).drew)
  have S0' := Lib.hid (St.start hw (.string ⟨#[82, 101, 102, 101, 114, 101, 110, 99, 101, 84, 121, 112, 101]⟩) (.string ⟨#[]⟩) (.int .i64 0) (.slice a' [a].length c'))
  clear hv hw ha
  go_enter Tryz.func21, Tryz.ntmps21
  go_wp2_with fail
  refine (K0.out _ S0'.out.later).mono ?_
  rintro e w1 ⟨u, rfl, r, b⟩
  obtain ⟨Tu, qu, rfl, _⟩ := Rep.form r
  have R0 := Lib.hid (r.from (show w.heap.size ≤ _ from S0'.out.below.size))
  have S1 := Lib.hid (S0'.out.on b)
  clear r b K0
  go_wp2_with fail
  go_ret
  exact ⟨_, rfl, made_referenceType (S1.out.below.size) R0.out, (S1.out.below).alloc (S1.out.below.size) _⟩

set_option maxRecDepth 100000 in
set_option maxHeartbeats 2000000 in
theorem treeOf_rvalueReferenceType (W0 : World) {a : Tree} (ha : MakesRep W0 21 a) : MakesRep W0 21 (.node ⟨#[82, 118, 97, 108, 117, 101, 82, 101, 102, 101, 114, 101, 110, 99, 101, 84, 121, 112, 101]⟩ ⟨#[]⟩ 0 [a]) := by
  intro v hv w hw
  have K0 := Lib.hid (fun W hW => kid_ok (W0 := W0) (t := (.node ⟨#[82, 118, 97, 108, 117, 101, 82, 101, 102, 101, 114, 101, 110, 99, 101, 84, 121, 112, 101]⟩ ⟨#[]⟩ 0 [a])) (i := 0) rfl (lowers_rep a) ha _ hv W hW)
  obtain ⟨a', c', rfl, _⟩ := hv.shut
  have S0 := Lib.hid ((St.start hw (.string ⟨#[82, 118, 97, 108, 117, 101, 82, 101, 102, 101, 114, 101, 110, 99, 101, 84, 121, 112, 101]⟩) (.string ⟨#[]⟩) (.int .i64 0) (.slice a' [a].length c')).on (Below.refl _ _).drew)
  have S0' := Lib.hid (St.start hw (.string ⟨#[82, 118, 97, 108, 117, 101, 82, 101, 102, 101, 114, 101, 110, 99, 101, 84, 121, 112, 101]⟩) (.string ⟨#[]⟩) (.int .i64 0) (.slice a' [a].length c'))
  clear hv hw ha
  go_enter Tryz.func21, Tryz.ntmps21
  go_wp2_with fail
  refine (K0.out _ S0'.out.later).mono ?_
  rintro e w1 ⟨u, rfl, r, b⟩
  obtain ⟨Tu, qu, rfl, _⟩ := Rep.form r
  have R0 := Lib.hid (r.from (show w.heap.size ≤ _ from S0'.out.below.size))
  have S1 := Lib.hid (S0'.out.on b)
  clear r b K0
  go_wp2_with fail
  go_ret
  exact ⟨_, rfl, made_rvalueReferenceType (S1.out.below.size) R0.out, (S1.out.below).alloc (S1.out.below.size) _⟩

set_option maxRecDepth 100000 in
set_option maxHeartbeats 2000000 in
theorem treeOf_complexType (W0 : World) {a : Tree} (ha : MakesRep W0 21 a) : MakesRep W0 21 (.node ⟨#[67, 111, 109, 112, 108, 101, 120, 84, 121, 112, 101]⟩ ⟨#[]⟩ 0 [a]) := by
  intro v hv w hw
  have K0 := Lib.hid (fun W hW => kid_ok (W0 := W0) (t := (.node ⟨#[67, 111, 109, 112, 108, 101, 120, 84, 121, 112, 101]⟩ ⟨#[]⟩ 0 [a])) (i := 0) rfl (lowers_rep a) ha _ hv W hW)
  obtain ⟨a', c', rfl, _⟩ := hv.shut
  have S0 := Lib.hid ((St.start hw (.string ⟨#[67, 111, 109, 112, 108, 101, 120, 84, 121, 112, 101]⟩) (.string ⟨#[]⟩) (.int .i64 0) (.slice a' [a].length c')).on (Below.refl _ _).drew)
  have S0' := Lib.hid (St.start hw (.string ⟨#[67, 111, 109, 112, 108, 101, 120, 84, 121, 112, 101]⟩) (.string ⟨#[]⟩) (.int .i64 0) (.slice a' [a].length c'))
  clear hv hw ha
  go_enter Tryz.func21, Tryz.ntmps21
  go_wp2_with fail
  refine (K0.out _ S0'.out.later).mono ?_
  rintro e w1 ⟨u, rfl, r, b⟩
  obtain ⟨Tu, qu, rfl, _⟩ := Rep.form r
  have R0 := Lib.hid (r.from (show w.heap.size ≤ _ from S0'.out.below.size))
  have S1 := Lib.hid (S0'.out.on b)
  clear r b K0
  go_wp2_with fail
  go_ret
  exact ⟨_, rfl, made_complexType (S1.out.below.size) R0.out, (S1.out.below).alloc (S1.out.below.size) _⟩

set_option maxRecDepth 100000 in
set_option maxHeartbeats 2000000 in
theorem treeOf_imaginaryType (W0 : World) {a : Tree} (ha : MakesRep W0 21 a) : MakesRep W0 21 (.node ⟨#[73, 109, 97, 103, 105, 110, 97, 114, 121, 84, 121, 112, 101]⟩ ⟨#[]⟩ 0 [a]) := by
  intro v hv w hw
  have K0 := Lib.hid (fun W hW => kid_ok (W0 := W0) (t := (.node ⟨#[73, 109, 97, 103, 105, 110, 97, 114, 121, 84, 121, 112, 101]⟩ ⟨#[]⟩ 0 [a])) (i := 0) rfl (lowers_rep a) ha _ hv W hW)
  obtain ⟨a', c', rfl, _⟩ := hv.shut
  have S0 := Lib.hid ((St.start hw (.string ⟨#[73, 109, 97, 103, 105, 110, 97, 114, 121, 84, 121, 112, 101]⟩) (.string ⟨#[]⟩) (.int .i64 0) (.slice a' [a].length c')).on (Below.refl _ _).drew)
  have S0' := Lib.hid (St.start hw (.string ⟨#[73, 109, 97, 103, 105, 110, 97, 114, 121, 84, 121, 112, 101]⟩) (.string ⟨#[]⟩) (.int .i64 0) (.slice a' [a].length c'))
  clear hv hw ha
  go_enter Tryz.func21, Tryz.ntmps21
  go_wp2_with fail
  refine (K0.out _ S0'.out.later).mono ?_
  rintro e w1 ⟨u, rfl, r, b⟩
  obtain ⟨Tu, qu, rfl, _⟩ := Rep.form r
  have R0 := Lib.hid (r.from (show w.heap.size ≤ _ from S0'.out.below.size))
  have S1 := Lib.hid (S0'.out.on b)
  clear r b K0
  go_wp2_with fail
  go_ret
  exact ⟨_, rfl, made_imaginaryType (S1.out.below.size) R0.out, (S1.out.below).alloc (S1.out.below.size) _⟩

end Go.Proofs.YtnhccgbkalpcnaaGreatDoor
