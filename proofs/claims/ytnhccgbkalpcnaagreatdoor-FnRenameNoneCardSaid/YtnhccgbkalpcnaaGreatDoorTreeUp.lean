/- treeOf: the kinds that treeOfMore makes. -/
import Derived.Test.YtnhccgbkalpcnaaGreatDoorKids
namespace Go.Proofs.YtnhccgbkalpcnaaGreatDoor
open Go.RowKit

set_option maxRecDepth 100000 in
set_option maxHeartbeats 2000000 in
theorem treeOfMore_nil (W0 : World) : Makes W0 43 nilT fun _ _ u => u = .nilIface := by
  intro v hv w hw
  obtain ⟨a', c', rfl, _⟩ := hv.shut
  have S0' := Lib.hid (St.start hw (.string ⟨#[]⟩) (.string ⟨#[]⟩) (.int .i64 0) (.slice a' ([] : List Tree).length c'))
  clear hv hw
  go_enter Tryz.func43, Tryz.ntmps43
  go_wp2_with fail
  go_ret
  exact ⟨_, rfl, rfl, by simpa using S0'.out.below⟩

set_option maxRecDepth 100000 in
set_option maxHeartbeats 2000000 in
theorem up_arrayType (W0 : World) (x : ByteArray) (n : Int) (ks : List Tree) {R : Nat → World → Value → Prop} (hR : Lowers R) (h : Makes W0 43 (.node ⟨#[65, 114, 114, 97, 121, 84, 121, 112, 101]⟩ x n ks) R) : Makes W0 21 (.node ⟨#[65, 114, 114, 97, 121, 84, 121, 112, 101]⟩ x n ks) R := by
  intro v hv w hw
  have K0 := Lib.hid (fun W hW => h _ hv W hW)
  obtain ⟨a', c', rfl, _⟩ := hv.shut
  have S0' := Lib.hid (St.start hw (.string ⟨#[65, 114, 114, 97, 121, 84, 121, 112, 101]⟩) (.string x) (.int .i64 n) (.slice a' ks.length c'))
  clear hv hw h
  have HR := Lib.hid hR
  clear hR
  go_enter Tryz.func21, Tryz.ntmps21
  go_wp2_with fail
  refine (K0.out _ S0'.out.later).mono ?_
  rintro e w1 ⟨u, rfl, r, b⟩
  have R0 := Lib.hid (HR.out _ w.heap.size _ _ (show w.heap.size ≤ _ from S0'.out.below.size) r)
  have S1 := Lib.hid (S0'.out.on b)
  clear r b K0
  go_wp2_with fail
  go_ret
  exact ⟨_, rfl, R0.out, S1.out.below⟩

set_option maxRecDepth 100000 in
set_option maxHeartbeats 2000000 in
theorem up_vectorType (W0 : World) (x : ByteArray) (n : Int) (ks : List Tree) {R : Nat → World → Value → Prop} (hR : Lowers R) (h : Makes W0 43 (.node ⟨#[86, 101, 99, 116, 111, 114, 84, 121, 112, 101]⟩ x n ks) R) : Makes W0 21 (.node ⟨#[86, 101, 99, 116, 111, 114, 84, 121, 112, 101]⟩ x n ks) R := by
  intro v hv w hw
  have K0 := Lib.hid (fun W hW => h _ hv W hW)
  obtain ⟨a', c', rfl, _⟩ := hv.shut
  have S0' := Lib.hid (St.start hw (.string ⟨#[86, 101, 99, 116, 111, 114, 84, 121, 112, 101]⟩) (.string x) (.int .i64 n) (.slice a' ks.length c'))
  clear hv hw h
  have HR := Lib.hid hR
  clear hR
  go_enter Tryz.func21, Tryz.ntmps21
  go_wp2_with fail
  refine (K0.out _ S0'.out.later).mono ?_
  rintro e w1 ⟨u, rfl, r, b⟩
  have R0 := Lib.hid (HR.out _ w.heap.size _ _ (show w.heap.size ≤ _ from S0'.out.below.size) r)
  have S1 := Lib.hid (S0'.out.on b)
  clear r b K0
  go_wp2_with fail
  go_ret
  exact ⟨_, rfl, R0.out, S1.out.below⟩

set_option maxRecDepth 100000 in
set_option maxHeartbeats 2000000 in
theorem up_ptrMem (W0 : World) (x : ByteArray) (n : Int) (ks : List Tree) {R : Nat → World → Value → Prop} (hR : Lowers R) (h : Makes W0 43 (.node ⟨#[80, 116, 114, 77, 101, 109]⟩ x n ks) R) : Makes W0 21 (.node ⟨#[80, 116, 114, 77, 101, 109]⟩ x n ks) R := by
  intro v hv w hw
  have K0 := Lib.hid (fun W hW => h _ hv W hW)
  obtain ⟨a', c', rfl, _⟩ := hv.shut
  have S0' := Lib.hid (St.start hw (.string ⟨#[80, 116, 114, 77, 101, 109]⟩) (.string x) (.int .i64 n) (.slice a' ks.length c'))
  clear hv hw h
  have HR := Lib.hid hR
  clear hR
  go_enter Tryz.func21, Tryz.ntmps21
  go_wp2_with fail
  refine (K0.out _ S0'.out.later).mono ?_
  rintro e w1 ⟨u, rfl, r, b⟩
  have R0 := Lib.hid (HR.out _ w.heap.size _ _ (show w.heap.size ≤ _ from S0'.out.below.size) r)
  have S1 := Lib.hid (S0'.out.on b)
  clear r b K0
  go_wp2_with fail
  go_ret
  exact ⟨_, rfl, R0.out, S1.out.below⟩

set_option maxRecDepth 100000 in
set_option maxHeartbeats 2000000 in
theorem up_vendorQualifier (W0 : World) (x : ByteArray) (n : Int) (ks : List Tree) {R : Nat → World → Value → Prop} (hR : Lowers R) (h : Makes W0 43 (.node ⟨#[86, 101, 110, 100, 111, 114, 81, 117, 97, 108, 105, 102, 105, 101, 114]⟩ x n ks) R) : Makes W0 21 (.node ⟨#[86, 101, 110, 100, 111, 114, 81, 117, 97, 108, 105, 102, 105, 101, 114]⟩ x n ks) R := by
  intro v hv w hw
  have K0 := Lib.hid (fun W hW => h _ hv W hW)
  obtain ⟨a', c', rfl, _⟩ := hv.shut
  have S0' := Lib.hid (St.start hw (.string ⟨#[86, 101, 110, 100, 111, 114, 81, 117, 97, 108, 105, 102, 105, 101, 114]⟩) (.string x) (.int .i64 n) (.slice a' ks.length c'))
  clear hv hw h
  have HR := Lib.hid hR
  clear hR
  go_enter Tryz.func21, Tryz.ntmps21
  go_wp2_with fail
  refine (K0.out _ S0'.out.later).mono ?_
  rintro e w1 ⟨u, rfl, r, b⟩
  have R0 := Lib.hid (HR.out _ w.heap.size _ _ (show w.heap.size ≤ _ from S0'.out.below.size) r)
  have S1 := Lib.hid (S0'.out.on b)
  clear r b K0
  go_wp2_with fail
  go_ret
  exact ⟨_, rfl, R0.out, S1.out.below⟩

set_option maxRecDepth 100000 in
set_option maxHeartbeats 2000000 in
theorem up_literal (W0 : World) (x : ByteArray) (n : Int) (ks : List Tree) {R : Nat → World → Value → Prop} (hR : Lowers R) (h : Makes W0 43 (.node ⟨#[76, 105, 116, 101, 114, 97, 108]⟩ x n ks) R) : Makes W0 21 (.node ⟨#[76, 105, 116, 101, 114, 97, 108]⟩ x n ks) R := by
  intro v hv w hw
  have K0 := Lib.hid (fun W hW => h _ hv W hW)
  obtain ⟨a', c', rfl, _⟩ := hv.shut
  have S0' := Lib.hid (St.start hw (.string ⟨#[76, 105, 116, 101, 114, 97, 108]⟩) (.string x) (.int .i64 n) (.slice a' ks.length c'))
  clear hv hw h
  have HR := Lib.hid hR
  clear hR
  go_enter Tryz.func21, Tryz.ntmps21
  go_wp2_with fail
  refine (K0.out _ S0'.out.later).mono ?_
  rintro e w1 ⟨u, rfl, r, b⟩
  have R0 := Lib.hid (HR.out _ w.heap.size _ _ (show w.heap.size ≤ _ from S0'.out.below.size) r)
  have S1 := Lib.hid (S0'.out.on b)
  clear r b K0
  go_wp2_with fail
  go_ret
  exact ⟨_, rfl, R0.out, S1.out.below⟩

set_option maxRecDepth 100000 in
set_option maxHeartbeats 2000000 in
theorem up_argumentPack (W0 : World) (x : ByteArray) (n : Int) (ks : List Tree) {R : Nat → World → Value → Prop} (hR : Lowers R) (h : Makes W0 43 (.node ⟨#[65, 114, 103, 117, 109, 101, 110, 116, 80, 97, 99, 107]⟩ x n ks) R) : Makes W0 21 (.node ⟨#[65, 114, 103, 117, 109, 101, 110, 116, 80, 97, 99, 107]⟩ x n ks) R := by
  intro v hv w hw
  have K0 := Lib.hid (fun W hW => h _ hv W hW)
  obtain ⟨a', c', rfl, _⟩ := hv.shut
  have S0' := Lib.hid (St.start hw (.string ⟨#[65, 114, 103, 117, 109, 101, 110, 116, 80, 97, 99, 107]⟩) (.string x) (.int .i64 n) (.slice a' ks.length c'))
  clear hv hw h
  have HR := Lib.hid hR
  clear hR
  go_enter Tryz.func21, Tryz.ntmps21
  go_wp2_with fail
  refine (K0.out _ S0'.out.later).mono ?_
  rintro e w1 ⟨u, rfl, r, b⟩
  have R0 := Lib.hid (HR.out _ w.heap.size _ _ (show w.heap.size ≤ _ from S0'.out.below.size) r)
  have S1 := Lib.hid (S0'.out.on b)
  clear r b K0
  go_wp2_with fail
  go_ret
  exact ⟨_, rfl, R0.out, S1.out.below⟩

set_option maxRecDepth 100000 in
set_option maxHeartbeats 2000000 in
theorem up_closure (W0 : World) (x : ByteArray) (n : Int) (ks : List Tree) {R : Nat → World → Value → Prop} (hR : Lowers R) (h : Makes W0 43 (.node ⟨#[67, 108, 111, 115, 117, 114, 101]⟩ x n ks) R) : Makes W0 21 (.node ⟨#[67, 108, 111, 115, 117, 114, 101]⟩ x n ks) R := by
  intro v hv w hw
  have K0 := Lib.hid (fun W hW => h _ hv W hW)
  obtain ⟨a', c', rfl, _⟩ := hv.shut
  have S0' := Lib.hid (St.start hw (.string ⟨#[67, 108, 111, 115, 117, 114, 101]⟩) (.string x) (.int .i64 n) (.slice a' ks.length c'))
  clear hv hw h
  have HR := Lib.hid hR
  clear hR
  go_enter Tryz.func21, Tryz.ntmps21
  go_wp2_with fail
  refine (K0.out _ S0'.out.later).mono ?_
  rintro e w1 ⟨u, rfl, r, b⟩
  have R0 := Lib.hid (HR.out _ w.heap.size _ _ (show w.heap.size ≤ _ from S0'.out.below.size) r)
  have S1 := Lib.hid (S0'.out.on b)
  clear r b K0
  go_wp2_with fail
  go_ret
  exact ⟨_, rfl, R0.out, S1.out.below⟩

set_option maxRecDepth 100000 in
set_option maxHeartbeats 2000000 in
theorem up_unnamedType (W0 : World) (x : ByteArray) (n : Int) (ks : List Tree) {R : Nat → World → Value → Prop} (hR : Lowers R) (h : Makes W0 43 (.node ⟨#[85, 110, 110, 97, 109, 101, 100, 84, 121, 112, 101]⟩ x n ks) R) : Makes W0 21 (.node ⟨#[85, 110, 110, 97, 109, 101, 100, 84, 121, 112, 101]⟩ x n ks) R := by
  intro v hv w hw
  have K0 := Lib.hid (fun W hW => h _ hv W hW)
  obtain ⟨a', c', rfl, _⟩ := hv.shut
  have S0' := Lib.hid (St.start hw (.string ⟨#[85, 110, 110, 97, 109, 101, 100, 84, 121, 112, 101]⟩) (.string x) (.int .i64 n) (.slice a' ks.length c'))
  clear hv hw h
  have HR := Lib.hid hR
  clear hR
  go_enter Tryz.func21, Tryz.ntmps21
  go_wp2_with fail
  refine (K0.out _ S0'.out.later).mono ?_
  rintro e w1 ⟨u, rfl, r, b⟩
  have R0 := Lib.hid (HR.out _ w.heap.size _ _ (show w.heap.size ≤ _ from S0'.out.below.size) r)
  have S1 := Lib.hid (S0'.out.on b)
  clear r b K0
  go_wp2_with fail
  go_ret
  exact ⟨_, rfl, R0.out, S1.out.below⟩

set_option maxRecDepth 100000 in
set_option maxHeartbeats 2000000 in
theorem up_taggedName (W0 : World) (x : ByteArray) (n : Int) (ks : List Tree) {R : Nat → World → Value → Prop} (hR : Lowers R) (h : Makes W0 43 (.node ⟨#[84, 97, 103, 103, 101, 100, 78, 97, 109, 101]⟩ x n ks) R) : Makes W0 21 (.node ⟨#[84, 97, 103, 103, 101, 100, 78, 97, 109, 101]⟩ x n ks) R := by
  intro v hv w hw
  have K0 := Lib.hid (fun W hW => h _ hv W hW)
  obtain ⟨a', c', rfl, _⟩ := hv.shut
  have S0' := Lib.hid (St.start hw (.string ⟨#[84, 97, 103, 103, 101, 100, 78, 97, 109, 101]⟩) (.string x) (.int .i64 n) (.slice a' ks.length c'))
  clear hv hw h
  have HR := Lib.hid hR
  clear hR
  go_enter Tryz.func21, Tryz.ntmps21
  go_wp2_with fail
  refine (K0.out _ S0'.out.later).mono ?_
  rintro e w1 ⟨u, rfl, r, b⟩
  have R0 := Lib.hid (HR.out _ w.heap.size _ _ (show w.heap.size ≤ _ from S0'.out.below.size) r)
  have S1 := Lib.hid (S0'.out.on b)
  clear r b K0
  go_wp2_with fail
  go_ret
  exact ⟨_, rfl, R0.out, S1.out.below⟩

set_option maxRecDepth 100000 in
set_option maxHeartbeats 2000000 in
theorem up_cast (W0 : World) (x : ByteArray) (n : Int) (ks : List Tree) {R : Nat → World → Value → Prop} (hR : Lowers R) (h : Makes W0 43 (.node ⟨#[67, 97, 115, 116]⟩ x n ks) R) : Makes W0 21 (.node ⟨#[67, 97, 115, 116]⟩ x n ks) R := by
  intro v hv w hw
  have K0 := Lib.hid (fun W hW => h _ hv W hW)
  obtain ⟨a', c', rfl, _⟩ := hv.shut
  have S0' := Lib.hid (St.start hw (.string ⟨#[67, 97, 115, 116]⟩) (.string x) (.int .i64 n) (.slice a' ks.length c'))
  clear hv hw h
  have HR := Lib.hid hR
  clear hR
  go_enter Tryz.func21, Tryz.ntmps21
  go_wp2_with fail
  refine (K0.out _ S0'.out.later).mono ?_
  rintro e w1 ⟨u, rfl, r, b⟩
  have R0 := Lib.hid (HR.out _ w.heap.size _ _ (show w.heap.size ≤ _ from S0'.out.below.size) r)
  have S1 := Lib.hid (S0'.out.on b)
  clear r b K0
  go_wp2_with fail
  go_ret
  exact ⟨_, rfl, R0.out, S1.out.below⟩

set_option maxRecDepth 100000 in
set_option maxHeartbeats 2000000 in
theorem up_nil (W0 : World) (x : ByteArray) (n : Int) (ks : List Tree) {R : Nat → World → Value → Prop} (hR : Lowers R) (h : Makes W0 43 (.node ⟨#[]⟩ x n ks) R) : Makes W0 21 (.node ⟨#[]⟩ x n ks) R := by
  intro v hv w hw
  have K0 := Lib.hid (fun W hW => h _ hv W hW)
  obtain ⟨a', c', rfl, _⟩ := hv.shut
  have S0' := Lib.hid (St.start hw (.string ⟨#[]⟩) (.string x) (.int .i64 n) (.slice a' ks.length c'))
  clear hv hw h
  have HR := Lib.hid hR
  clear hR
  go_enter Tryz.func21, Tryz.ntmps21
  go_wp2_with fail
  refine (K0.out _ S0'.out.later).mono ?_
  rintro e w1 ⟨u, rfl, r, b⟩
  have R0 := Lib.hid (HR.out _ w.heap.size _ _ (show w.heap.size ≤ _ from S0'.out.below.size) r)
  have S1 := Lib.hid (S0'.out.on b)
  clear r b K0
  go_wp2_with fail
  go_ret
  exact ⟨_, rfl, R0.out, S1.out.below⟩

theorem treeOf_nil (W0 : World) : Makes W0 21 nilT fun _ _ u => u = .nilIface := up_nil W0 _ _ _ lowers_nil (treeOfMore_nil W0)

end Go.Proofs.YtnhccgbkalpcnaaGreatDoor
