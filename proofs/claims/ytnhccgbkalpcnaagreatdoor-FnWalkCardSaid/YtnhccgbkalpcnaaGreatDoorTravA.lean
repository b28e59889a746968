/- Traverse kind by kind. -/
import Derived.Test.YtnhccgbkalpcnaaGreatDoorTravD
namespace Go.Proofs.YtnhccgbkalpcnaaGreatDoor
open Go.RowKit

set_option maxRecDepth 100000 in
set_option maxHeartbeats 2000000 in
theorem trav_name {w0 : World} {I : Nat → Prop} (b : Nat) {s : ByteArray} (hI : I b) (hb : w0.heap[b]? = some (.cells #[.string s] 48 (0, 0))) : TravOK w0 I (.iface 45 (.pointer (some ⟨b, 0, none⟩))) ([⟨#[78, 97, 109, 101]⟩]) := by
  refine ⟨_, _, b, rfl, fun W => mt_name ⟨b, 0, none⟩ W, fun _ _ => by kernel_rfl, ?_⟩
  intro B ob kb hoB hkB hIB out w hS hst hlen
  have HV := Lib.hid (visit_any B ob kb hoB hkB out (.iface 45 (.pointer (some ⟨b, 0, none⟩))) ⟨#[78, 97, 109, 101]⟩ (by kernel_rfl) w (kindOf_name ⟨b, 0, none⟩) hst (by simp only [List.length_append, List.length_cons, List.length_nil] at hlen; omega))
  have HLE := Lib.hid hlen
  have HB := Lib.hid (show ∀ W, Same I w0 W → W.heap[b]? = some (.cells #[.string s] 48 (0, 0)) from fun W h => (h b hI).trans hb)
  have HIB := Lib.hid hIB
  have HS := Lib.hid hS
  clear hst hlen hS hb hI hIB
  go_enter Tryz.func95, Tryz.ntmps95
  go_wp2_with fail
  refine (HV.out).mono ?_
  rintro e w1 ⟨rfl, st, on⟩
  have ST := Lib.hid st
  have ON := Lib.hid on
  have HS1 := Lib.hid (HS.out.trans (on.same HIB.out))
  clear st on HV
  go_wp2_with fail
  go_end0
  exact ⟨rfl, ST.out, ON.out⟩

set_option maxRecDepth 100000 in
set_option maxHeartbeats 2000000 in
theorem trav_builtinType {w0 : World} {I : Nat → Prop} (b : Nat) {s : ByteArray} (hI : I b) (hb : w0.heap[b]? = some (.cells #[.string s] 54 (0, 0))) : TravOK w0 I (.iface 53 (.pointer (some ⟨b, 0, none⟩))) ([⟨#[66, 117, 105, 108, 116, 105, 110, 84, 121, 112, 101]⟩]) := by
  refine ⟨_, _, b, rfl, fun W => mt_builtinType ⟨b, 0, none⟩ W, fun _ _ => by kernel_rfl, ?_⟩
  intro B ob kb hoB hkB hIB out w hS hst hlen
  have HV := Lib.hid (visit_any B ob kb hoB hkB out (.iface 53 (.pointer (some ⟨b, 0, none⟩))) ⟨#[66, 117, 105, 108, 116, 105, 110, 84, 121, 112, 101]⟩ (by kernel_rfl) w (kindOf_builtinType ⟨b, 0, none⟩) hst (by simp only [List.length_append, List.length_cons, List.length_nil] at hlen; omega))
  have HLE := Lib.hid hlen
  have HB := Lib.hid (show ∀ W, Same I w0 W → W.heap[b]? = some (.cells #[.string s] 54 (0, 0)) from fun W h => (h b hI).trans hb)
  have HIB := Lib.hid hIB
  have HS := Lib.hid hS
  clear hst hlen hS hb hI hIB
  go_enter Tryz.func98, Tryz.ntmps98
  go_wp2_with fail
  refine (HV.out).mono ?_
  rintro e w1 ⟨rfl, st, on⟩
  have ST := Lib.hid st
  have ON := Lib.hid on
  have HS1 := Lib.hid (HS.out.trans (on.same HIB.out))
  clear st on HV
  go_wp2_with fail
  go_end0
  exact ⟨rfl, ST.out, ON.out⟩

set_option maxRecDepth 100000 in
set_option maxHeartbeats 2000000 in
theorem trav_operator {w0 : World} {I : Nat → Prop} (b : Nat) {s : ByteArray} (hI : I b) (hb : w0.heap[b]? = some (.cells #[.string s, .int .i64 0] 58 (0, 0))) : TravOK w0 I (.iface 55 (.pointer (some ⟨b, 0, none⟩))) ([⟨#[79, 112, 101, 114, 97, 116, 111, 114]⟩]) := by
  refine ⟨_, _, b, rfl, fun W => mt_operator ⟨b, 0, none⟩ W, fun _ _ => by kernel_rfl, ?_⟩
  intro B ob kb hoB hkB hIB out w hS hst hlen
  have HV := Lib.hid (visit_any B ob kb hoB hkB out (.iface 55 (.pointer (some ⟨b, 0, none⟩))) ⟨#[79, 112, 101, 114, 97, 116, 111, 114]⟩ (by kernel_rfl) w (kindOf_operator ⟨b, 0, none⟩) hst (by simp only [List.length_append, List.length_cons, List.length_nil] at hlen; omega))
  have HLE := Lib.hid hlen
  have HB := Lib.hid (show ∀ W, Same I w0 W → W.heap[b]? = some (.cells #[.string s, .int .i64 0] 58 (0, 0)) from fun W h => (h b hI).trans hb)
  have HIB := Lib.hid hIB
  have HS := Lib.hid hS
  clear hst hlen hS hb hI hIB
  go_enter Tryz.func101, Tryz.ntmps101
  go_wp2_with fail
  refine (HV.out).mono ?_
  rintro e w1 ⟨rfl, st, on⟩
  have ST := Lib.hid st
  have ON := Lib.hid on
  have HS1 := Lib.hid (HS.out.trans (on.same HIB.out))
  clear st on HV
  go_wp2_with fail
  go_end0
  exact ⟨rfl, ST.out, ON.out⟩

set_option maxRecDepth 100000 in
set_option maxHeartbeats 2000000 in
theorem trav_constructor {w0 : World} {I : Nat → Prop} (b : Nat) {u : Value} {k0 : List ByteArray} (hI : I b) (hb : w0.heap[b]? = some (.cells #[u, .nilIface] 62 (0, 0))) (hu : TravOK w0 I u k0) : TravOK w0 I (.iface 59 (.pointer (some ⟨b, 0, none⟩))) ([⟨#[67, 111, 110, 115, 116, 114, 117, 99, 116, 111, 114]⟩] ++ k0) := by
  refine ⟨_, _, b, rfl, fun W => mt_constructor ⟨b, 0, none⟩ W, fun _ _ => by kernel_rfl, ?_⟩
  intro B ob kb hoB hkB hIB out w hS hst hlen
  have HV := Lib.hid (visit_any B ob kb hoB hkB out (.iface 59 (.pointer (some ⟨b, 0, none⟩))) ⟨#[67, 111, 110, 115, 116, 114, 117, 99, 116, 111, 114]⟩ (by kernel_rfl) w (kindOf_constructor ⟨b, 0, none⟩) hst (by simp only [List.length_append, List.length_cons, List.length_nil] at hlen; omega))
  have HLE := Lib.hid hlen
  have HB := Lib.hid (show ∀ W, Same I w0 W → W.heap[b]? = some (.cells #[u, .nilIface] 62 (0, 0)) from fun W h => (h b hI).trans hb)
  have HIB := Lib.hid hIB
  have HS := Lib.hid hS
  obtain ⟨Tu, gu, qu, rfl, mu, cu, hcu⟩ := hu
  have CU := Lib.hid hcu
  have hnn := fun W => nil_nn W
  clear hst hlen hS hb hI hIB hcu
  go_enter Tryz.func104, Tryz.ntmps104
  go_wp2_with fail
  refine (HV.out).mono ?_
  rintro e w1 ⟨rfl, st, on⟩
  have ST := Lib.hid st
  have ON := Lib.hid on
  have HS1 := Lib.hid (HS.out.trans (on.same HIB.out))
  clear st on HV
  obtain ⟨c0, c1⟩ := cells2 (HB.out w1 HS1.out)
  have HC := Lib.hid (CU.out B ob kb hoB hkB HIB.out (out ++ [⟨#[67, 111, 110, 115, 116, 114, 117, 99, 116, 111, 114]⟩]) w1 HS1.out (by simpa using ST.out) (by have := HLE.out; simp only [List.length_append, List.length_cons, List.length_nil] at this ⊢; omega))
  clear ST
  go_wp2_with fail
  refine (HC.out).mono ?_
  rintro e w2 ⟨rfl, st, on⟩
  have ST := Lib.hid st
  have HS2 := Lib.hid (HS1.out.trans (on.same HIB.out))
  have ON := Lib.hid (ON.out.trans on)
  clear st on HC c0 c1
  obtain ⟨c0, c1⟩ := cells2 (HB.out w2 HS2.out)
  go_wp2_with fail
  go_end0
  exact ⟨rfl, by simpa using ST.out, ON.out⟩

set_option maxRecDepth 100000 in
set_option maxHeartbeats 2000000 in
theorem trav_destructor {w0 : World} {I : Nat → Prop} (b : Nat) {u : Value} {k0 : List ByteArray} (hI : I b) (hb : w0.heap[b]? = some (.cells #[u] 65 (0, 0))) (hu : TravOK w0 I u k0) : TravOK w0 I (.iface 63 (.pointer (some ⟨b, 0, none⟩))) ([⟨#[68, 101, 115, 116, 114, 117, 99, 116, 111, 114]⟩] ++ k0) := by
  refine ⟨_, _, b, rfl, fun W => mt_destructor ⟨b, 0, none⟩ W, fun _ _ => by kernel_rfl, ?_⟩
  intro B ob kb hoB hkB hIB out w hS hst hlen
  have HV := Lib.hid (visit_any B ob kb hoB hkB out (.iface 63 (.pointer (some ⟨b, 0, none⟩))) ⟨#[68, 101, 115, 116, 114, 117, 99, 116, 111, 114]⟩ (by kernel_rfl) w (kindOf_destructor ⟨b, 0, none⟩) hst (by simp only [List.length_append, List.length_cons, List.length_nil] at hlen; omega))
  have HLE := Lib.hid hlen
  have HB := Lib.hid (show ∀ W, Same I w0 W → W.heap[b]? = some (.cells #[u] 65 (0, 0)) from fun W h => (h b hI).trans hb)
  have HIB := Lib.hid hIB
  have HS := Lib.hid hS
  obtain ⟨Tu, gu, qu, rfl, mu, cu, hcu⟩ := hu
  have CU := Lib.hid hcu
  clear hst hlen hS hb hI hIB hcu
  go_enter Tryz.func107, Tryz.ntmps107
  go_wp2_with fail
  refine (HV.out).mono ?_
  rintro e w1 ⟨rfl, st, on⟩
  have ST := Lib.hid st
  have ON := Lib.hid on
  have HS1 := Lib.hid (HS.out.trans (on.same HIB.out))
  clear st on HV
  obtain c0 := cells1 (HB.out w1 HS1.out)
  have HC := Lib.hid (CU.out B ob kb hoB hkB HIB.out (out ++ [⟨#[68, 101, 115, 116, 114, 117, 99, 116, 111, 114]⟩]) w1 HS1.out (by simpa using ST.out) (by have := HLE.out; simp only [List.length_append, List.length_cons, List.length_nil] at this ⊢; omega))
  clear ST
  go_wp2_with fail
  refine (HC.out).mono ?_
  rintro e w2 ⟨rfl, st, on⟩
  have ST := Lib.hid st
  have HS2 := Lib.hid (HS1.out.trans (on.same HIB.out))
  have ON := Lib.hid (ON.out.trans on)
  clear st on HC c0
  obtain c0 := cells1 (HB.out w2 HS2.out)
  go_wp2_with fail
  go_end0
  exact ⟨rfl, by simpa using ST.out, ON.out⟩

set_option maxRecDepth 100000 in
set_option maxHeartbeats 2000000 in
theorem trav_qualified {w0 : World} {I : Nat → Prop} (b : Nat) {u : Value} {k0 : List ByteArray} {y : Value} {k1 : List ByteArray} (hI : I b) (hb : w0.heap[b]? = some (.cells #[u, y, .bool false] 68 (0, 0))) (hu : TravOK w0 I u k0) (hy : TravOK w0 I y k1) : TravOK w0 I (.iface 66 (.pointer (some ⟨b, 0, none⟩))) ([⟨#[81, 117, 97, 108, 105, 102, 105, 101, 100]⟩] ++ k0 ++ k1) := by
  refine ⟨_, _, b, rfl, fun W => mt_qualified ⟨b, 0, none⟩ W, fun _ _ => by kernel_rfl, ?_⟩
  intro B ob kb hoB hkB hIB out w hS hst hlen
  have HV := Lib.hid (visit_any B ob kb hoB hkB out (.iface 66 (.pointer (some ⟨b, 0, none⟩))) ⟨#[81, 117, 97, 108, 105, 102, 105, 101, 100]⟩ (by kernel_rfl) w (kindOf_qualified ⟨b, 0, none⟩) hst (by simp only [List.length_append, List.length_cons, List.length_nil] at hlen; omega))
  have HLE := Lib.hid hlen
  have HB := Lib.hid (show ∀ W, Same I w0 W → W.heap[b]? = some (.cells #[u, y, .bool false] 68 (0, 0)) from fun W h => (h b hI).trans hb)
  have HIB := Lib.hid hIB
  have HS := Lib.hid hS
  obtain ⟨Tu, gu, qu, rfl, mu, cu, hcu⟩ := hu
  have CU := Lib.hid hcu
  obtain ⟨Ty, gy, qy, rfl, my, cy, hcy⟩ := hy
  have CY := Lib.hid hcy
  clear hst hlen hS hb hI hIB hcu hcy
  go_enter Tryz.func110, Tryz.ntmps110
  go_wp2_with fail
  refine (HV.out).mono ?_
  rintro e w1 ⟨rfl, st, on⟩
  have ST := Lib.hid st
  have ON := Lib.hid on
  have HS1 := Lib.hid (HS.out.trans (on.same HIB.out))
  clear st on HV
  obtain ⟨c0, c1, c2⟩ := cells3 (HB.out w1 HS1.out)
  have HC := Lib.hid (CU.out B ob kb hoB hkB HIB.out (out ++ [⟨#[81, 117, 97, 108, 105, 102, 105, 101, 100]⟩]) w1 HS1.out (by simpa using ST.out) (by have := HLE.out; simp only [List.length_append, List.length_cons, List.length_nil] at this ⊢; omega))
  clear ST
  go_wp2_with fail
  refine (HC.out).mono ?_
  rintro e w2 ⟨rfl, st, on⟩
  have ST := Lib.hid st
  have HS2 := Lib.hid (HS1.out.trans (on.same HIB.out))
  have ON := Lib.hid (ON.out.trans on)
  clear st on HC c0 c1 c2
  obtain ⟨c0, c1, c2⟩ := cells3 (HB.out w2 HS2.out)
  have HC := Lib.hid (CY.out B ob kb hoB hkB HIB.out (out ++ [⟨#[81, 117, 97, 108, 105, 102, 105, 101, 100]⟩] ++ k0) w2 HS2.out (by simpa using ST.out) (by have := HLE.out; simp only [List.length_append, List.length_cons, List.length_nil] at this ⊢; omega))
  clear ST
  go_wp2_with fail
  refine (HC.out).mono ?_
  rintro e w3 ⟨rfl, st, on⟩
  have ST := Lib.hid st
  have HS3 := Lib.hid (HS2.out.trans (on.same HIB.out))
  have ON := Lib.hid (ON.out.trans on)
  clear st on HC c0 c1 c2
  obtain ⟨c0, c1, c2⟩ := cells3 (HB.out w3 HS3.out)
  go_wp2_with fail
  go_end0
  exact ⟨rfl, by simpa using ST.out, ON.out⟩

set_option maxRecDepth 100000 in
set_option maxHeartbeats 2000000 in
theorem trav_typed {w0 : World} {I : Nat → Prop} (b : Nat) {u : Value} {k0 : List ByteArray} {y : Value} {k1 : List ByteArray} (hI : I b) (hb : w0.heap[b]? = some (.cells #[u, y] 76 (0, 0))) (hu : TravOK w0 I u k0) (hy : TravOK w0 I y k1) : TravOK w0 I (.iface 74 (.pointer (some ⟨b, 0, none⟩))) ([⟨#[84, 121, 112, 101, 100]⟩] ++ k0 ++ k1) := by
  refine ⟨_, _, b, rfl, fun W => mt_typed ⟨b, 0, none⟩ W, fun _ _ => by kernel_rfl, ?_⟩
  intro B ob kb hoB hkB hIB out w hS hst hlen
  have HV := Lib.hid (visit_any B ob kb hoB hkB out (.iface 74 (.pointer (some ⟨b, 0, none⟩))) ⟨#[84, 121, 112, 101, 100]⟩ (by kernel_rfl) w (kindOf_typed ⟨b, 0, none⟩) hst (by simp only [List.length_append, List.length_cons, List.length_nil] at hlen; omega))
  have HLE := Lib.hid hlen
  have HB := Lib.hid (show ∀ W, Same I w0 W → W.heap[b]? = some (.cells #[u, y] 76 (0, 0)) from fun W h => (h b hI).trans hb)
  have HIB := Lib.hid hIB
  have HS := Lib.hid hS
  obtain ⟨Tu, gu, qu, rfl, mu, cu, hcu⟩ := hu
  have CU := Lib.hid hcu
  obtain ⟨Ty, gy, qy, rfl, my, cy, hcy⟩ := hy
  have CY := Lib.hid hcy
  clear hst hlen hS hb hI hIB hcu hcy
  go_enter Tryz.func116, Tryz.ntmps116
  go_wp2_with fail
  refine (HV.out).mono ?_
  rintro e w1 ⟨rfl, st, on⟩
  have ST := Lib.hid st
  have ON := Lib.hid on
  have HS1 := Lib.hid (HS.out.trans (on.same HIB.out))
  clear st on HV
  obtain ⟨c0, c1⟩ := cells2 (HB.out w1 HS1.out)
  have HC := Lib.hid (CU.out B ob kb hoB hkB HIB.out (out ++ [⟨#[84, 121, 112, 101, 100]⟩]) w1 HS1.out (by simpa using ST.out) (by have := HLE.out; simp only [List.length_append, List.length_cons, List.length_nil] at this ⊢; omega))
  clear ST
  go_wp2_with fail
  refine (HC.out).mono ?_
  rintro e w2 ⟨rfl, st, on⟩
  have ST := Lib.hid st
  have HS2 := Lib.hid (HS1.out.trans (on.same HIB.out))
  have ON := Lib.hid (ON.out.trans on)
  clear st on HC c0 c1
  obtain ⟨c0, c1⟩ := cells2 (HB.out w2 HS2.out)
  have HC := Lib.hid (CY.out B ob kb hoB hkB HIB.out (out ++ [⟨#[84, 121, 112, 101, 100]⟩] ++ k0) w2 HS2.out (by simpa using ST.out) (by have := HLE.out; simp only [List.length_append, List.length_cons, List.length_nil] at this ⊢; omega))
  clear ST
  go_wp2_with fail
  refine (HC.out).mono ?_
  rintro e w3 ⟨rfl, st, on⟩
  have ST := Lib.hid st
  have HS3 := Lib.hid (HS2.out.trans (on.same HIB.out))
  have ON := Lib.hid (ON.out.trans on)
  clear st on HC c0 c1
  obtain ⟨c0, c1⟩ := cells2 (HB.out w3 HS3.out)
  go_wp2_with fail
  go_end0
  exact ⟨rfl, by simpa using ST.out, ON.out⟩

set_option maxRecDepth 100000 in
set_option maxHeartbeats 2000000 in
theorem trav_pointerType {w0 : World} {I : Nat → Prop} (b : Nat) {u : Value} {k0 : List ByteArray} (hI : I b) (hb : w0.heap[b]? = some (.cells #[u] 82 (0, 0))) (hu : TravOK w0 I u k0) : TravOK w0 I (.iface 80 (.pointer (some ⟨b, 0, none⟩))) ([⟨#[80, 111, 105, 110, 116, 101, 114, 84, 121, 112, 101]⟩] ++ k0) := by
  refine ⟨_, _, b, rfl, fun W => mt_pointerType ⟨b, 0, none⟩ W, fun _ _ => by kernel_rfl, ?_⟩
  intro B ob kb hoB hkB hIB out w hS hst hlen
  have HV := Lib.hid (visit_any B ob kb hoB hkB out (.iface 80 (.pointer (some ⟨b, 0, none⟩))) ⟨#[80, 111, 105, 110, 116, 101, 114, 84, 121, 112, 101]⟩ (by kernel_rfl) w (kindOf_pointerType ⟨b, 0, none⟩) hst (by simp only [List.length_append, List.length_cons, List.length_nil] at hlen; omega))
  have HLE := Lib.hid hlen
  have HB := Lib.hid (show ∀ W, Same I w0 W → W.heap[b]? = some (.cells #[u] 82 (0, 0)) from fun W h => (h b hI).trans hb)
  have HIB := Lib.hid hIB
  have HS := Lib.hid hS
  obtain ⟨Tu, gu, qu, rfl, mu, cu, hcu⟩ := hu
  have CU := Lib.hid hcu
  clear hst hlen hS hb hI hIB hcu
  go_enter Tryz.func122, Tryz.ntmps122
  go_wp2_with fail
  refine (HV.out).mono ?_
  rintro e w1 ⟨rfl, st, on⟩
  have ST := Lib.hid st
  have ON := Lib.hid on
  have HS1 := Lib.hid (HS.out.trans (on.same HIB.out))
  clear st on HV
  obtain c0 := cells1 (HB.out w1 HS1.out)
  have HC := Lib.hid (CU.out B ob kb hoB hkB HIB.out (out ++ [⟨#[80, 111, 105, 110, 116, 101, 114, 84, 121, 112, 101]⟩]) w1 HS1.out (by simpa using ST.out) (by have := HLE.out; simp only [List.length_append, List.length_cons, List.length_nil] at this ⊢; omega))
  clear ST
  go_wp2_with fail
  refine (HC.out).mono ?_
  rintro e w2 ⟨rfl, st, on⟩
  have ST := Lib.hid st
  have HS2 := Lib.hid (HS1.out.trans (on.same HIB.out))
  have ON := Lib.hid (ON.out.trans on)
  clear st on HC c0
  obtain c0 := cells1 (HB.out w2 HS2.out)
  go_wp2_with fail
  go_end0
  exact ⟨rfl, by simpa using ST.out, ON.out⟩

set_option maxRecDepth 100000 in
set_option maxHeartbeats 2000000 in
theorem trav_referenceType {w0 : World} {I : Nat → Prop} (b : Nat) {u : Value} {k0 : List ByteArray} (hI : I b) (hb : w0.heap[b]? = some (.cells #[u] 84 (0, 0))) (hu : TravOK w0 I u k0) : TravOK w0 I (.iface 83 (.pointer (some ⟨b, 0, none⟩))) ([⟨#[82, 101, 102, 101, 114, 101, 110, 99, 101, 84, 121, 112, 101]⟩] ++ k0) := by
  refine ⟨_, _, b, rfl, fun W => mt_referenceType ⟨b, 0, none⟩ W, fun _ _ => by kernel_rfl, ?_⟩
  intro B ob kb hoB hkB hIB out w hS hst hlen
  have HV := Lib.hid (visit_any B ob kb hoB hkB out (.iface 83 (.pointer (some ⟨b, 0, none⟩))) ⟨#[82, 101, 102, 101, 114, 101, 110, 99, 101, 84, 121, 112, 101]⟩ (by kernel_rfl) w (kindOf_referenceType ⟨b, 0, none⟩) hst (by simp only [List.length_append, List.length_cons, List.length_nil] at hlen; omega))
  have HLE := Lib.hid hlen
  have HB := Lib.hid (show ∀ W, Same I w0 W → W.heap[b]? = some (.cells #[u] 84 (0, 0)) from fun W h => (h b hI).trans hb)
  have HIB := Lib.hid hIB
  have HS := Lib.hid hS
  obtain ⟨Tu, gu, qu, rfl, mu, cu, hcu⟩ := hu
  have CU := Lib.hid hcu
  clear hst hlen hS hb hI hIB hcu
  go_enter Tryz.func125, Tryz.ntmps125
  go_wp2_with fail
  refine (HV.out).mono ?_
  rintro e w1 ⟨rfl, st, on⟩
  have ST := Lib.hid st
  have ON := Lib.hid on
  have HS1 := Lib.hid (HS.out.trans (on.same HIB.out))
  clear st on HV
  obtain c0 := cells1 (HB.out w1 HS1.out)
  have HC := Lib.hid (CU.out B ob kb hoB hkB HIB.out (out ++ [⟨#[82, 101, 102, 101, 114, 101, 110, 99, 101, 84, 121, 112, 101]⟩]) w1 HS1.out (by simpa using ST.out) (by have := HLE.out; simp only [List.length_append, List.length_cons, List.length_nil] at this ⊢; omega))
  clear ST
  go_wp2_with fail
  refine (HC.out).mono ?_
  rintro e w2 ⟨rfl, st, on⟩
  have ST := Lib.hid st
  have HS2 := Lib.hid (HS1.out.trans (on.same HIB.out))
  have ON := Lib.hid (ON.out.trans on)
  clear st on HC c0
  obtain c0 := cells1 (HB.out w2 HS2.out)
  go_wp2_with fail
  go_end0
  exact ⟨rfl, by simpa using ST.out, ON.out⟩

set_option maxRecDepth 100000 in
set_option maxHeartbeats 2000000 in
theorem trav_rvalueReferenceType {w0 : World} {I : Nat → Prop} (b : Nat) {u : Value} {k0 : List ByteArray} (hI : I b) (hb : w0.heap[b]? = some (.cells #[u] 86 (0, 0))) (hu : TravOK w0 I u k0) : TravOK w0 I (.iface 85 (.pointer (some ⟨b, 0, none⟩))) ([⟨#[82, 118, 97, 108, 117, 101, 82, 101, 102, 101, 114, 101, 110, 99, 101, 84, 121, 112, 101]⟩] ++ k0) := by
  refine ⟨_, _, b, rfl, fun W => mt_rvalueReferenceType ⟨b, 0, none⟩ W, fun _ _ => by kernel_rfl, ?_⟩
  intro B ob kb hoB hkB hIB out w hS hst hlen
  have HV := Lib.hid (visit_any B ob kb hoB hkB out (.iface 85 (.pointer (some ⟨b, 0, none⟩))) ⟨#[82, 118, 97, 108, 117, 101, 82, 101, 102, 101, 114, 101, 110, 99, 101, 84, 121, 112, 101]⟩ (by kernel_rfl) w (kindOf_rvalueReferenceType ⟨b, 0, none⟩) hst (by simp only [List.length_append, List.length_cons, List.length_nil] at hlen; omega))
  have HLE := Lib.hid hlen
  have HB := Lib.hid (show ∀ W, Same I w0 W → W.heap[b]? = some (.cells #[u] 86 (0, 0)) from fun W h => (h b hI).trans hb)
  have HIB := Lib.hid hIB
  have HS := Lib.hid hS
  obtain ⟨Tu, gu, qu, rfl, mu, cu, hcu⟩ := hu
  have CU := Lib.hid hcu
  clear hst hlen hS hb hI hIB hcu
  go_enter Tryz.func128, Tryz.ntmps128
  go_wp2_with fail
  refine (HV.out).mono ?_
  rintro e w1 ⟨rfl, st, on⟩
  have ST := Lib.hid st
  have ON := Lib.hid on
  have HS1 := Lib.hid (HS.out.trans (on.same HIB.out))
  clear st on HV
  obtain c0 := cells1 (HB.out w1 HS1.out)
  have HC := Lib.hid (CU.out B ob kb hoB hkB HIB.out (out ++ [⟨#[82, 118, 97, 108, 117, 101, 82, 101, 102, 101, 114, 101, 110, 99, 101, 84, 121, 112, 101]⟩]) w1 HS1.out (by simpa using ST.out) (by have := HLE.out; simp only [List.length_append, List.length_cons, List.length_nil] at this ⊢; omega))
  clear ST
  go_wp2_with fail
  refine (HC.out).mono ?_
  rintro e w2 ⟨rfl, st, on⟩
  have ST := Lib.hid st
  have HS2 := Lib.hid (HS1.out.trans (on.same HIB.out))
  have ON := Lib.hid (ON.out.trans on)
  clear st on HC c0
  obtain c0 := cells1 (HB.out w2 HS2.out)
  go_wp2_with fail
  go_end0
  exact ⟨rfl, by simpa using ST.out, ON.out⟩

set_option maxRecDepth 100000 in
set_option maxHeartbeats 2000000 in
theorem trav_complexType {w0 : World} {I : Nat → Prop} (b : Nat) {u : Value} {k0 : List ByteArray} (hI : I b) (hb : w0.heap[b]? = some (.cells #[u] 88 (0, 0))) (hu : TravOK w0 I u k0) : TravOK w0 I (.iface 87 (.pointer (some ⟨b, 0, none⟩))) ([⟨#[67, 111, 109, 112, 108, 101, 120, 84, 121, 112, 101]⟩] ++ k0) := by
  refine ⟨_, _, b, rfl, fun W => mt_complexType ⟨b, 0, none⟩ W, fun _ _ => by kernel_rfl, ?_⟩
  intro B ob kb hoB hkB hIB out w hS hst hlen
  have HV := Lib.hid (visit_any B ob kb hoB hkB out (.iface 87 (.pointer (some ⟨b, 0, none⟩))) ⟨#[67, 111, 109, 112, 108, 101, 120, 84, 121, 112, 101]⟩ (by kernel_rfl) w (kindOf_complexType ⟨b, 0, none⟩) hst (by simp only [List.length_append, List.length_cons, List.length_nil] at hlen; omega))
  have HLE := Lib.hid hlen
  have HB := Lib.hid (show ∀ W, Same I w0 W → W.heap[b]? = some (.cells #[u] 88 (0, 0)) from fun W h => (h b hI).trans hb)
  have HIB := Lib.hid hIB
  have HS := Lib.hid hS
  obtain ⟨Tu, gu, qu, rfl, mu, cu, hcu⟩ := hu
  have CU := Lib.hid hcu
  clear hst hlen hS hb hI hIB hcu
  go_enter Tryz.func131, Tryz.ntmps131
  go_wp2_with fail
  refine (HV.out).mono ?_
  rintro e w1 ⟨rfl, st, on⟩
  have ST := Lib.hid st
  have ON := Lib.hid on
  have HS1 := Lib.hid (HS.out.trans (on.same HIB.out))
  clear st on HV
  obtain c0 := cells1 (HB.out w1 HS1.out)
  have HC := Lib.hid (CU.out B ob kb hoB hkB HIB.out (out ++ [⟨#[67, 111, 109, 112, 108, 101, 120, 84, 121, 112, 101]⟩]) w1 HS1.out (by simpa using ST.out) (by have := HLE.out; simp only [List.length_append, List.length_cons, List.length_nil] at this ⊢; omega))
  clear ST
  go_wp2_with fail
  refine (HC.out).mono ?_
  rintro e w2 ⟨rfl, st, on⟩
  have ST := Lib.hid st
  have HS2 := Lib.hid (HS1.out.trans (on.same HIB.out))
  have ON := Lib.hid (ON.out.trans on)
  clear st on HC c0
  obtain c0 := cells1 (HB.out w2 HS2.out)
  go_wp2_with fail
  go_end0
  exact ⟨rfl, by simpa using ST.out, ON.out⟩

set_option maxRecDepth 100000 in
set_option maxHeartbeats 2000000 in
theorem trav_imaginaryType {w0 : World} {I : Nat → Prop} (b : Nat) {u : Value} {k0 : List ByteArray} (hI : I b) (hb : w0.heap[b]? = some (.cells #[u] 90 (0, 0))) (hu : TravOK w0 I u k0) : TravOK w0 I (.iface 89 (.pointer (some ⟨b, 0, none⟩))) ([⟨#[73, 109, 97, 103, 105, 110, 97, 114, 121, 84, 121, 112, 101]⟩] ++ k0) := by
  refine ⟨_, _, b, rfl, fun W => mt_imaginaryType ⟨b, 0, none⟩ W, fun _ _ => by kernel_rfl, ?_⟩
  intro B ob kb hoB hkB hIB out w hS hst hlen
  have HV := Lib.hid (visit_any B ob kb hoB hkB out (.iface 89 (.pointer (some ⟨b, 0, none⟩))) ⟨#[73, 109, 97, 103, 105, 110, 97, 114, 121, 84, 121, 112, 101]⟩ (by kernel_rfl) w (kindOf_imaginaryType ⟨b, 0, none⟩) hst (by simp only [List.length_append, List.length_cons, List.length_nil] at hlen; omega))
  have HLE := Lib.hid hlen
  have HB := Lib.hid (show ∀ W, Same I w0 W → W.heap[b]? = some (.cells #[u] 90 (0, 0)) from fun W h => (h b hI).trans hb)
  have HIB := Lib.hid hIB
  have HS := Lib.hid hS
  obtain ⟨Tu, gu, qu, rfl, mu, cu, hcu⟩ := hu
  have CU := Lib.hid hcu
  clear hst hlen hS hb hI hIB hcu
  go_enter Tryz.func134, Tryz.ntmps134
  go_wp2_with fail
  refine (HV.out).mono ?_
  rintro e w1 ⟨rfl, st, on⟩
  have ST := Lib.hid st
  have ON := Lib.hid on
  have HS1 := Lib.hid (HS.out.trans (on.same HIB.out))
  clear st on HV
  obtain c0 := cells1 (HB.out w1 HS1.out)
  have HC := Lib.hid (CU.out B ob kb hoB hkB HIB.out (out ++ [⟨#[73, 109, 97, 103, 105, 110, 97, 114, 121, 84, 121, 112, 101]⟩]) w1 HS1.out (by simpa using ST.out) (by have := HLE.out; simp only [List.length_append, List.length_cons, List.length_nil] at this ⊢; omega))
  clear ST
  go_wp2_with fail
  refine (HC.out).mono ?_
  rintro e w2 ⟨rfl, st, on⟩
  have ST := Lib.hid st
  have HS2 := Lib.hid (HS1.out.trans (on.same HIB.out))
  have ON := Lib.hid (ON.out.trans on)
  clear st on HC c0
  obtain c0 := cells1 (HB.out w2 HS2.out)
  go_wp2_with fail
  go_end0
  exact ⟨rfl, by simpa using ST.out, ON.out⟩

set_option maxRecDepth 100000 in
set_option maxHeartbeats 2000000 in
theorem trav_typeWithQualifiers {w0 : World} {I : Nat → Prop} (b : Nat) {u : Value} {k0 : List ByteArray} {y : Value} (hI : I b) (hb : w0.heap[b]? = some (.cells #[u, y] 93 (0, 0))) (hu : TravOK w0 I u k0) : TravOK w0 I (.iface 91 (.pointer (some ⟨b, 0, none⟩))) ([⟨#[84, 121, 112, 101, 87, 105, 116, 104, 81, 117, 97, 108, 105, 102, 105, 101, 114, 115]⟩] ++ k0) := by
  refine ⟨_, _, b, rfl, fun W => mt_typeWithQualifiers ⟨b, 0, none⟩ W, fun _ _ => by kernel_rfl, ?_⟩
  intro B ob kb hoB hkB hIB out w hS hst hlen
  have HV := Lib.hid (visit_any B ob kb hoB hkB out (.iface 91 (.pointer (some ⟨b, 0, none⟩))) ⟨#[84, 121, 112, 101, 87, 105, 116, 104, 81, 117, 97, 108, 105, 102, 105, 101, 114, 115]⟩ (by kernel_rfl) w (kindOf_typeWithQualifiers ⟨b, 0, none⟩) hst (by simp only [List.length_append, List.length_cons, List.length_nil] at hlen; omega))
  have HLE := Lib.hid hlen
  have HB := Lib.hid (show ∀ W, Same I w0 W → W.heap[b]? = some (.cells #[u, y] 93 (0, 0)) from fun W h => (h b hI).trans hb)
  have HIB := Lib.hid hIB
  have HS := Lib.hid hS
  obtain ⟨Tu, gu, qu, rfl, mu, cu, hcu⟩ := hu
  have CU := Lib.hid hcu
  clear hst hlen hS hb hI hIB hcu
  go_enter Tryz.func137, Tryz.ntmps137
  go_wp2_with fail
  refine (HV.out).mono ?_
  rintro e w1 ⟨rfl, st, on⟩
  have ST := Lib.hid st
  have ON := Lib.hid on
  have HS1 := Lib.hid (HS.out.trans (on.same HIB.out))
  clear st on HV
  obtain ⟨c0, c1⟩ := cells2 (HB.out w1 HS1.out)
  have HC := Lib.hid (CU.out B ob kb hoB hkB HIB.out (out ++ [⟨#[84, 121, 112, 101, 87, 105, 116, 104, 81, 117, 97, 108, 105, 102, 105, 101, 114, 115]⟩]) w1 HS1.out (by simpa using ST.out) (by have := HLE.out; simp only [List.length_append, List.length_cons, List.length_nil] at this ⊢; omega))
  clear ST
  go_wp2_with fail
  refine (HC.out).mono ?_
  rintro e w2 ⟨rfl, st, on⟩
  have ST := Lib.hid st
  have HS2 := Lib.hid (HS1.out.trans (on.same HIB.out))
  have ON := Lib.hid (ON.out.trans on)
  clear st on HC c0 c1
  obtain ⟨c0, c1⟩ := cells2 (HB.out w2 HS2.out)
  go_wp2_with fail
  go_end0
  exact ⟨rfl, by simpa using ST.out, ON.out⟩

set_option maxRecDepth 100000 in
set_option maxHeartbeats 2000000 in
theorem trav_methodWithQualifiers {w0 : World} {I : Nat → Prop} (b : Nat) {s : ByteArray} {u : Value} {k0 : List ByteArray} {y : Value} (hI : I b) (hb : w0.heap[b]? = some (.cells #[u, y, .string s] 102 (0, 0))) (hu : TravOK w0 I u k0) : TravOK w0 I (.iface 100 (.pointer (some ⟨b, 0, none⟩))) ([⟨#[77, 101, 116, 104, 111, 100, 87, 105, 116, 104, 81, 117, 97, 108, 105, 102, 105, 101, 114, 115]⟩] ++ k0) := by
  refine ⟨_, _, b, rfl, fun W => mt_methodWithQualifiers ⟨b, 0, none⟩ W, fun _ _ => by kernel_rfl, ?_⟩
  intro B ob kb hoB hkB hIB out w hS hst hlen
  have HV := Lib.hid (visit_any B ob kb hoB hkB out (.iface 100 (.pointer (some ⟨b, 0, none⟩))) ⟨#[77, 101, 116, 104, 111, 100, 87, 105, 116, 104, 81, 117, 97, 108, 105, 102, 105, 101, 114, 115]⟩ (by kernel_rfl) w (kindOf_methodWithQualifiers ⟨b, 0, none⟩) hst (by simp only [List.length_append, List.length_cons, List.length_nil] at hlen; omega))
  have HLE := Lib.hid hlen
  have HB := Lib.hid (show ∀ W, Same I w0 W → W.heap[b]? = some (.cells #[u, y, .string s] 102 (0, 0)) from fun W h => (h b hI).trans hb)
  have HIB := Lib.hid hIB
  have HS := Lib.hid hS
  obtain ⟨Tu, gu, qu, rfl, mu, cu, hcu⟩ := hu
  have CU := Lib.hid hcu
  clear hst hlen hS hb hI hIB hcu
  go_enter Tryz.func146, Tryz.ntmps146
  go_wp2_with fail
  refine (HV.out).mono ?_
  rintro e w1 ⟨rfl, st, on⟩
  have ST := Lib.hid st
  have ON := Lib.hid on
  have HS1 := Lib.hid (HS.out.trans (on.same HIB.out))
  clear st on HV
  obtain ⟨c0, c1, c2⟩ := cells3 (HB.out w1 HS1.out)
  have HC := Lib.hid (CU.out B ob kb hoB hkB HIB.out (out ++ [⟨#[77, 101, 116, 104, 111, 100, 87, 105, 116, 104, 81, 117, 97, 108, 105, 102, 105, 101, 114, 115]⟩]) w1 HS1.out (by simpa using ST.out) (by have := HLE.out; simp only [List.length_append, List.length_cons, List.length_nil] at this ⊢; omega))
  clear ST
  go_wp2_with fail
  refine (HC.out).mono ?_
  rintro e w2 ⟨rfl, st, on⟩
  have ST := Lib.hid st
  have HS2 := Lib.hid (HS1.out.trans (on.same HIB.out))
  have ON := Lib.hid (ON.out.trans on)
  clear st on HC c0 c1 c2
  obtain ⟨c0, c1, c2⟩ := cells3 (HB.out w2 HS2.out)
  go_wp2_with fail
  go_end0
  exact ⟨rfl, by simpa using ST.out, ON.out⟩

set_option maxRecDepth 100000 in
set_option maxHeartbeats 2000000 in
theorem trav_methodNil {w0 : World} {I : Nat → Prop} (b : Nat) {s : ByteArray} {u : Value} {k0 : List ByteArray} (hI : I b) (hb : w0.heap[b]? = some (.cells #[u, .nilIface, .string s] 102 (0, 0))) (hu : TravOK w0 I u k0) : TravOK w0 I (.iface 100 (.pointer (some ⟨b, 0, none⟩))) ([⟨#[77, 101, 116, 104, 111, 100, 87, 105, 116, 104, 81, 117, 97, 108, 105, 102, 105, 101, 114, 115]⟩] ++ k0) := by
  refine ⟨_, _, b, rfl, fun W => mt_methodWithQualifiers ⟨b, 0, none⟩ W, fun _ _ => by kernel_rfl, ?_⟩
  intro B ob kb hoB hkB hIB out w hS hst hlen
  have HV := Lib.hid (visit_any B ob kb hoB hkB out (.iface 100 (.pointer (some ⟨b, 0, none⟩))) ⟨#[77, 101, 116, 104, 111, 100, 87, 105, 116, 104, 81, 117, 97, 108, 105, 102, 105, 101, 114, 115]⟩ (by kernel_rfl) w (kindOf_methodWithQualifiers ⟨b, 0, none⟩) hst (by simp only [List.length_append, List.length_cons, List.length_nil] at hlen; omega))
  have HLE := Lib.hid hlen
  have HB := Lib.hid (show ∀ W, Same I w0 W → W.heap[b]? = some (.cells #[u, .nilIface, .string s] 102 (0, 0)) from fun W h => (h b hI).trans hb)
  have HIB := Lib.hid hIB
  have HS := Lib.hid hS
  obtain ⟨Tu, gu, qu, rfl, mu, cu, hcu⟩ := hu
  have CU := Lib.hid hcu
  clear hst hlen hS hb hI hIB hcu
  go_enter Tryz.func146, Tryz.ntmps146
  go_wp2_with fail
  refine (HV.out).mono ?_
  rintro e w1 ⟨rfl, st, on⟩
  have ST := Lib.hid st
  have ON := Lib.hid on
  have HS1 := Lib.hid (HS.out.trans (on.same HIB.out))
  clear st on HV
  obtain ⟨c0, c1, c2⟩ := cells3 (HB.out w1 HS1.out)
  have HC := Lib.hid (CU.out B ob kb hoB hkB HIB.out (out ++ [⟨#[77, 101, 116, 104, 111, 100, 87, 105, 116, 104, 81, 117, 97, 108, 105, 102, 105, 101, 114, 115]⟩]) w1 HS1.out (by simpa using ST.out) (by have := HLE.out; simp only [List.length_append, List.length_cons, List.length_nil] at this ⊢; omega))
  clear ST
  go_wp2_with fail
  refine (HC.out).mono ?_
  rintro e w2 ⟨rfl, st, on⟩
  have ST := Lib.hid st
  have HS2 := Lib.hid (HS1.out.trans (on.same HIB.out))
  have ON := Lib.hid (ON.out.trans on)
  clear st on HC c0 c1 c2
  obtain ⟨c0, c1, c2⟩ := cells3 (HB.out w2 HS2.out)
  go_wp2_with fail
  go_end0
  exact ⟨rfl, by simpa using ST.out, ON.out⟩

set_option maxRecDepth 100000 in
set_option maxHeartbeats 2000000 in
theorem trav_arrayType {w0 : World} {I : Nat → Prop} (b : Nat) {u : Value} {k0 : List ByteArray} {y : Value} {k1 : List ByteArray} (hI : I b) (hb : w0.heap[b]? = some (.cells #[u, y] 110 (0, 0))) (hu : TravOK w0 I u k0) (hy : TravOK w0 I y k1) : TravOK w0 I (.iface 108 (.pointer (some ⟨b, 0, none⟩))) ([⟨#[65, 114, 114, 97, 121, 84, 121, 112, 101]⟩] ++ k0 ++ k1) := by
  refine ⟨_, _, b, rfl, fun W => mt_arrayType ⟨b, 0, none⟩ W, fun _ _ => by kernel_rfl, ?_⟩
  intro B ob kb hoB hkB hIB out w hS hst hlen
  have HV := Lib.hid (visit_any B ob kb hoB hkB out (.iface 108 (.pointer (some ⟨b, 0, none⟩))) ⟨#[65, 114, 114, 97, 121, 84, 121, 112, 101]⟩ (by kernel_rfl) w (kindOf_arrayType ⟨b, 0, none⟩) hst (by simp only [List.length_append, List.length_cons, List.length_nil] at hlen; omega))
  have HLE := Lib.hid hlen
  have HB := Lib.hid (show ∀ W, Same I w0 W → W.heap[b]? = some (.cells #[u, y] 110 (0, 0)) from fun W h => (h b hI).trans hb)
  have HIB := Lib.hid hIB
  have HS := Lib.hid hS
  obtain ⟨Tu, gu, qu, rfl, mu, cu, hcu⟩ := hu
  have CU := Lib.hid hcu
  obtain ⟨Ty, gy, qy, rfl, my, cy, hcy⟩ := hy
  have CY := Lib.hid hcy
  clear hst hlen hS hb hI hIB hcu hcy
  go_enter Tryz.func149, Tryz.ntmps149
  go_wp2_with fail
  refine (HV.out).mono ?_
  rintro e w1 ⟨rfl, st, on⟩
  have ST := Lib.hid st
  have ON := Lib.hid on
  have HS1 := Lib.hid (HS.out.trans (on.same HIB.out))
  clear st on HV
  obtain ⟨c0, c1⟩ := cells2 (HB.out w1 HS1.out)
  have HC := Lib.hid (CU.out B ob kb hoB hkB HIB.out (out ++ [⟨#[65, 114, 114, 97, 121, 84, 121, 112, 101]⟩]) w1 HS1.out (by simpa using ST.out) (by have := HLE.out; simp only [List.length_append, List.length_cons, List.length_nil] at this ⊢; omega))
  clear ST
  go_wp2_with fail
  refine (HC.out).mono ?_
  rintro e w2 ⟨rfl, st, on⟩
  have ST := Lib.hid st
  have HS2 := Lib.hid (HS1.out.trans (on.same HIB.out))
  have ON := Lib.hid (ON.out.trans on)
  clear st on HC c0 c1
  obtain ⟨c0, c1⟩ := cells2 (HB.out w2 HS2.out)
  have HC := Lib.hid (CY.out B ob kb hoB hkB HIB.out (out ++ [⟨#[65, 114, 114, 97, 121, 84, 121, 112, 101]⟩] ++ k0) w2 HS2.out (by simpa using ST.out) (by have := HLE.out; simp only [List.length_append, List.length_cons, List.length_nil] at this ⊢; omega))
  clear ST
  go_wp2_with fail
  refine (HC.out).mono ?_
  rintro e w3 ⟨rfl, st, on⟩
  have ST := Lib.hid st
  have HS3 := Lib.hid (HS2.out.trans (on.same HIB.out))
  have ON := Lib.hid (ON.out.trans on)
  clear st on HC c0 c1
  obtain ⟨c0, c1⟩ := cells2 (HB.out w3 HS3.out)
  go_wp2_with fail
  go_end0
  exact ⟨rfl, by simpa using ST.out, ON.out⟩

set_option maxRecDepth 100000 in
set_option maxHeartbeats 2000000 in
theorem trav_vectorType {w0 : World} {I : Nat → Prop} (b : Nat) {u : Value} {k0 : List ByteArray} {y : Value} {k1 : List ByteArray} (hI : I b) (hb : w0.heap[b]? = some (.cells #[u, y] 113 (0, 0))) (hu : TravOK w0 I u k0) (hy : TravOK w0 I y k1) : TravOK w0 I (.iface 111 (.pointer (some ⟨b, 0, none⟩))) ([⟨#[86, 101, 99, 116, 111, 114, 84, 121, 112, 101]⟩] ++ k0 ++ k1) := by
  refine ⟨_, _, b, rfl, fun W => mt_vectorType ⟨b, 0, none⟩ W, fun _ _ => by kernel_rfl, ?_⟩
  intro B ob kb hoB hkB hIB out w hS hst hlen
  have HV := Lib.hid (visit_any B ob kb hoB hkB out (.iface 111 (.pointer (some ⟨b, 0, none⟩))) ⟨#[86, 101, 99, 116, 111, 114, 84, 121, 112, 101]⟩ (by kernel_rfl) w (kindOf_vectorType ⟨b, 0, none⟩) hst (by simp only [List.length_append, List.length_cons, List.length_nil] at hlen; omega))
  have HLE := Lib.hid hlen
  have HB := Lib.hid (show ∀ W, Same I w0 W → W.heap[b]? = some (.cells #[u, y] 113 (0, 0)) from fun W h => (h b hI).trans hb)
  have HIB := Lib.hid hIB
  have HS := Lib.hid hS
  obtain ⟨Tu, gu, qu, rfl, mu, cu, hcu⟩ := hu
  have CU := Lib.hid hcu
  obtain ⟨Ty, gy, qy, rfl, my, cy, hcy⟩ := hy
  have CY := Lib.hid hcy
  clear hst hlen hS hb hI hIB hcu hcy
  go_enter Tryz.func152, Tryz.ntmps152
  go_wp2_with fail
  refine (HV.out).mono ?_
  rintro e w1 ⟨rfl, st, on⟩
  have ST := Lib.hid st
  have ON := Lib.hid on
  have HS1 := Lib.hid (HS.out.trans (on.same HIB.out))
  clear st on HV
  obtain ⟨c0, c1⟩ := cells2 (HB.out w1 HS1.out)
  have HC := Lib.hid (CU.out B ob kb hoB hkB HIB.out (out ++ [⟨#[86, 101, 99, 116, 111, 114, 84, 121, 112, 101]⟩]) w1 HS1.out (by simpa using ST.out) (by have := HLE.out; simp only [List.length_append, List.length_cons, List.length_nil] at this ⊢; omega))
  clear ST
  go_wp2_with fail
  refine (HC.out).mono ?_
  rintro e w2 ⟨rfl, st, on⟩
  have ST := Lib.hid st
  have HS2 := Lib.hid (HS1.out.trans (on.same HIB.out))
  have ON := Lib.hid (ON.out.trans on)
  clear st on HC c0 c1
  obtain ⟨c0, c1⟩ := cells2 (HB.out w2 HS2.out)
  have HC := Lib.hid (CY.out B ob kb hoB hkB HIB.out (out ++ [⟨#[86, 101, 99, 116, 111, 114, 84, 121, 112, 101]⟩] ++ k0) w2 HS2.out (by simpa using ST.out) (by have := HLE.out; simp only [List.length_append, List.length_cons, List.length_nil] at this ⊢; omega))
  clear ST
  go_wp2_with fail
  refine (HC.out).mono ?_
  rintro e w3 ⟨rfl, st, on⟩
  have ST := Lib.hid st
  have HS3 := Lib.hid (HS2.out.trans (on.same HIB.out))
  have ON := Lib.hid (ON.out.trans on)
  clear st on HC c0 c1
  obtain ⟨c0, c1⟩ := cells2 (HB.out w3 HS3.out)
  go_wp2_with fail
  go_end0
  exact ⟨rfl, by simpa using ST.out, ON.out⟩

set_option maxRecDepth 100000 in
set_option maxHeartbeats 2000000 in
theorem trav_ptrMem {w0 : World} {I : Nat → Prop} (b : Nat) {u : Value} {k0 : List ByteArray} {y : Value} {k1 : List ByteArray} (hI : I b) (hb : w0.heap[b]? = some (.cells #[u, y] 116 (0, 0))) (hu : TravOK w0 I u k0) (hy : TravOK w0 I y k1) : TravOK w0 I (.iface 114 (.pointer (some ⟨b, 0, none⟩))) ([⟨#[80, 116, 114, 77, 101, 109]⟩] ++ k0 ++ k1) := by
  refine ⟨_, _, b, rfl, fun W => mt_ptrMem ⟨b, 0, none⟩ W, fun _ _ => by kernel_rfl, ?_⟩
  intro B ob kb hoB hkB hIB out w hS hst hlen
  have HV := Lib.hid (visit_any B ob kb hoB hkB out (.iface 114 (.pointer (some ⟨b, 0, none⟩))) ⟨#[80, 116, 114, 77, 101, 109]⟩ (by kernel_rfl) w (kindOf_ptrMem ⟨b, 0, none⟩) hst (by simp only [List.length_append, List.length_cons, List.length_nil] at hlen; omega))
  have HLE := Lib.hid hlen
  have HB := Lib.hid (show ∀ W, Same I w0 W → W.heap[b]? = some (.cells #[u, y] 116 (0, 0)) from fun W h => (h b hI).trans hb)
  have HIB := Lib.hid hIB
  have HS := Lib.hid hS
  obtain ⟨Tu, gu, qu, rfl, mu, cu, hcu⟩ := hu
  have CU := Lib.hid hcu
  obtain ⟨Ty, gy, qy, rfl, my, cy, hcy⟩ := hy
  have CY := Lib.hid hcy
  clear hst hlen hS hb hI hIB hcu hcy
  go_enter Tryz.func155, Tryz.ntmps155
  go_wp2_with fail
  refine (HV.out).mono ?_
  rintro e w1 ⟨rfl, st, on⟩
  have ST := Lib.hid st
  have ON := Lib.hid on
  have HS1 := Lib.hid (HS.out.trans (on.same HIB.out))
  clear st on HV
  obtain ⟨c0, c1⟩ := cells2 (HB.out w1 HS1.out)
  have HC := Lib.hid (CU.out B ob kb hoB hkB HIB.out (out ++ [⟨#[80, 116, 114, 77, 101, 109]⟩]) w1 HS1.out (by simpa using ST.out) (by have := HLE.out; simp only [List.length_append, List.length_cons, List.length_nil] at this ⊢; omega))
  clear ST
  go_wp2_with fail
  refine (HC.out).mono ?_
  rintro e w2 ⟨rfl, st, on⟩
  have ST := Lib.hid st
  have HS2 := Lib.hid (HS1.out.trans (on.same HIB.out))
  have ON := Lib.hid (ON.out.trans on)
  clear st on HC c0 c1
  obtain ⟨c0, c1⟩ := cells2 (HB.out w2 HS2.out)
  have HC := Lib.hid (CY.out B ob kb hoB hkB HIB.out (out ++ [⟨#[80, 116, 114, 77, 101, 109]⟩] ++ k0) w2 HS2.out (by simpa using ST.out) (by have := HLE.out; simp only [List.length_append, List.length_cons, List.length_nil] at this ⊢; omega))
  clear ST
  go_wp2_with fail
  refine (HC.out).mono ?_
  rintro e w3 ⟨rfl, st, on⟩
  have ST := Lib.hid st
  have HS3 := Lib.hid (HS2.out.trans (on.same HIB.out))
  have ON := Lib.hid (ON.out.trans on)
  clear st on HC c0 c1
  obtain ⟨c0, c1⟩ := cells2 (HB.out w3 HS3.out)
  go_wp2_with fail
  go_end0
  exact ⟨rfl, by simpa using ST.out, ON.out⟩

set_option maxRecDepth 100000 in
set_option maxHeartbeats 2000000 in
theorem trav_vendorQualifier {w0 : World} {I : Nat → Prop} (b : Nat) {u : Value} {k0 : List ByteArray} {y : Value} {k1 : List ByteArray} (hI : I b) (hb : w0.heap[b]? = some (.cells #[u, y] 119 (0, 0))) (hu : TravOK w0 I u k0) (hy : TravOK w0 I y k1) : TravOK w0 I (.iface 117 (.pointer (some ⟨b, 0, none⟩))) ([⟨#[86, 101, 110, 100, 111, 114, 81, 117, 97, 108, 105, 102, 105, 101, 114]⟩] ++ k0 ++ k1) := by
  refine ⟨_, _, b, rfl, fun W => mt_vendorQualifier ⟨b, 0, none⟩ W, fun _ _ => by kernel_rfl, ?_⟩
  intro B ob kb hoB hkB hIB out w hS hst hlen
  have HV := Lib.hid (visit_any B ob kb hoB hkB out (.iface 117 (.pointer (some ⟨b, 0, none⟩))) ⟨#[86, 101, 110, 100, 111, 114, 81, 117, 97, 108, 105, 102, 105, 101, 114]⟩ (by kernel_rfl) w (kindOf_vendorQualifier ⟨b, 0, none⟩) hst (by simp only [List.length_append, List.length_cons, List.length_nil] at hlen; omega))
  have HLE := Lib.hid hlen
  have HB := Lib.hid (show ∀ W, Same I w0 W → W.heap[b]? = some (.cells #[u, y] 119 (0, 0)) from fun W h => (h b hI).trans hb)
  have HIB := Lib.hid hIB
  have HS := Lib.hid hS
  obtain ⟨Tu, gu, qu, rfl, mu, cu, hcu⟩ := hu
  have CU := Lib.hid hcu
  obtain ⟨Ty, gy, qy, rfl, my, cy, hcy⟩ := hy
  have CY := Lib.hid hcy
  clear hst hlen hS hb hI hIB hcu hcy
  go_enter Tryz.func158, Tryz.ntmps158
  go_wp2_with fail
  refine (HV.out).mono ?_
  rintro e w1 ⟨rfl, st, on⟩
  have ST := Lib.hid st
  have ON := Lib.hid on
  have HS1 := Lib.hid (HS.out.trans (on.same HIB.out))
  clear st on HV
  obtain ⟨c0, c1⟩ := cells2 (HB.out w1 HS1.out)
  have HC := Lib.hid (CU.out B ob kb hoB hkB HIB.out (out ++ [⟨#[86, 101, 110, 100, 111, 114, 81, 117, 97, 108, 105, 102, 105, 101, 114]⟩]) w1 HS1.out (by simpa using ST.out) (by have := HLE.out; simp only [List.length_append, List.length_cons, List.length_nil] at this ⊢; omega))
  clear ST
  go_wp2_with fail
  refine (HC.out).mono ?_
  rintro e w2 ⟨rfl, st, on⟩
  have ST := Lib.hid st
  have HS2 := Lib.hid (HS1.out.trans (on.same HIB.out))
  have ON := Lib.hid (ON.out.trans on)
  clear st on HC c0 c1
  obtain ⟨c0, c1⟩ := cells2 (HB.out w2 HS2.out)
  have HC := Lib.hid (CY.out B ob kb hoB hkB HIB.out (out ++ [⟨#[86, 101, 110, 100, 111, 114, 81, 117, 97, 108, 105, 102, 105, 101, 114]⟩] ++ k0) w2 HS2.out (by simpa using ST.out) (by have := HLE.out; simp only [List.length_append, List.length_cons, List.length_nil] at this ⊢; omega))
  clear ST
  go_wp2_with fail
  refine (HC.out).mono ?_
  rintro e w3 ⟨rfl, st, on⟩
  have ST := Lib.hid st
  have HS3 := Lib.hid (HS2.out.trans (on.same HIB.out))
  have ON := Lib.hid (ON.out.trans on)
  clear st on HC c0 c1
  obtain ⟨c0, c1⟩ := cells2 (HB.out w3 HS3.out)
  go_wp2_with fail
  go_end0
  exact ⟨rfl, by simpa using ST.out, ON.out⟩

set_option maxRecDepth 100000 in
set_option maxHeartbeats 2000000 in
theorem trav_literal {w0 : World} {I : Nat → Prop} (b : Nat) {s : ByteArray} {n : Int} {u : Value} {k0 : List ByteArray} (hI : I b) (hb : w0.heap[b]? = some (.cells #[u, .string s, .bool (n == 1)] 128 (0, 0))) (hu : TravOK w0 I u k0) : TravOK w0 I (.iface 126 (.pointer (some ⟨b, 0, none⟩))) ([⟨#[76, 105, 116, 101, 114, 97, 108]⟩] ++ k0) := by
  refine ⟨_, _, b, rfl, fun W => mt_literal ⟨b, 0, none⟩ W, fun _ _ => by kernel_rfl, ?_⟩
  intro B ob kb hoB hkB hIB out w hS hst hlen
  have HV := Lib.hid (visit_any B ob kb hoB hkB out (.iface 126 (.pointer (some ⟨b, 0, none⟩))) ⟨#[76, 105, 116, 101, 114, 97, 108]⟩ (by kernel_rfl) w (kindOf_literal ⟨b, 0, none⟩) hst (by simp only [List.length_append, List.length_cons, List.length_nil] at hlen; omega))
  have HLE := Lib.hid hlen
  have HB := Lib.hid (show ∀ W, Same I w0 W → W.heap[b]? = some (.cells #[u, .string s, .bool (n == 1)] 128 (0, 0)) from fun W h => (h b hI).trans hb)
  have HIB := Lib.hid hIB
  have HS := Lib.hid hS
  obtain ⟨Tu, gu, qu, rfl, mu, cu, hcu⟩ := hu
  have CU := Lib.hid hcu
  clear hst hlen hS hb hI hIB hcu
  go_enter Tryz.func167, Tryz.ntmps167
  go_wp2_with fail
  refine (HV.out).mono ?_
  rintro e w1 ⟨rfl, st, on⟩
  have ST := Lib.hid st
  have ON := Lib.hid on
  have HS1 := Lib.hid (HS.out.trans (on.same HIB.out))
  clear st on HV
  obtain ⟨c0, c1, c2⟩ := cells3 (HB.out w1 HS1.out)
  have HC := Lib.hid (CU.out B ob kb hoB hkB HIB.out (out ++ [⟨#[76, 105, 116, 101, 114, 97, 108]⟩]) w1 HS1.out (by simpa using ST.out) (by have := HLE.out; simp only [List.length_append, List.length_cons, List.length_nil] at this ⊢; omega))
  clear ST
  go_wp2_with fail
  refine (HC.out).mono ?_
  rintro e w2 ⟨rfl, st, on⟩
  have ST := Lib.hid st
  have HS2 := Lib.hid (HS1.out.trans (on.same HIB.out))
  have ON := Lib.hid (ON.out.trans on)
  clear st on HC c0 c1 c2
  obtain ⟨c0, c1, c2⟩ := cells3 (HB.out w2 HS2.out)
  go_wp2_with fail
  go_end0
  exact ⟨rfl, by simpa using ST.out, ON.out⟩

set_option maxRecDepth 100000 in
set_option maxHeartbeats 2000000 in
theorem trav_unnamedType {w0 : World} {I : Nat → Prop} (b : Nat) {n : Int} (hI : I b) (hb : w0.heap[b]? = some (.cells #[.int .i64 n] 141 (0, 0))) : TravOK w0 I (.iface 139 (.pointer (some ⟨b, 0, none⟩))) ([⟨#[85, 110, 110, 97, 109, 101, 100, 84, 121, 112, 101]⟩]) := by
  refine ⟨_, _, b, rfl, fun W => mt_unnamedType ⟨b, 0, none⟩ W, fun _ _ => by kernel_rfl, ?_⟩
  intro B ob kb hoB hkB hIB out w hS hst hlen
  have HV := Lib.hid (visit_any B ob kb hoB hkB out (.iface 139 (.pointer (some ⟨b, 0, none⟩))) ⟨#[85, 110, 110, 97, 109, 101, 100, 84, 121, 112, 101]⟩ (by kernel_rfl) w (kindOf_unnamedType ⟨b, 0, none⟩) hst (by simp only [List.length_append, List.length_cons, List.length_nil] at hlen; omega))
  have HLE := Lib.hid hlen
  have HB := Lib.hid (show ∀ W, Same I w0 W → W.heap[b]? = some (.cells #[.int .i64 n] 141 (0, 0)) from fun W h => (h b hI).trans hb)
  have HIB := Lib.hid hIB
  have HS := Lib.hid hS
  clear hst hlen hS hb hI hIB
  go_enter Tryz.func179, Tryz.ntmps179
  go_wp2_with fail
  refine (HV.out).mono ?_
  rintro e w1 ⟨rfl, st, on⟩
  have ST := Lib.hid st
  have ON := Lib.hid on
  have HS1 := Lib.hid (HS.out.trans (on.same HIB.out))
  clear st on HV
  go_wp2_with fail
  go_end0
  exact ⟨rfl, ST.out, ON.out⟩

set_option maxRecDepth 100000 in
set_option maxHeartbeats 2000000 in
theorem trav_taggedName {w0 : World} {I : Nat → Prop} (b : Nat) {u : Value} {k0 : List ByteArray} {y : Value} {k1 : List ByteArray} (hI : I b) (hb : w0.heap[b]? = some (.cells #[u, y] 144 (0, 0))) (hu : TravOK w0 I u k0) (hy : TravOK w0 I y k1) : TravOK w0 I (.iface 142 (.pointer (some ⟨b, 0, none⟩))) ([⟨#[84, 97, 103, 103, 101, 100, 78, 97, 109, 101]⟩] ++ k0 ++ k1) := by
  refine ⟨_, _, b, rfl, fun W => mt_taggedName ⟨b, 0, none⟩ W, fun _ _ => by kernel_rfl, ?_⟩
  intro B ob kb hoB hkB hIB out w hS hst hlen
  have HV := Lib.hid (visit_any B ob kb hoB hkB out (.iface 142 (.pointer (some ⟨b, 0, none⟩))) ⟨#[84, 97, 103, 103, 101, 100, 78, 97, 109, 101]⟩ (by kernel_rfl) w (kindOf_taggedName ⟨b, 0, none⟩) hst (by simp only [List.length_append, List.length_cons, List.length_nil] at hlen; omega))
  have HLE := Lib.hid hlen
  have HB := Lib.hid (show ∀ W, Same I w0 W → W.heap[b]? = some (.cells #[u, y] 144 (0, 0)) from fun W h => (h b hI).trans hb)
  have HIB := Lib.hid hIB
  have HS := Lib.hid hS
  obtain ⟨Tu, gu, qu, rfl, mu, cu, hcu⟩ := hu
  have CU := Lib.hid hcu
  obtain ⟨Ty, gy, qy, rfl, my, cy, hcy⟩ := hy
  have CY := Lib.hid hcy
  clear hst hlen hS hb hI hIB hcu hcy
  go_enter Tryz.func182, Tryz.ntmps182
  go_wp2_with fail
  refine (HV.out).mono ?_
  rintro e w1 ⟨rfl, st, on⟩
  have ST := Lib.hid st
  have ON := Lib.hid on
  have HS1 := Lib.hid (HS.out.trans (on.same HIB.out))
  clear st on HV
  obtain ⟨c0, c1⟩ := cells2 (HB.out w1 HS1.out)
  have HC := Lib.hid (CU.out B ob kb hoB hkB HIB.out (out ++ [⟨#[84, 97, 103, 103, 101, 100, 78, 97, 109, 101]⟩]) w1 HS1.out (by simpa using ST.out) (by have := HLE.out; simp only [List.length_append, List.length_cons, List.length_nil] at this ⊢; omega))
  clear ST
  go_wp2_with fail
  refine (HC.out).mono ?_
  rintro e w2 ⟨rfl, st, on⟩
  have ST := Lib.hid st
  have HS2 := Lib.hid (HS1.out.trans (on.same HIB.out))
  have ON := Lib.hid (ON.out.trans on)
  clear st on HC c0 c1
  obtain ⟨c0, c1⟩ := cells2 (HB.out w2 HS2.out)
  have HC := Lib.hid (CY.out B ob kb hoB hkB HIB.out (out ++ [⟨#[84, 97, 103, 103, 101, 100, 78, 97, 109, 101]⟩] ++ k0) w2 HS2.out (by simpa using ST.out) (by have := HLE.out; simp only [List.length_append, List.length_cons, List.length_nil] at this ⊢; omega))
  clear ST
  go_wp2_with fail
  refine (HC.out).mono ?_
  rintro e w3 ⟨rfl, st, on⟩
  have ST := Lib.hid st
  have HS3 := Lib.hid (HS2.out.trans (on.same HIB.out))
  have ON := Lib.hid (ON.out.trans on)
  clear st on HC c0 c1
  obtain ⟨c0, c1⟩ := cells2 (HB.out w3 HS3.out)
  go_wp2_with fail
  go_end0
  exact ⟨rfl, by simpa using ST.out, ON.out⟩

set_option maxRecDepth 100000 in
set_option maxHeartbeats 2000000 in
theorem trav_cast {w0 : World} {I : Nat → Prop} (b : Nat) {u : Value} {k0 : List ByteArray} (hI : I b) (hb : w0.heap[b]? = some (.cells #[u] 156 (0, 0))) (hu : TravOK w0 I u k0) : TravOK w0 I (.iface 154 (.pointer (some ⟨b, 0, none⟩))) ([⟨#[67, 97, 115, 116]⟩] ++ k0) := by
  refine ⟨_, _, b, rfl, fun W => mt_cast ⟨b, 0, none⟩ W, fun _ _ => by kernel_rfl, ?_⟩
  intro B ob kb hoB hkB hIB out w hS hst hlen
  have HV := Lib.hid (visit_any B ob kb hoB hkB out (.iface 154 (.pointer (some ⟨b, 0, none⟩))) ⟨#[67, 97, 115, 116]⟩ (by kernel_rfl) w (kindOf_cast ⟨b, 0, none⟩) hst (by simp only [List.length_append, List.length_cons, List.length_nil] at hlen; omega))
  have HLE := Lib.hid hlen
  have HB := Lib.hid (show ∀ W, Same I w0 W → W.heap[b]? = some (.cells #[u] 156 (0, 0)) from fun W h => (h b hI).trans hb)
  have HIB := Lib.hid hIB
  have HS := Lib.hid hS
  obtain ⟨Tu, gu, qu, rfl, mu, cu, hcu⟩ := hu
  have CU := Lib.hid hcu
  clear hst hlen hS hb hI hIB hcu
  go_enter Tryz.func194, Tryz.ntmps194
  go_wp2_with fail
  refine (HV.out).mono ?_
  rintro e w1 ⟨rfl, st, on⟩
  have ST := Lib.hid st
  have ON := Lib.hid on
  have HS1 := Lib.hid (HS.out.trans (on.same HIB.out))
  clear st on HV
  obtain c0 := cells1 (HB.out w1 HS1.out)
  have HC := Lib.hid (CU.out B ob kb hoB hkB HIB.out (out ++ [⟨#[67, 97, 115, 116]⟩]) w1 HS1.out (by simpa using ST.out) (by have := HLE.out; simp only [List.length_append, List.length_cons, List.length_nil] at this ⊢; omega))
  clear ST
  go_wp2_with fail
  refine (HC.out).mono ?_
  rintro e w2 ⟨rfl, st, on⟩
  have ST := Lib.hid st
  have HS2 := Lib.hid (HS1.out.trans (on.same HIB.out))
  have ON := Lib.hid (ON.out.trans on)
  clear st on HC c0
  obtain c0 := cells1 (HB.out w2 HS2.out)
  go_wp2_with fail
  go_end0
  exact ⟨rfl, by simpa using ST.out, ON.out⟩

end Go.Proofs.YtnhccgbkalpcnaaGreatDoor
