/- impl.nodeOf kind by kind. -/
import Derived.Test.YtnhccgbkalpcnaaGreatDoorNodeJ
import Derived.Deep.RegionWith
namespace Go.Proofs.YtnhccgbkalpcnaaGreatDoor
open Go.RowKit

set_option maxRecDepth 100000 in
set_option maxHeartbeats 4000000 in
theorem node_name {w0 : World} {I : Nat → Prop} (b : Nat) {s : ByteArray} (hI : I b) (hb : w0.heap[b]? = some (.cells #[.string s] 48 (0, 0))) : MkOK w0 I (.node ⟨#[78, 97, 109, 101]⟩ s 0 []) (.iface 45 (.pointer (some ⟨b, 0, none⟩))) := by
  intro w hM
  have HN := Lib.hid (fun W (h : MS w0 I W) => node_of0 ⟨#[78, 97, 109, 101]⟩ s 0 h)
  have BB := Lib.hid (box_below w (.cells #[.string ⟨#[]⟩, .string ⟨#[]⟩, .int .i64 0, .slice none 0 0] 24))
  have RR := Lib.hid (show (w.alloc (.cells #[.string ⟨#[]⟩, .string ⟨#[]⟩, .int .i64 0, .slice none 0 0] 24)).heap[w.heap.size]? = some (.cells #[.string ⟨#[]⟩, .string ⟨#[]⟩, .int .i64 0, .slice none 0 0] 24 (0, 0)) from heap_alloc_new w _)
  have MM := Lib.hid (hM.on (box_below w (.cells #[.string ⟨#[]⟩, .string ⟨#[]⟩, .int .i64 0, .slice none 0 0] 24)))
  obtain ⟨w1, hw1⟩ : ∃ w1, w1 = w.alloc (.cells #[.string ⟨#[]⟩, .string ⟨#[]⟩, .int .i64 0, .slice none 0 0] 24) := ⟨_, rfl⟩
  clear hM
  have HC := Lib.hid (show ∀ W, MS w0 I W → W.heap[b]? = some (.cells #[.string s] 48 (0, 0)) from fun W h => (h.same b hI).trans hb)
  clear hb hI
  have tName := fun W => (show (Instr.typeAssert (.iface 45 (.pointer (some ⟨b, 0, none⟩))) 38 45 true).run Tryz.prog W = .ok (.tuple #[.pointer (some ⟨b, 0, none⟩), .bool true]) W from by kernel_rfl)
  have HK := Lib.hid (fun W => kindOf_name ⟨b, 0, none⟩ W)
  rw [← hw1] at BB RR MM
  have CE := Lib.hid (HC.out _ MM.out)
  go_enter Tryz.func28, Tryz.ntmps28
  go_wp2_with fail
  rw [← hw1]
  refine (HK.out _).mono ?_
  rintro e w2 ⟨rfl, rfl⟩
  clear hw1 HK
  obtain c0 := cells1 CE.out
  clear CE
  go_wp2_with fail
  have MD := MM
  have BD := BB
  have RD := RR
  refine (HN.out _ MD.out).mono ?_
  rintro e w3 ⟨⟨kv3, rfl, hr3⟩, b3⟩
  obtain ⟨⟨⟨z0, z1, z2, z3⟩, fr⟩, ⟨ka, kn, kc, hkv⟩, X0⟩ := node_fin BD.out RD.out hr3 b3
  subst hkv
  have X := Lib.hid X0
  clear hr3 b3 X0
  go_wp2_with fail
  (try simp only [Exit.inBlock, Exit.then])
  refine bodyPost_ret (by simp [results, Tryz.results28, go_sem, z0, z1, z2, z3]; try rfl) rfl ?_
  exact X.out _ _ _ _

set_option maxRecDepth 100000 in
set_option maxHeartbeats 4000000 in
theorem node_builtinType {w0 : World} {I : Nat → Prop} (b : Nat) {s : ByteArray} (hI : I b) (hb : w0.heap[b]? = some (.cells #[.string s] 54 (0, 0))) : MkOK w0 I (.node ⟨#[66, 117, 105, 108, 116, 105, 110, 84, 121, 112, 101]⟩ s 0 []) (.iface 53 (.pointer (some ⟨b, 0, none⟩))) := by
  intro w hM
  have HN := Lib.hid (fun W (h : MS w0 I W) => node_of0 ⟨#[66, 117, 105, 108, 116, 105, 110, 84, 121, 112, 101]⟩ s 0 h)
  have BB := Lib.hid (box_below w (.cells #[.string ⟨#[]⟩, .string ⟨#[]⟩, .int .i64 0, .slice none 0 0] 24))
  have RR := Lib.hid (show (w.alloc (.cells #[.string ⟨#[]⟩, .string ⟨#[]⟩, .int .i64 0, .slice none 0 0] 24)).heap[w.heap.size]? = some (.cells #[.string ⟨#[]⟩, .string ⟨#[]⟩, .int .i64 0, .slice none 0 0] 24 (0, 0)) from heap_alloc_new w _)
  have MM := Lib.hid (hM.on (box_below w (.cells #[.string ⟨#[]⟩, .string ⟨#[]⟩, .int .i64 0, .slice none 0 0] 24)))
  obtain ⟨w1, hw1⟩ : ∃ w1, w1 = w.alloc (.cells #[.string ⟨#[]⟩, .string ⟨#[]⟩, .int .i64 0, .slice none 0 0] 24) := ⟨_, rfl⟩
  clear hM
  have HC := Lib.hid (show ∀ W, MS w0 I W → W.heap[b]? = some (.cells #[.string s] 54 (0, 0)) from fun W h => (h.same b hI).trans hb)
  clear hb hI
  have tName := fun W => (show (Instr.typeAssert (.iface 53 (.pointer (some ⟨b, 0, none⟩))) 38 45 true).run Tryz.prog W = .ok (.tuple #[.pointer none, .bool false]) W from by kernel_rfl)
  have tBuiltinType := fun W => (show (Instr.typeAssert (.iface 53 (.pointer (some ⟨b, 0, none⟩))) 38 53 true).run Tryz.prog W = .ok (.tuple #[.pointer (some ⟨b, 0, none⟩), .bool true]) W from by kernel_rfl)
  have HK := Lib.hid (fun W => kindOf_builtinType ⟨b, 0, none⟩ W)
  rw [← hw1] at BB RR MM
  have CE := Lib.hid (HC.out _ MM.out)
  go_enter Tryz.func28, Tryz.ntmps28
  go_wp2_with fail
  rw [← hw1]
  refine (HK.out _).mono ?_
  rintro e w2 ⟨rfl, rfl⟩
  clear hw1 HK
  obtain c0 := cells1 CE.out
  clear CE
  go_wp2_with fail
  have MD := MM
  have BD := BB
  have RD := RR
  refine (HN.out _ MD.out).mono ?_
  rintro e w3 ⟨⟨kv3, rfl, hr3⟩, b3⟩
  obtain ⟨⟨⟨z0, z1, z2, z3⟩, fr⟩, ⟨ka, kn, kc, hkv⟩, X0⟩ := node_fin BD.out RD.out hr3 b3
  subst hkv
  have X := Lib.hid X0
  clear hr3 b3 X0
  go_wp2_with fail
  (try simp only [Exit.inBlock, Exit.then])
  refine bodyPost_ret (by simp [results, Tryz.results28, go_sem, z0, z1, z2, z3]; try rfl) rfl ?_
  exact X.out _ _ _ _

set_option maxRecDepth 100000 in
set_option maxHeartbeats 4000000 in
theorem node_operator {w0 : World} {I : Nat → Prop} (b : Nat) {s : ByteArray} (hI : I b) (hb : w0.heap[b]? = some (.cells #[.string s, .int .i64 0] 58 (0, 0))) : MkOK w0 I (.node ⟨#[79, 112, 101, 114, 97, 116, 111, 114]⟩ s 0 []) (.iface 55 (.pointer (some ⟨b, 0, none⟩))) := by
  intro w hM
  have HN := Lib.hid (fun W (h : MS w0 I W) => node_of0 ⟨#[79, 112, 101, 114, 97, 116, 111, 114]⟩ s 0 h)
  have BB := Lib.hid (box_below w (.cells #[.string ⟨#[]⟩, .string ⟨#[]⟩, .int .i64 0, .slice none 0 0] 24))
  have RR := Lib.hid (show (w.alloc (.cells #[.string ⟨#[]⟩, .string ⟨#[]⟩, .int .i64 0, .slice none 0 0] 24)).heap[w.heap.size]? = some (.cells #[.string ⟨#[]⟩, .string ⟨#[]⟩, .int .i64 0, .slice none 0 0] 24 (0, 0)) from heap_alloc_new w _)
  have MM := Lib.hid (hM.on (box_below w (.cells #[.string ⟨#[]⟩, .string ⟨#[]⟩, .int .i64 0, .slice none 0 0] 24)))
  obtain ⟨w1, hw1⟩ : ∃ w1, w1 = w.alloc (.cells #[.string ⟨#[]⟩, .string ⟨#[]⟩, .int .i64 0, .slice none 0 0] 24) := ⟨_, rfl⟩
  clear hM
  have HC := Lib.hid (show ∀ W, MS w0 I W → W.heap[b]? = some (.cells #[.string s, .int .i64 0] 58 (0, 0)) from fun W h => (h.same b hI).trans hb)
  clear hb hI
  have tName := fun W => (show (Instr.typeAssert (.iface 55 (.pointer (some ⟨b, 0, none⟩))) 38 45 true).run Tryz.prog W = .ok (.tuple #[.pointer none, .bool false]) W from by kernel_rfl)
  have tBuiltinType := fun W => (show (Instr.typeAssert (.iface 55 (.pointer (some ⟨b, 0, none⟩))) 38 53 true).run Tryz.prog W = .ok (.tuple #[.pointer none, .bool false]) W from by kernel_rfl)
  have tOperator := fun W => (show (Instr.typeAssert (.iface 55 (.pointer (some ⟨b, 0, none⟩))) 38 55 true).run Tryz.prog W = .ok (.tuple #[.pointer (some ⟨b, 0, none⟩), .bool true]) W from by kernel_rfl)
  have HK := Lib.hid (fun W => kindOf_operator ⟨b, 0, none⟩ W)
  rw [← hw1] at BB RR MM
  have CE := Lib.hid (HC.out _ MM.out)
  go_enter Tryz.func28, Tryz.ntmps28
  go_wp2_with fail
  rw [← hw1]
  refine (HK.out _).mono ?_
  rintro e w2 ⟨rfl, rfl⟩
  clear hw1 HK
  obtain ⟨c0, c1⟩ := cells2 CE.out
  clear CE
  go_wp2_with fail
  have MD := MM
  have BD := BB
  have RD := RR
  refine (HN.out _ MD.out).mono ?_
  rintro e w3 ⟨⟨kv3, rfl, hr3⟩, b3⟩
  obtain ⟨⟨⟨z0, z1, z2, z3⟩, fr⟩, ⟨ka, kn, kc, hkv⟩, X0⟩ := node_fin BD.out RD.out hr3 b3
  subst hkv
  have X := Lib.hid X0
  clear hr3 b3 X0
  go_wp2_with fail
  (try simp only [Exit.inBlock, Exit.then])
  refine bodyPost_ret (by simp [results, Tryz.results28, go_sem, z0, z1, z2, z3]; try rfl) rfl ?_
  exact X.out _ _ _ _

set_option maxRecDepth 100000 in
set_option maxHeartbeats 4000000 in
theorem node_constructor {w0 : World} {I : Nat → Prop} (b : Nat) {a : Tree} {u : Value} (hI : I b) (hb : w0.heap[b]? = some (.cells #[u, .nilIface] 62 (0, 0))) (hu : MkOK w0 I a u) (fu : ∃ T p, u = .iface T p) : MkOK w0 I (.node ⟨#[67, 111, 110, 115, 116, 114, 117, 99, 116, 111, 114]⟩ ⟨#[]⟩ 0 [a]) (.iface 59 (.pointer (some ⟨b, 0, none⟩))) := by
  intro w hM
  have HN := Lib.hid (fun W (h : MS w0 I W) => node_of1 ⟨#[67, 111, 110, 115, 116, 114, 117, 99, 116, 111, 114]⟩ ⟨#[]⟩ 0 hu (by obtain ⟨T, p, rfl⟩ := fu; rfl) h)
  have HB2 := Lib.hid (fun W (h : Below w.heap.size w W) (r : W.heap[w.heap.size]? = some (.cells #[.string ⟨#[]⟩, .string ⟨#[]⟩, .int .i64 0, .slice none 0 0] 24 (0, 0))) => And.intro (h.trans ((box_below W (.cells #[u] 38)).mono h.size)) (show (W.alloc (.cells #[u] 38)).heap[w.heap.size]? = _ from (Below.heap_alloc _ _ _ (lt_of_block r)).trans r))
  obtain ⟨Tu, pu, rfl⟩ := fu
  have BB := Lib.hid (box_below w (.cells #[.string ⟨#[]⟩, .string ⟨#[]⟩, .int .i64 0, .slice none 0 0] 24))
  have RR := Lib.hid (show (w.alloc (.cells #[.string ⟨#[]⟩, .string ⟨#[]⟩, .int .i64 0, .slice none 0 0] 24)).heap[w.heap.size]? = some (.cells #[.string ⟨#[]⟩, .string ⟨#[]⟩, .int .i64 0, .slice none 0 0] 24 (0, 0)) from heap_alloc_new w _)
  have MM := Lib.hid (hM.on (box_below w (.cells #[.string ⟨#[]⟩, .string ⟨#[]⟩, .int .i64 0, .slice none 0 0] 24)))
  obtain ⟨w1, hw1⟩ : ∃ w1, w1 = w.alloc (.cells #[.string ⟨#[]⟩, .string ⟨#[]⟩, .int .i64 0, .slice none 0 0] 24) := ⟨_, rfl⟩
  clear hM
  have HC := Lib.hid (show ∀ W, MS w0 I W → W.heap[b]? = some (.cells #[.iface Tu pu, .nilIface] 62 (0, 0)) from fun W h => (h.same b hI).trans hb)
  clear hb hI hu
  have tName := fun W => (show (Instr.typeAssert (.iface 59 (.pointer (some ⟨b, 0, none⟩))) 38 45 true).run Tryz.prog W = .ok (.tuple #[.pointer none, .bool false]) W from by kernel_rfl)
  have tBuiltinType := fun W => (show (Instr.typeAssert (.iface 59 (.pointer (some ⟨b, 0, none⟩))) 38 53 true).run Tryz.prog W = .ok (.tuple #[.pointer none, .bool false]) W from by kernel_rfl)
  have tOperator := fun W => (show (Instr.typeAssert (.iface 59 (.pointer (some ⟨b, 0, none⟩))) 38 55 true).run Tryz.prog W = .ok (.tuple #[.pointer none, .bool false]) W from by kernel_rfl)
  have tConstructor := fun W => (show (Instr.typeAssert (.iface 59 (.pointer (some ⟨b, 0, none⟩))) 38 59 true).run Tryz.prog W = .ok (.tuple #[.pointer (some ⟨b, 0, none⟩), .bool true]) W from by kernel_rfl)
  have HK := Lib.hid (fun W => kindOf_constructor ⟨b, 0, none⟩ W)
  rw [← hw1] at BB RR MM
  have CE := Lib.hid (HC.out _ MM.out)
  go_enter Tryz.func28, Tryz.ntmps28
  go_wp2_with fail
  rw [← hw1]
  refine (HK.out _).mono ?_
  rintro e w2 ⟨rfl, rfl⟩
  clear hw1 HK
  obtain ⟨c0, c1⟩ := cells2 CE.out
  clear CE
  go_wp2_with fail
  have MD := MM
  have BD := BB
  have RD := RR
  refine (HN.out _ MD.out).mono ?_
  rintro e w3 ⟨⟨kv3, rfl, hr3⟩, b3⟩
  obtain ⟨⟨⟨z0, z1, z2, z3⟩, fr⟩, ⟨ka, kn, kc, hkv⟩, X0⟩ := node_fin (HB2.out _ BD.out RD.out).1 (HB2.out _ BD.out RD.out).2 hr3 b3
  subst hkv
  have X := Lib.hid X0
  clear hr3 b3 X0
  go_wp2_with fail
  (try simp only [Exit.inBlock, Exit.then])
  refine bodyPost_ret (by simp [results, Tryz.results28, go_sem, z0, z1, z2, z3]; try rfl) rfl ?_
  exact X.out _ _ _ _

set_option maxRecDepth 100000 in
set_option maxHeartbeats 4000000 in
theorem node_destructor {w0 : World} {I : Nat → Prop} (b : Nat) {a : Tree} {u : Value} (hI : I b) (hb : w0.heap[b]? = some (.cells #[u] 65 (0, 0))) (hu : MkOK w0 I a u) (fu : ∃ T p, u = .iface T p) : MkOK w0 I (.node ⟨#[68, 101, 115, 116, 114, 117, 99, 116, 111, 114]⟩ ⟨#[]⟩ 0 [a]) (.iface 63 (.pointer (some ⟨b, 0, none⟩))) := by
  intro w hM
  have HN := Lib.hid (fun W (h : MS w0 I W) => node_of1 ⟨#[68, 101, 115, 116, 114, 117, 99, 116, 111, 114]⟩ ⟨#[]⟩ 0 hu (by obtain ⟨T, p, rfl⟩ := fu; rfl) h)
  have HB2 := Lib.hid (fun W (h : Below w.heap.size w W) (r : W.heap[w.heap.size]? = some (.cells #[.string ⟨#[]⟩, .string ⟨#[]⟩, .int .i64 0, .slice none 0 0] 24 (0, 0))) => And.intro (h.trans ((box_below W (.cells #[u] 38)).mono h.size)) (show (W.alloc (.cells #[u] 38)).heap[w.heap.size]? = _ from (Below.heap_alloc _ _ _ (lt_of_block r)).trans r))
  obtain ⟨Tu, pu, rfl⟩ := fu
  have BB := Lib.hid (box_below w (.cells #[.string ⟨#[]⟩, .string ⟨#[]⟩, .int .i64 0, .slice none 0 0] 24))
  have RR := Lib.hid (show (w.alloc (.cells #[.string ⟨#[]⟩, .string ⟨#[]⟩, .int .i64 0, .slice none 0 0] 24)).heap[w.heap.size]? = some (.cells #[.string ⟨#[]⟩, .string ⟨#[]⟩, .int .i64 0, .slice none 0 0] 24 (0, 0)) from heap_alloc_new w _)
  have MM := Lib.hid (hM.on (box_below w (.cells #[.string ⟨#[]⟩, .string ⟨#[]⟩, .int .i64 0, .slice none 0 0] 24)))
  obtain ⟨w1, hw1⟩ : ∃ w1, w1 = w.alloc (.cells #[.string ⟨#[]⟩, .string ⟨#[]⟩, .int .i64 0, .slice none 0 0] 24) := ⟨_, rfl⟩
  clear hM
  have HC := Lib.hid (show ∀ W, MS w0 I W → W.heap[b]? = some (.cells #[.iface Tu pu] 65 (0, 0)) from fun W h => (h.same b hI).trans hb)
  clear hb hI hu
  have tName := fun W => (show (Instr.typeAssert (.iface 63 (.pointer (some ⟨b, 0, none⟩))) 38 45 true).run Tryz.prog W = .ok (.tuple #[.pointer none, .bool false]) W from by kernel_rfl)
  have tBuiltinType := fun W => (show (Instr.typeAssert (.iface 63 (.pointer (some ⟨b, 0, none⟩))) 38 53 true).run Tryz.prog W = .ok (.tuple #[.pointer none, .bool false]) W from by kernel_rfl)
  have tOperator := fun W => (show (Instr.typeAssert (.iface 63 (.pointer (some ⟨b, 0, none⟩))) 38 55 true).run Tryz.prog W = .ok (.tuple #[.pointer none, .bool false]) W from by kernel_rfl)
  have tConstructor := fun W => (show (Instr.typeAssert (.iface 63 (.pointer (some ⟨b, 0, none⟩))) 38 59 true).run Tryz.prog W = .ok (.tuple #[.pointer none, .bool false]) W from by kernel_rfl)
  have tDestructor := fun W => (show (Instr.typeAssert (.iface 63 (.pointer (some ⟨b, 0, none⟩))) 38 63 true).run Tryz.prog W = .ok (.tuple #[.pointer (some ⟨b, 0, none⟩), .bool true]) W from by kernel_rfl)
  have HK := Lib.hid (fun W => kindOf_destructor ⟨b, 0, none⟩ W)
  rw [← hw1] at BB RR MM
  have CE := Lib.hid (HC.out _ MM.out)
  go_enter Tryz.func28, Tryz.ntmps28
  go_wp2_with fail
  rw [← hw1]
  refine (HK.out _).mono ?_
  rintro e w2 ⟨rfl, rfl⟩
  clear hw1 HK
  obtain c0 := cells1 CE.out
  clear CE
  go_wp2_with fail
  have MD := MM
  have BD := BB
  have RD := RR
  refine (HN.out _ MD.out).mono ?_
  rintro e w3 ⟨⟨kv3, rfl, hr3⟩, b3⟩
  obtain ⟨⟨⟨z0, z1, z2, z3⟩, fr⟩, ⟨ka, kn, kc, hkv⟩, X0⟩ := node_fin (HB2.out _ BD.out RD.out).1 (HB2.out _ BD.out RD.out).2 hr3 b3
  subst hkv
  have X := Lib.hid X0
  clear hr3 b3 X0
  go_wp2_with fail
  (try simp only [Exit.inBlock, Exit.then])
  refine bodyPost_ret (by simp [results, Tryz.results28, go_sem, z0, z1, z2, z3]; try rfl) rfl ?_
  exact X.out _ _ _ _

set_option maxRecDepth 100000 in
set_option maxHeartbeats 4000000 in
theorem node_pointerType {w0 : World} {I : Nat → Prop} (b : Nat) {a : Tree} {u : Value} (hI : I b) (hb : w0.heap[b]? = some (.cells #[u] 82 (0, 0))) (hu : MkOK w0 I a u) (fu : ∃ T p, u = .iface T p) : MkOK w0 I (.node ⟨#[80, 111, 105, 110, 116, 101, 114, 84, 121, 112, 101]⟩ ⟨#[]⟩ 0 [a]) (.iface 80 (.pointer (some ⟨b, 0, none⟩))) := by
  intro w hM
  have HN := Lib.hid (fun W (h : MS w0 I W) => node_of1 ⟨#[80, 111, 105, 110, 116, 101, 114, 84, 121, 112, 101]⟩ ⟨#[]⟩ 0 hu (by obtain ⟨T, p, rfl⟩ := fu; rfl) h)
  have HB2 := Lib.hid (fun W (h : Below w.heap.size w W) (r : W.heap[w.heap.size]? = some (.cells #[.string ⟨#[]⟩, .string ⟨#[]⟩, .int .i64 0, .slice none 0 0] 24 (0, 0))) => And.intro (h.trans ((box_below W (.cells #[u] 38)).mono h.size)) (show (W.alloc (.cells #[u] 38)).heap[w.heap.size]? = _ from (Below.heap_alloc _ _ _ (lt_of_block r)).trans r))
  obtain ⟨Tu, pu, rfl⟩ := fu
  have BB := Lib.hid (box_below w (.cells #[.string ⟨#[]⟩, .string ⟨#[]⟩, .int .i64 0, .slice none 0 0] 24))
  have RR := Lib.hid (show (w.alloc (.cells #[.string ⟨#[]⟩, .string ⟨#[]⟩, .int .i64 0, .slice none 0 0] 24)).heap[w.heap.size]? = some (.cells #[.string ⟨#[]⟩, .string ⟨#[]⟩, .int .i64 0, .slice none 0 0] 24 (0, 0)) from heap_alloc_new w _)
  have MM := Lib.hid (hM.on (box_below w (.cells #[.string ⟨#[]⟩, .string ⟨#[]⟩, .int .i64 0, .slice none 0 0] 24)))
  obtain ⟨w1, hw1⟩ : ∃ w1, w1 = w.alloc (.cells #[.string ⟨#[]⟩, .string ⟨#[]⟩, .int .i64 0, .slice none 0 0] 24) := ⟨_, rfl⟩
  clear hM
  have HC := Lib.hid (show ∀ W, MS w0 I W → W.heap[b]? = some (.cells #[.iface Tu pu] 82 (0, 0)) from fun W h => (h.same b hI).trans hb)
  clear hb hI hu
  have tName := fun W => (show (Instr.typeAssert (.iface 80 (.pointer (some ⟨b, 0, none⟩))) 38 45 true).run Tryz.prog W = .ok (.tuple #[.pointer none, .bool false]) W from by kernel_rfl)
  have tBuiltinType := fun W => (show (Instr.typeAssert (.iface 80 (.pointer (some ⟨b, 0, none⟩))) 38 53 true).run Tryz.prog W = .ok (.tuple #[.pointer none, .bool false]) W from by kernel_rfl)
  have tOperator := fun W => (show (Instr.typeAssert (.iface 80 (.pointer (some ⟨b, 0, none⟩))) 38 55 true).run Tryz.prog W = .ok (.tuple #[.pointer none, .bool false]) W from by kernel_rfl)
  have tConstructor := fun W => (show (Instr.typeAssert (.iface 80 (.pointer (some ⟨b, 0, none⟩))) 38 59 true).run Tryz.prog W = .ok (.tuple #[.pointer none, .bool false]) W from by kernel_rfl)
  have tDestructor := fun W => (show (Instr.typeAssert (.iface 80 (.pointer (some ⟨b, 0, none⟩))) 38 63 true).run Tryz.prog W = .ok (.tuple #[.pointer none, .bool false]) W from by kernel_rfl)
  have tQualified := fun W => (show (Instr.typeAssert (.iface 80 (.pointer (some ⟨b, 0, none⟩))) 38 66 true).run Tryz.prog W = .ok (.tuple #[.pointer none, .bool false]) W from by kernel_rfl)
  have tTemplate := fun W => (show (Instr.typeAssert (.iface 80 (.pointer (some ⟨b, 0, none⟩))) 38 69 true).run Tryz.prog W = .ok (.tuple #[.pointer none, .bool false]) W from by kernel_rfl)
  have tTyped := fun W => (show (Instr.typeAssert (.iface 80 (.pointer (some ⟨b, 0, none⟩))) 38 74 true).run Tryz.prog W = .ok (.tuple #[.pointer none, .bool false]) W from by kernel_rfl)
  have tFunctionType := fun W => (show (Instr.typeAssert (.iface 80 (.pointer (some ⟨b, 0, none⟩))) 38 77 true).run Tryz.prog W = .ok (.tuple #[.pointer none, .bool false]) W from by kernel_rfl)
  have tPointerType := fun W => (show (Instr.typeAssert (.iface 80 (.pointer (some ⟨b, 0, none⟩))) 38 80 true).run Tryz.prog W = .ok (.tuple #[.pointer (some ⟨b, 0, none⟩), .bool true]) W from by kernel_rfl)
  have HK := Lib.hid (fun W => kindOf_pointerType ⟨b, 0, none⟩ W)
  rw [← hw1] at BB RR MM
  have CE := Lib.hid (HC.out _ MM.out)
  go_enter Tryz.func28, Tryz.ntmps28
  go_wp2_with fail
  rw [← hw1]
  refine (HK.out _).mono ?_
  rintro e w2 ⟨rfl, rfl⟩
  clear hw1 HK
  obtain c0 := cells1 CE.out
  clear CE
  go_wp2_with fail
  have MD := MM
  have BD := BB
  have RD := RR
  refine (HN.out _ MD.out).mono ?_
  rintro e w3 ⟨⟨kv3, rfl, hr3⟩, b3⟩
  obtain ⟨⟨⟨z0, z1, z2, z3⟩, fr⟩, ⟨ka, kn, kc, hkv⟩, X0⟩ := node_fin (HB2.out _ BD.out RD.out).1 (HB2.out _ BD.out RD.out).2 hr3 b3
  subst hkv
  have X := Lib.hid X0
  clear hr3 b3 X0
  go_wp2_with fail
  (try simp only [Exit.inBlock, Exit.then])
  refine bodyPost_ret (by simp [results, Tryz.results28, go_sem, z0, z1, z2, z3]; try rfl) rfl ?_
  exact X.out _ _ _ _

set_option maxRecDepth 100000 in
set_option maxHeartbeats 4000000 in
theorem node_referenceType {w0 : World} {I : Nat → Prop} (b : Nat) {a : Tree} {u : Value} (hI : I b) (hb : w0.heap[b]? = some (.cells #[u] 84 (0, 0))) (hu : MkOK w0 I a u) (fu : ∃ T p, u = .iface T p) : MkOK w0 I (.node ⟨#[82, 101, 102, 101, 114, 101, 110, 99, 101, 84, 121, 112, 101]⟩ ⟨#[]⟩ 0 [a]) (.iface 83 (.pointer (some ⟨b, 0, none⟩))) := by
  intro w hM
  have HN := Lib.hid (fun W (h : MS w0 I W) => node_of1 ⟨#[82, 101, 102, 101, 114, 101, 110, 99, 101, 84, 121, 112, 101]⟩ ⟨#[]⟩ 0 hu (by obtain ⟨T, p, rfl⟩ := fu; rfl) h)
  have HB2 := Lib.hid (fun W (h : Below w.heap.size w W) (r : W.heap[w.heap.size]? = some (.cells #[.string ⟨#[]⟩, .string ⟨#[]⟩, .int .i64 0, .slice none 0 0] 24 (0, 0))) => And.intro (h.trans ((box_below W (.cells #[u] 38)).mono h.size)) (show (W.alloc (.cells #[u] 38)).heap[w.heap.size]? = _ from (Below.heap_alloc _ _ _ (lt_of_block r)).trans r))
  obtain ⟨Tu, pu, rfl⟩ := fu
  have BB := Lib.hid (box_below w (.cells #[.string ⟨#[]⟩, .string ⟨#[]⟩, .int .i64 0, .slice none 0 0] 24))
  have RR := Lib.hid (show (w.alloc (.cells #[.string ⟨#[]⟩, .string ⟨#[]⟩, .int .i64 0, .slice none 0 0] 24)).heap[w.heap.size]? = some (.cells #[.string ⟨#[]⟩, .string ⟨#[]⟩, .int .i64 0, .slice none 0 0] 24 (0, 0)) from heap_alloc_new w _)
  have MM := Lib.hid (hM.on (box_below w (.cells #[.string ⟨#[]⟩, .string ⟨#[]⟩, .int .i64 0, .slice none 0 0] 24)))
  obtain ⟨w1, hw1⟩ : ∃ w1, w1 = w.alloc (.cells #[.string ⟨#[]⟩, .string ⟨#[]⟩, .int .i64 0, .slice none 0 0] 24) := ⟨_, rfl⟩
  clear hM
  have HC := Lib.hid (show ∀ W, MS w0 I W → W.heap[b]? = some (.cells #[.iface Tu pu] 84 (0, 0)) from fun W h => (h.same b hI).trans hb)
  clear hb hI hu
  have tName := fun W => (show (Instr.typeAssert (.iface 83 (.pointer (some ⟨b, 0, none⟩))) 38 45 true).run Tryz.prog W = .ok (.tuple #[.pointer none, .bool false]) W from by kernel_rfl)
  have tBuiltinType := fun W => (show (Instr.typeAssert (.iface 83 (.pointer (some ⟨b, 0, none⟩))) 38 53 true).run Tryz.prog W = .ok (.tuple #[.pointer none, .bool false]) W from by kernel_rfl)
  have tOperator := fun W => (show (Instr.typeAssert (.iface 83 (.pointer (some ⟨b, 0, none⟩))) 38 55 true).run Tryz.prog W = .ok (.tuple #[.pointer none, .bool false]) W from by kernel_rfl)
  have tConstructor := fun W => (show (Instr.typeAssert (.iface 83 (.pointer (some ⟨b, 0, none⟩))) 38 59 true).run Tryz.prog W = .ok (.tuple #[.pointer none, .bool false]) W from by kernel_rfl)
  have tDestructor := fun W => (show (Instr.typeAssert (.iface 83 (.pointer (some ⟨b, 0, none⟩))) 38 63 true).run Tryz.prog W = .ok (.tuple #[.pointer none, .bool false]) W from by kernel_rfl)
  have tQualified := fun W => (show (Instr.typeAssert (.iface 83 (.pointer (some ⟨b, 0, none⟩))) 38 66 true).run Tryz.prog W = .ok (.tuple #[.pointer none, .bool false]) W from by kernel_rfl)
  have tTemplate := fun W => (show (Instr.typeAssert (.iface 83 (.pointer (some ⟨b, 0, none⟩))) 38 69 true).run Tryz.prog W = .ok (.tuple #[.pointer none, .bool false]) W from by kernel_rfl)
  have tTyped := fun W => (show (Instr.typeAssert (.iface 83 (.pointer (some ⟨b, 0, none⟩))) 38 74 true).run Tryz.prog W = .ok (.tuple #[.pointer none, .bool false]) W from by kernel_rfl)
  have tFunctionType := fun W => (show (Instr.typeAssert (.iface 83 (.pointer (some ⟨b, 0, none⟩))) 38 77 true).run Tryz.prog W = .ok (.tuple #[.pointer none, .bool false]) W from by kernel_rfl)
  have tPointerType := fun W => (show (Instr.typeAssert (.iface 83 (.pointer (some ⟨b, 0, none⟩))) 38 80 true).run Tryz.prog W = .ok (.tuple #[.pointer none, .bool false]) W from by kernel_rfl)
  have tReferenceType := fun W => (show (Instr.typeAssert (.iface 83 (.pointer (some ⟨b, 0, none⟩))) 38 83 true).run Tryz.prog W = .ok (.tuple #[.pointer (some ⟨b, 0, none⟩), .bool true]) W from by kernel_rfl)
  have HK := Lib.hid (fun W => kindOf_referenceType ⟨b, 0, none⟩ W)
  rw [← hw1] at BB RR MM
  have CE := Lib.hid (HC.out _ MM.out)
  go_enter Tryz.func28, Tryz.ntmps28
  go_wp2_with fail
  rw [← hw1]
  refine (HK.out _).mono ?_
  rintro e w2 ⟨rfl, rfl⟩
  clear hw1 HK
  obtain c0 := cells1 CE.out
  clear CE
  go_wp2_with fail
  have MD := MM
  have BD := BB
  have RD := RR
  refine (HN.out _ MD.out).mono ?_
  rintro e w3 ⟨⟨kv3, rfl, hr3⟩, b3⟩
  obtain ⟨⟨⟨z0, z1, z2, z3⟩, fr⟩, ⟨ka, kn, kc, hkv⟩, X0⟩ := node_fin (HB2.out _ BD.out RD.out).1 (HB2.out _ BD.out RD.out).2 hr3 b3
  subst hkv
  have X := Lib.hid X0
  clear hr3 b3 X0
  go_wp2_with fail
  (try simp only [Exit.inBlock, Exit.then])
  refine bodyPost_ret (by simp [results, Tryz.results28, go_sem, z0, z1, z2, z3]; try rfl) rfl ?_
  exact X.out _ _ _ _

set_option maxRecDepth 100000 in
set_option maxHeartbeats 4000000 in
theorem node_rvalueReferenceType {w0 : World} {I : Nat → Prop} (b : Nat) {a : Tree} {u : Value} (hI : I b) (hb : w0.heap[b]? = some (.cells #[u] 86 (0, 0))) (hu : MkOK w0 I a u) (fu : ∃ T p, u = .iface T p) : MkOK w0 I (.node ⟨#[82, 118, 97, 108, 117, 101, 82, 101, 102, 101, 114, 101, 110, 99, 101, 84, 121, 112, 101]⟩ ⟨#[]⟩ 0 [a]) (.iface 85 (.pointer (some ⟨b, 0, none⟩))) := by
  intro w hM
  have HN := Lib.hid (fun W (h : MS w0 I W) => node_of1 ⟨#[82, 118, 97, 108, 117, 101, 82, 101, 102, 101, 114, 101, 110, 99, 101, 84, 121, 112, 101]⟩ ⟨#[]⟩ 0 hu (by obtain ⟨T, p, rfl⟩ := fu; rfl) h)
  have HB2 := Lib.hid (fun W (h : Below w.heap.size w W) (r : W.heap[w.heap.size]? = some (.cells #[.string ⟨#[]⟩, .string ⟨#[]⟩, .int .i64 0, .slice none 0 0] 24 (0, 0))) => And.intro (h.trans ((box_below W (.cells #[u] 38)).mono h.size)) (show (W.alloc (.cells #[u] 38)).heap[w.heap.size]? = _ from (Below.heap_alloc _ _ _ (lt_of_block r)).trans r))
  obtain ⟨Tu, pu, rfl⟩ := fu
  have BB := Lib.hid (box_below w (.cells #[.string ⟨#[]⟩, .string ⟨#[]⟩, .int .i64 0, .slice none 0 0] 24))
  have RR := Lib.hid (show (w.alloc (.cells #[.string ⟨#[]⟩, .string ⟨#[]⟩, .int .i64 0, .slice none 0 0] 24)).heap[w.heap.size]? = some (.cells #[.string ⟨#[]⟩, .string ⟨#[]⟩, .int .i64 0, .slice none 0 0] 24 (0, 0)) from heap_alloc_new w _)
  have MM := Lib.hid (hM.on (box_below w (.cells #[.string ⟨#[]⟩, .string ⟨#[]⟩, .int .i64 0, .slice none 0 0] 24)))
  obtain ⟨w1, hw1⟩ : ∃ w1, w1 = w.alloc (.cells #[.string ⟨#[]⟩, .string ⟨#[]⟩, .int .i64 0, .slice none 0 0] 24) := ⟨_, rfl⟩
  clear hM
  have HC := Lib.hid (show ∀ W, MS w0 I W → W.heap[b]? = some (.cells #[.iface Tu pu] 86 (0, 0)) from fun W h => (h.same b hI).trans hb)
  clear hb hI hu
  have tName := fun W => (show (Instr.typeAssert (.iface 85 (.pointer (some ⟨b, 0, none⟩))) 38 45 true).run Tryz.prog W = .ok (.tuple #[.pointer none, .bool false]) W from by kernel_rfl)
  have tBuiltinType := fun W => (show (Instr.typeAssert (.iface 85 (.pointer (some ⟨b, 0, none⟩))) 38 53 true).run Tryz.prog W = .ok (.tuple #[.pointer none, .bool false]) W from by kernel_rfl)
  have tOperator := fun W => (show (Instr.typeAssert (.iface 85 (.pointer (some ⟨b, 0, none⟩))) 38 55 true).run Tryz.prog W = .ok (.tuple #[.pointer none, .bool false]) W from by kernel_rfl)
  have tConstructor := fun W => (show (Instr.typeAssert (.iface 85 (.pointer (some ⟨b, 0, none⟩))) 38 59 true).run Tryz.prog W = .ok (.tuple #[.pointer none, .bool false]) W from by kernel_rfl)
  have tDestructor := fun W => (show (Instr.typeAssert (.iface 85 (.pointer (some ⟨b, 0, none⟩))) 38 63 true).run Tryz.prog W = .ok (.tuple #[.pointer none, .bool false]) W from by kernel_rfl)
  have tQualified := fun W => (show (Instr.typeAssert (.iface 85 (.pointer (some ⟨b, 0, none⟩))) 38 66 true).run Tryz.prog W = .ok (.tuple #[.pointer none, .bool false]) W from by kernel_rfl)
  have tTemplate := fun W => (show (Instr.typeAssert (.iface 85 (.pointer (some ⟨b, 0, none⟩))) 38 69 true).run Tryz.prog W = .ok (.tuple #[.pointer none, .bool false]) W from by kernel_rfl)
  have tTyped := fun W => (show (Instr.typeAssert (.iface 85 (.pointer (some ⟨b, 0, none⟩))) 38 74 true).run Tryz.prog W = .ok (.tuple #[.pointer none, .bool false]) W from by kernel_rfl)
  have tFunctionType := fun W => (show (Instr.typeAssert (.iface 85 (.pointer (some ⟨b, 0, none⟩))) 38 77 true).run Tryz.prog W = .ok (.tuple #[.pointer none, .bool false]) W from by kernel_rfl)
  have tPointerType := fun W => (show (Instr.typeAssert (.iface 85 (.pointer (some ⟨b, 0, none⟩))) 38 80 true).run Tryz.prog W = .ok (.tuple #[.pointer none, .bool false]) W from by kernel_rfl)
  have tReferenceType := fun W => (show (Instr.typeAssert (.iface 85 (.pointer (some ⟨b, 0, none⟩))) 38 83 true).run Tryz.prog W = .ok (.tuple #[.pointer none, .bool false]) W from by kernel_rfl)
  have tRvalueReferenceType := fun W => (show (Instr.typeAssert (.iface 85 (.pointer (some ⟨b, 0, none⟩))) 38 85 true).run Tryz.prog W = .ok (.tuple #[.pointer (some ⟨b, 0, none⟩), .bool true]) W from by kernel_rfl)
  have HK := Lib.hid (fun W => kindOf_rvalueReferenceType ⟨b, 0, none⟩ W)
  rw [← hw1] at BB RR MM
  have CE := Lib.hid (HC.out _ MM.out)
  go_enter Tryz.func28, Tryz.ntmps28
  go_wp2_with fail
  rw [← hw1]
  refine (HK.out _).mono ?_
  rintro e w2 ⟨rfl, rfl⟩
  clear hw1 HK
  obtain c0 := cells1 CE.out
  clear CE
  go_wp2_with fail
  have MD := MM
  have BD := BB
  have RD := RR
  refine (HN.out _ MD.out).mono ?_
  rintro e w3 ⟨⟨kv3, rfl, hr3⟩, b3⟩
  obtain ⟨⟨⟨z0, z1, z2, z3⟩, fr⟩, ⟨ka, kn, kc, hkv⟩, X0⟩ := node_fin (HB2.out _ BD.out RD.out).1 (HB2.out _ BD.out RD.out).2 hr3 b3
  subst hkv
  have X := Lib.hid X0
  clear hr3 b3 X0
  go_wp2_with fail
  (try simp only [Exit.inBlock, Exit.then])
  refine bodyPost_ret (by simp [results, Tryz.results28, go_sem, z0, z1, z2, z3]; try rfl) rfl ?_
  exact X.out _ _ _ _

set_option maxRecDepth 100000 in
set_option maxHeartbeats 4000000 in
theorem node_complexType {w0 : World} {I : Nat → Prop} (b : Nat) {a : Tree} {u : Value} (hI : I b) (hb : w0.heap[b]? = some (.cells #[u] 88 (0, 0))) (hu : MkOK w0 I a u) (fu : ∃ T p, u = .iface T p) : MkOK w0 I (.node ⟨#[67, 111, 109, 112, 108, 101, 120, 84, 121, 112, 101]⟩ ⟨#[]⟩ 0 [a]) (.iface 87 (.pointer (some ⟨b, 0, none⟩))) := by
  intro w hM
  have HN := Lib.hid (fun W (h : MS w0 I W) => node_of1 ⟨#[67, 111, 109, 112, 108, 101, 120, 84, 121, 112, 101]⟩ ⟨#[]⟩ 0 hu (by obtain ⟨T, p, rfl⟩ := fu; rfl) h)
  have HB2 := Lib.hid (fun W (h : Below w.heap.size w W) (r : W.heap[w.heap.size]? = some (.cells #[.string ⟨#[]⟩, .string ⟨#[]⟩, .int .i64 0, .slice none 0 0] 24 (0, 0))) => And.intro (h.trans ((box_below W (.cells #[u] 38)).mono h.size)) (show (W.alloc (.cells #[u] 38)).heap[w.heap.size]? = _ from (Below.heap_alloc _ _ _ (lt_of_block r)).trans r))
  obtain ⟨Tu, pu, rfl⟩ := fu
  have BB := Lib.hid (box_below w (.cells #[.string ⟨#[]⟩, .string ⟨#[]⟩, .int .i64 0, .slice none 0 0] 24))
  have RR := Lib.hid (show (w.alloc (.cells #[.string ⟨#[]⟩, .string ⟨#[]⟩, .int .i64 0, .slice none 0 0] 24)).heap[w.heap.size]? = some (.cells #[.string ⟨#[]⟩, .string ⟨#[]⟩, .int .i64 0, .slice none 0 0] 24 (0, 0)) from heap_alloc_new w _)
  have MM := Lib.hid (hM.on (box_below w (.cells #[.string ⟨#[]⟩, .string ⟨#[]⟩, .int .i64 0, .slice none 0 0] 24)))
  obtain ⟨w1, hw1⟩ : ∃ w1, w1 = w.alloc (.cells #[.string ⟨#[]⟩, .string ⟨#[]⟩, .int .i64 0, .slice none 0 0] 24) := ⟨_, rfl⟩
  clear hM
  have HC := Lib.hid (show ∀ W, MS w0 I W → W.heap[b]? = some (.cells #[.iface Tu pu] 88 (0, 0)) from fun W h => (h.same b hI).trans hb)
  clear hb hI hu
  have tName := fun W => (show (Instr.typeAssert (.iface 87 (.pointer (some ⟨b, 0, none⟩))) 38 45 true).run Tryz.prog W = .ok (.tuple #[.pointer none, .bool false]) W from by kernel_rfl)
  have tBuiltinType := fun W => (show (Instr.typeAssert (.iface 87 (.pointer (some ⟨b, 0, none⟩))) 38 53 true).run Tryz.prog W = .ok (.tuple #[.pointer none, .bool false]) W from by kernel_rfl)
  have tOperator := fun W => (show (Instr.typeAssert (.iface 87 (.pointer (some ⟨b, 0, none⟩))) 38 55 true).run Tryz.prog W = .ok (.tuple #[.pointer none, .bool false]) W from by kernel_rfl)
  have tConstructor := fun W => (show (Instr.typeAssert (.iface 87 (.pointer (some ⟨b, 0, none⟩))) 38 59 true).run Tryz.prog W = .ok (.tuple #[.pointer none, .bool false]) W from by kernel_rfl)
  have tDestructor := fun W => (show (Instr.typeAssert (.iface 87 (.pointer (some ⟨b, 0, none⟩))) 38 63 true).run Tryz.prog W = .ok (.tuple #[.pointer none, .bool false]) W from by kernel_rfl)
  have tQualified := fun W => (show (Instr.typeAssert (.iface 87 (.pointer (some ⟨b, 0, none⟩))) 38 66 true).run Tryz.prog W = .ok (.tuple #[.pointer none, .bool false]) W from by kernel_rfl)
  have tTemplate := fun W => (show (Instr.typeAssert (.iface 87 (.pointer (some ⟨b, 0, none⟩))) 38 69 true).run Tryz.prog W = .ok (.tuple #[.pointer none, .bool false]) W from by kernel_rfl)
  have tTyped := fun W => (show (Instr.typeAssert (.iface 87 (.pointer (some ⟨b, 0, none⟩))) 38 74 true).run Tryz.prog W = .ok (.tuple #[.pointer none, .bool false]) W from by kernel_rfl)
  have tFunctionType := fun W => (show (Instr.typeAssert (.iface 87 (.pointer (some ⟨b, 0, none⟩))) 38 77 true).run Tryz.prog W = .ok (.tuple #[.pointer none, .bool false]) W from by kernel_rfl)
  have tPointerType := fun W => (show (Instr.typeAssert (.iface 87 (.pointer (some ⟨b, 0, none⟩))) 38 80 true).run Tryz.prog W = .ok (.tuple #[.pointer none, .bool false]) W from by kernel_rfl)
  have tReferenceType := fun W => (show (Instr.typeAssert (.iface 87 (.pointer (some ⟨b, 0, none⟩))) 38 83 true).run Tryz.prog W = .ok (.tuple #[.pointer none, .bool false]) W from by kernel_rfl)
  have tRvalueReferenceType := fun W => (show (Instr.typeAssert (.iface 87 (.pointer (some ⟨b, 0, none⟩))) 38 85 true).run Tryz.prog W = .ok (.tuple #[.pointer none, .bool false]) W from by kernel_rfl)
  have tComplexType := fun W => (show (Instr.typeAssert (.iface 87 (.pointer (some ⟨b, 0, none⟩))) 38 87 true).run Tryz.prog W = .ok (.tuple #[.pointer (some ⟨b, 0, none⟩), .bool true]) W from by kernel_rfl)
  have HK := Lib.hid (fun W => kindOf_complexType ⟨b, 0, none⟩ W)
  rw [← hw1] at BB RR MM
  have CE := Lib.hid (HC.out _ MM.out)
  go_enter Tryz.func28, Tryz.ntmps28
  go_wp2_with fail
  rw [← hw1]
  refine (HK.out _).mono ?_
  rintro e w2 ⟨rfl, rfl⟩
  clear hw1 HK
  obtain c0 := cells1 CE.out
  clear CE
  go_wp2_with fail
  have MD := MM
  have BD := BB
  have RD := RR
  refine (HN.out _ MD.out).mono ?_
  rintro e w3 ⟨⟨kv3, rfl, hr3⟩, b3⟩
  obtain ⟨⟨⟨z0, z1, z2, z3⟩, fr⟩, ⟨ka, kn, kc, hkv⟩, X0⟩ := node_fin (HB2.out _ BD.out RD.out).1 (HB2.out _ BD.out RD.out).2 hr3 b3
  subst hkv
  have X := Lib.hid X0
  clear hr3 b3 X0
  go_wp2_with fail
  (try simp only [Exit.inBlock, Exit.then])
  refine bodyPost_ret (by simp [results, Tryz.results28, go_sem, z0, z1, z2, z3]; try rfl) rfl ?_
  exact X.out _ _ _ _

set_option maxRecDepth 100000 in
set_option maxHeartbeats 4000000 in
theorem node_imaginaryType {w0 : World} {I : Nat → Prop} (b : Nat) {a : Tree} {u : Value} (hI : I b) (hb : w0.heap[b]? = some (.cells #[u] 90 (0, 0))) (hu : MkOK w0 I a u) (fu : ∃ T p, u = .iface T p) : MkOK w0 I (.node ⟨#[73, 109, 97, 103, 105, 110, 97, 114, 121, 84, 121, 112, 101]⟩ ⟨#[]⟩ 0 [a]) (.iface 89 (.pointer (some ⟨b, 0, none⟩))) := by
  intro w hM
  have HN := Lib.hid (fun W (h : MS w0 I W) => node_of1 ⟨#[73, 109, 97, 103, 105, 110, 97, 114, 121, 84, 121, 112, 101]⟩ ⟨#[]⟩ 0 hu (by obtain ⟨T, p, rfl⟩ := fu; rfl) h)
  have HB2 := Lib.hid (fun W (h : Below w.heap.size w W) (r : W.heap[w.heap.size]? = some (.cells #[.string ⟨#[]⟩, .string ⟨#[]⟩, .int .i64 0, .slice none 0 0] 24 (0, 0))) => And.intro (h.trans ((box_below W (.cells #[u] 38)).mono h.size)) (show (W.alloc (.cells #[u] 38)).heap[w.heap.size]? = _ from (Below.heap_alloc _ _ _ (lt_of_block r)).trans r))
  obtain ⟨Tu, pu, rfl⟩ := fu
  have BB := Lib.hid (box_below w (.cells #[.string ⟨#[]⟩, .string ⟨#[]⟩, .int .i64 0, .slice none 0 0] 24))
  have RR := Lib.hid (show (w.alloc (.cells #[.string ⟨#[]⟩, .string ⟨#[]⟩, .int .i64 0, .slice none 0 0] 24)).heap[w.heap.size]? = some (.cells #[.string ⟨#[]⟩, .string ⟨#[]⟩, .int .i64 0, .slice none 0 0] 24 (0, 0)) from heap_alloc_new w _)
  have MM := Lib.hid (hM.on (box_below w (.cells #[.string ⟨#[]⟩, .string ⟨#[]⟩, .int .i64 0, .slice none 0 0] 24)))
  obtain ⟨w1, hw1⟩ : ∃ w1, w1 = w.alloc (.cells #[.string ⟨#[]⟩, .string ⟨#[]⟩, .int .i64 0, .slice none 0 0] 24) := ⟨_, rfl⟩
  clear hM
  have HC := Lib.hid (show ∀ W, MS w0 I W → W.heap[b]? = some (.cells #[.iface Tu pu] 90 (0, 0)) from fun W h => (h.same b hI).trans hb)
  clear hb hI hu
  have tName := fun W => (show (Instr.typeAssert (.iface 89 (.pointer (some ⟨b, 0, none⟩))) 38 45 true).run Tryz.prog W = .ok (.tuple #[.pointer none, .bool false]) W from by kernel_rfl)
  have tBuiltinType := fun W => (show (Instr.typeAssert (.iface 89 (.pointer (some ⟨b, 0, none⟩))) 38 53 true).run Tryz.prog W = .ok (.tuple #[.pointer none, .bool false]) W from by kernel_rfl)
  have tOperator := fun W => (show (Instr.typeAssert (.iface 89 (.pointer (some ⟨b, 0, none⟩))) 38 55 true).run Tryz.prog W = .ok (.tuple #[.pointer none, .bool false]) W from by kernel_rfl)
  have tConstructor := fun W => (show (Instr.typeAssert (.iface 89 (.pointer (some ⟨b, 0, none⟩))) 38 59 true).run Tryz.prog W = .ok (.tuple #[.pointer none, .bool false]) W from by kernel_rfl)
  have tDestructor := fun W => (show (Instr.typeAssert (.iface 89 (.pointer (some ⟨b, 0, none⟩))) 38 63 true).run Tryz.prog W = .ok (.tuple #[.pointer none, .bool false]) W from by kernel_rfl)
  have tQualified := fun W => (show (Instr.typeAssert (.iface 89 (.pointer (some ⟨b, 0, none⟩))) 38 66 true).run Tryz.prog W = .ok (.tuple #[.pointer none, .bool false]) W from by kernel_rfl)
  have tTemplate := fun W => (show (Instr.typeAssert (.iface 89 (.pointer (some ⟨b, 0, none⟩))) 38 69 true).run Tryz.prog W = .ok (.tuple #[.pointer none, .bool false]) W from by kernel_rfl)
  have tTyped := fun W => (show (Instr.typeAssert (.iface 89 (.pointer (some ⟨b, 0, none⟩))) 38 74 true).run Tryz.prog W = .ok (.tuple #[.pointer none, .bool false]) W from by kernel_rfl)
  have tFunctionType := fun W => (show (Instr.typeAssert (.iface 89 (.pointer (some ⟨b, 0, none⟩))) 38 77 true).run Tryz.prog W = .ok (.tuple #[.pointer none, .bool false]) W from by kernel_rfl)
  have tPointerType := fun W => (show (Instr.typeAssert (.iface 89 (.pointer (some ⟨b, 0, none⟩))) 38 80 true).run Tryz.prog W = .ok (.tuple #[.pointer none, .bool false]) W from by kernel_rfl)
  have tReferenceType := fun W => (show (Instr.typeAssert (.iface 89 (.pointer (some ⟨b, 0, none⟩))) 38 83 true).run Tryz.prog W = .ok (.tuple #[.pointer none, .bool false]) W from by kernel_rfl)
  have tRvalueReferenceType := fun W => (show (Instr.typeAssert (.iface 89 (.pointer (some ⟨b, 0, none⟩))) 38 85 true).run Tryz.prog W = .ok (.tuple #[.pointer none, .bool false]) W from by kernel_rfl)
  have tComplexType := fun W => (show (Instr.typeAssert (.iface 89 (.pointer (some ⟨b, 0, none⟩))) 38 87 true).run Tryz.prog W = .ok (.tuple #[.pointer none, .bool false]) W from by kernel_rfl)
  have tImaginaryType := fun W => (show (Instr.typeAssert (.iface 89 (.pointer (some ⟨b, 0, none⟩))) 38 89 true).run Tryz.prog W = .ok (.tuple #[.pointer (some ⟨b, 0, none⟩), .bool true]) W from by kernel_rfl)
  have HK := Lib.hid (fun W => kindOf_imaginaryType ⟨b, 0, none⟩ W)
  rw [← hw1] at BB RR MM
  have CE := Lib.hid (HC.out _ MM.out)
  go_enter Tryz.func28, Tryz.ntmps28
  go_wp2_with fail
  rw [← hw1]
  refine (HK.out _).mono ?_
  rintro e w2 ⟨rfl, rfl⟩
  clear hw1 HK
  obtain c0 := cells1 CE.out
  clear CE
  go_wp2_with fail
  have MD := MM
  have BD := BB
  have RD := RR
  refine (HN.out _ MD.out).mono ?_
  rintro e w3 ⟨⟨kv3, rfl, hr3⟩, b3⟩
  obtain ⟨⟨⟨z0, z1, z2, z3⟩, fr⟩, ⟨ka, kn, kc, hkv⟩, X0⟩ := node_fin (HB2.out _ BD.out RD.out).1 (HB2.out _ BD.out RD.out).2 hr3 b3
  subst hkv
  have X := Lib.hid X0
  clear hr3 b3 X0
  go_wp2_with fail
  (try simp only [Exit.inBlock, Exit.then])
  refine bodyPost_ret (by simp [results, Tryz.results28, go_sem, z0, z1, z2, z3]; try rfl) rfl ?_
  exact X.out _ _ _ _

set_option maxRecDepth 100000 in
set_option maxHeartbeats 4000000 in
theorem more_cast {w0 : World} {I : Nat → Prop} (b : Nat) {a : Tree} {u : Value} (hI : I b) (hb : w0.heap[b]? = some (.cells #[u] 156 (0, 0))) (hu : MkOK w0 I a u) (fu : ∃ T p, u = .iface T p) : MoreOK w0 I ⟨#[67, 97, 115, 116]⟩ (.node ⟨#[67, 97, 115, 116]⟩ ⟨#[]⟩ 0 [a]) (.iface 154 (.pointer (some ⟨b, 0, none⟩))) := by
  intro w hM
  have HN := Lib.hid (fun W (h : MS w0 I W) => node_of1 ⟨#[67, 97, 115, 116]⟩ ⟨#[]⟩ 0 hu (by obtain ⟨T, p, rfl⟩ := fu; rfl) h)
  have HB2 := Lib.hid (fun W (h : Below w.heap.size w W) (r : W.heap[w.heap.size]? = some (.cells #[.string ⟨#[]⟩, .string ⟨#[]⟩, .int .i64 0, .slice none 0 0] 24 (0, 0))) => And.intro (h.trans ((box_below W (.cells #[u] 38)).mono h.size)) (show (W.alloc (.cells #[u] 38)).heap[w.heap.size]? = _ from (Below.heap_alloc _ _ _ (lt_of_block r)).trans r))
  obtain ⟨Tu, pu, rfl⟩ := fu
  have BB := Lib.hid (box_below w (.cells #[.string ⟨#[]⟩, .string ⟨#[]⟩, .int .i64 0, .slice none 0 0] 24))
  have RR := Lib.hid (show (w.alloc (.cells #[.string ⟨#[]⟩, .string ⟨#[]⟩, .int .i64 0, .slice none 0 0] 24)).heap[w.heap.size]? = some (.cells #[.string ⟨#[]⟩, .string ⟨#[]⟩, .int .i64 0, .slice none 0 0] 24 (0, 0)) from heap_alloc_new w _)
  have MM := Lib.hid (hM.on (box_below w (.cells #[.string ⟨#[]⟩, .string ⟨#[]⟩, .int .i64 0, .slice none 0 0] 24)))
  obtain ⟨w1, hw1⟩ : ∃ w1, w1 = w.alloc (.cells #[.string ⟨#[]⟩, .string ⟨#[]⟩, .int .i64 0, .slice none 0 0] 24) := ⟨_, rfl⟩
  clear hM
  have HC := Lib.hid (show ∀ W, MS w0 I W → W.heap[b]? = some (.cells #[.iface Tu pu] 156 (0, 0)) from fun W h => (h.same b hI).trans hb)
  clear hb hI hu
  have tArrayType := fun W => (show (Instr.typeAssert (.iface 154 (.pointer (some ⟨b, 0, none⟩))) 38 108 true).run Tryz.prog W = .ok (.tuple #[.pointer none, .bool false]) W from by kernel_rfl)
  have tVectorType := fun W => (show (Instr.typeAssert (.iface 154 (.pointer (some ⟨b, 0, none⟩))) 38 111 true).run Tryz.prog W = .ok (.tuple #[.pointer none, .bool false]) W from by kernel_rfl)
  have tPtrMem := fun W => (show (Instr.typeAssert (.iface 154 (.pointer (some ⟨b, 0, none⟩))) 38 114 true).run Tryz.prog W = .ok (.tuple #[.pointer none, .bool false]) W from by kernel_rfl)
  have tVendorQualifier := fun W => (show (Instr.typeAssert (.iface 154 (.pointer (some ⟨b, 0, none⟩))) 38 117 true).run Tryz.prog W = .ok (.tuple #[.pointer none, .bool false]) W from by kernel_rfl)
  have tSpecial := fun W => (show (Instr.typeAssert (.iface 154 (.pointer (some ⟨b, 0, none⟩))) 38 120 true).run Tryz.prog W = .ok (.tuple #[.pointer none, .bool false]) W from by kernel_rfl)
  have tSpecial2 := fun W => (show (Instr.typeAssert (.iface 154 (.pointer (some ⟨b, 0, none⟩))) 38 123 true).run Tryz.prog W = .ok (.tuple #[.pointer none, .bool false]) W from by kernel_rfl)
  have tLiteral := fun W => (show (Instr.typeAssert (.iface 154 (.pointer (some ⟨b, 0, none⟩))) 38 126 true).run Tryz.prog W = .ok (.tuple #[.pointer none, .bool false]) W from by kernel_rfl)
  have tArgumentPack := fun W => (show (Instr.typeAssert (.iface 154 (.pointer (some ⟨b, 0, none⟩))) 38 129 true).run Tryz.prog W = .ok (.tuple #[.pointer none, .bool false]) W from by kernel_rfl)
  have tPackExpansion := fun W => (show (Instr.typeAssert (.iface 154 (.pointer (some ⟨b, 0, none⟩))) 38 133 true).run Tryz.prog W = .ok (.tuple #[.pointer none, .bool false]) W from by kernel_rfl)
  have tClosure := fun W => (show (Instr.typeAssert (.iface 154 (.pointer (some ⟨b, 0, none⟩))) 38 136 true).run Tryz.prog W = .ok (.tuple #[.pointer none, .bool false]) W from by kernel_rfl)
  have tUnnamedType := fun W => (show (Instr.typeAssert (.iface 154 (.pointer (some ⟨b, 0, none⟩))) 38 139 true).run Tryz.prog W = .ok (.tuple #[.pointer none, .bool false]) W from by kernel_rfl)
  have tTaggedName := fun W => (show (Instr.typeAssert (.iface 154 (.pointer (some ⟨b, 0, none⟩))) 38 142 true).run Tryz.prog W = .ok (.tuple #[.pointer none, .bool false]) W from by kernel_rfl)
  have tDefaultArg := fun W => (show (Instr.typeAssert (.iface 154 (.pointer (some ⟨b, 0, none⟩))) 38 145 true).run Tryz.prog W = .ok (.tuple #[.pointer none, .bool false]) W from by kernel_rfl)
  have tClone := fun W => (show (Instr.typeAssert (.iface 154 (.pointer (some ⟨b, 0, none⟩))) 38 148 true).run Tryz.prog W = .ok (.tuple #[.pointer none, .bool false]) W from by kernel_rfl)
  have tGlobalCDtor := fun W => (show (Instr.typeAssert (.iface 154 (.pointer (some ⟨b, 0, none⟩))) 38 151 true).run Tryz.prog W = .ok (.tuple #[.pointer none, .bool false]) W from by kernel_rfl)
  have tCast := fun W => (show (Instr.typeAssert (.iface 154 (.pointer (some ⟨b, 0, none⟩))) 38 154 true).run Tryz.prog W = .ok (.tuple #[.pointer (some ⟨b, 0, none⟩), .bool true]) W from by kernel_rfl)
  rw [← hw1] at BB RR MM
  have CE := Lib.hid (HC.out _ MM.out)
  go_enter Tryz.func48, Tryz.ntmps48
  go_upto_region 1 with fail
  rw [← hw1]
  clear hw1
  obtain c0 := cells1 CE.out
  clear CE
  go_wp2_with fail
  have MD := MM
  have BD := BB
  have RD := RR
  refine (HN.out _ MD.out).mono ?_
  rintro e w3 ⟨⟨kv3, rfl, hr3⟩, b3⟩
  obtain ⟨⟨⟨z0, z1, z2, z3⟩, fr⟩, ⟨ka, kn, kc, hkv⟩, X0⟩ := node_fin (HB2.out _ BD.out RD.out).1 (HB2.out _ BD.out RD.out).2 hr3 b3
  subst hkv
  have X := Lib.hid X0
  clear hr3 b3 X0
  go_wp2_with fail
  (try simp only [Exit.inBlock, Exit.then])
  refine bodyPost_ret (by simp [results, Tryz.results48, go_sem, z0, z1, z2, z3]; try rfl) rfl ?_
  exact X.out _ _ _ _

set_option maxRecDepth 100000 in
set_option maxHeartbeats 4000000 in
theorem node_cast {w0 : World} {I : Nat → Prop} (b : Nat) {a : Tree} {u : Value} (hI : I b) (hb : w0.heap[b]? = some (.cells #[u] 156 (0, 0))) (hu : MkOK w0 I a u) (fu : ∃ T p, u = .iface T p) : MkOK w0 I (.node ⟨#[67, 97, 115, 116]⟩ ⟨#[]⟩ 0 [a]) (.iface 154 (.pointer (some ⟨b, 0, none⟩))) := by
  intro w hM
  have BB := Lib.hid (box_below w (.cells #[.string ⟨#[]⟩, .string ⟨#[]⟩, .int .i64 0, .slice none 0 0] 24))
  have RR := Lib.hid (show (w.alloc (.cells #[.string ⟨#[]⟩, .string ⟨#[]⟩, .int .i64 0, .slice none 0 0] 24)).heap[w.heap.size]? = some (.cells #[.string ⟨#[]⟩, .string ⟨#[]⟩, .int .i64 0, .slice none 0 0] 24 (0, 0)) from heap_alloc_new w _)
  have MM := Lib.hid (hM.on (box_below w (.cells #[.string ⟨#[]⟩, .string ⟨#[]⟩, .int .i64 0, .slice none 0 0] 24)))
  obtain ⟨w1, hw1⟩ : ∃ w1, w1 = w.alloc (.cells #[.string ⟨#[]⟩, .string ⟨#[]⟩, .int .i64 0, .slice none 0 0] 24) := ⟨_, rfl⟩
  clear hM
  have HM := Lib.hid (more_cast b hI hb hu fu)
  have HK := Lib.hid (fun W => kindOf_cast ⟨b, 0, none⟩ W)
  clear hb hI hu
  have tName := fun W => (show (Instr.typeAssert (.iface 154 (.pointer (some ⟨b, 0, none⟩))) 38 45 true).run Tryz.prog W = .ok (.tuple #[.pointer none, .bool false]) W from by kernel_rfl)
  have tBuiltinType := fun W => (show (Instr.typeAssert (.iface 154 (.pointer (some ⟨b, 0, none⟩))) 38 53 true).run Tryz.prog W = .ok (.tuple #[.pointer none, .bool false]) W from by kernel_rfl)
  have tOperator := fun W => (show (Instr.typeAssert (.iface 154 (.pointer (some ⟨b, 0, none⟩))) 38 55 true).run Tryz.prog W = .ok (.tuple #[.pointer none, .bool false]) W from by kernel_rfl)
  have tConstructor := fun W => (show (Instr.typeAssert (.iface 154 (.pointer (some ⟨b, 0, none⟩))) 38 59 true).run Tryz.prog W = .ok (.tuple #[.pointer none, .bool false]) W from by kernel_rfl)
  have tDestructor := fun W => (show (Instr.typeAssert (.iface 154 (.pointer (some ⟨b, 0, none⟩))) 38 63 true).run Tryz.prog W = .ok (.tuple #[.pointer none, .bool false]) W from by kernel_rfl)
  have tQualified := fun W => (show (Instr.typeAssert (.iface 154 (.pointer (some ⟨b, 0, none⟩))) 38 66 true).run Tryz.prog W = .ok (.tuple #[.pointer none, .bool false]) W from by kernel_rfl)
  have tTemplate := fun W => (show (Instr.typeAssert (.iface 154 (.pointer (some ⟨b, 0, none⟩))) 38 69 true).run Tryz.prog W = .ok (.tuple #[.pointer none, .bool false]) W from by kernel_rfl)
  have tTyped := fun W => (show (Instr.typeAssert (.iface 154 (.pointer (some ⟨b, 0, none⟩))) 38 74 true).run Tryz.prog W = .ok (.tuple #[.pointer none, .bool false]) W from by kernel_rfl)
  have tFunctionType := fun W => (show (Instr.typeAssert (.iface 154 (.pointer (some ⟨b, 0, none⟩))) 38 77 true).run Tryz.prog W = .ok (.tuple #[.pointer none, .bool false]) W from by kernel_rfl)
  have tPointerType := fun W => (show (Instr.typeAssert (.iface 154 (.pointer (some ⟨b, 0, none⟩))) 38 80 true).run Tryz.prog W = .ok (.tuple #[.pointer none, .bool false]) W from by kernel_rfl)
  have tReferenceType := fun W => (show (Instr.typeAssert (.iface 154 (.pointer (some ⟨b, 0, none⟩))) 38 83 true).run Tryz.prog W = .ok (.tuple #[.pointer none, .bool false]) W from by kernel_rfl)
  have tRvalueReferenceType := fun W => (show (Instr.typeAssert (.iface 154 (.pointer (some ⟨b, 0, none⟩))) 38 85 true).run Tryz.prog W = .ok (.tuple #[.pointer none, .bool false]) W from by kernel_rfl)
  have tComplexType := fun W => (show (Instr.typeAssert (.iface 154 (.pointer (some ⟨b, 0, none⟩))) 38 87 true).run Tryz.prog W = .ok (.tuple #[.pointer none, .bool false]) W from by kernel_rfl)
  have tImaginaryType := fun W => (show (Instr.typeAssert (.iface 154 (.pointer (some ⟨b, 0, none⟩))) 38 89 true).run Tryz.prog W = .ok (.tuple #[.pointer none, .bool false]) W from by kernel_rfl)
  have tTypeWithQualifiers := fun W => (show (Instr.typeAssert (.iface 154 (.pointer (some ⟨b, 0, none⟩))) 38 91 true).run Tryz.prog W = .ok (.tuple #[.pointer none, .bool false]) W from by kernel_rfl)
  have tQualifiers := fun W => (show (Instr.typeAssert (.iface 154 (.pointer (some ⟨b, 0, none⟩))) 38 94 true).run Tryz.prog W = .ok (.tuple #[.pointer none, .bool false]) W from by kernel_rfl)
  have tQualifier := fun W => (show (Instr.typeAssert (.iface 154 (.pointer (some ⟨b, 0, none⟩))) 38 97 true).run Tryz.prog W = .ok (.tuple #[.pointer none, .bool false]) W from by kernel_rfl)
  have tMethodWithQualifiers := fun W => (show (Instr.typeAssert (.iface 154 (.pointer (some ⟨b, 0, none⟩))) 38 100 true).run Tryz.prog W = .ok (.tuple #[.pointer none, .bool false]) W from by kernel_rfl)
  go_enter Tryz.func28, Tryz.ntmps28
  go_wp2_with fail
  rw [← hw1] at BB RR MM ⊢
  refine (HK.out _).mono ?_
  rintro e w2 ⟨rfl, rfl⟩
  clear hw1 HK
  go_wp2_with fail
  refine (HM.out _ MM.out).mono ?_
  rintro e w3 ⟨⟨kv3, rfl, hr3⟩, b3⟩
  obtain ⟨⟨⟨z0, z1, z2, z3⟩, fr⟩, ⟨ka, kn, kc, hkv⟩, X0⟩ := node_fin BB.out RR.out hr3 b3
  subst hkv
  have X := Lib.hid X0
  clear hr3 b3 X0
  go_wp2_with fail
  (try simp only [Exit.inBlock, Exit.then])
  refine bodyPost_ret (by simp [results, Tryz.results28, go_sem, z0, z1, z2, z3]; try rfl) rfl ?_
  exact X.out _ _ _ _

set_option maxRecDepth 100000 in
set_option maxHeartbeats 4000000 in
theorem more_unnamedType {w0 : World} {I : Nat → Prop} (b : Nat) {n : Int} (hI : I b) (hb : w0.heap[b]? = some (.cells #[.int .i64 n] 141 (0, 0))) : MoreOK w0 I ⟨#[85, 110, 110, 97, 109, 101, 100, 84, 121, 112, 101]⟩ (.node ⟨#[85, 110, 110, 97, 109, 101, 100, 84, 121, 112, 101]⟩ ⟨#[]⟩ n []) (.iface 139 (.pointer (some ⟨b, 0, none⟩))) := by
  intro w hM
  have HN := Lib.hid (fun W (h : MS w0 I W) => node_of0 ⟨#[85, 110, 110, 97, 109, 101, 100, 84, 121, 112, 101]⟩ ⟨#[]⟩ n h)
  have BB := Lib.hid (box_below w (.cells #[.string ⟨#[]⟩, .string ⟨#[]⟩, .int .i64 0, .slice none 0 0] 24))
  have RR := Lib.hid (show (w.alloc (.cells #[.string ⟨#[]⟩, .string ⟨#[]⟩, .int .i64 0, .slice none 0 0] 24)).heap[w.heap.size]? = some (.cells #[.string ⟨#[]⟩, .string ⟨#[]⟩, .int .i64 0, .slice none 0 0] 24 (0, 0)) from heap_alloc_new w _)
  have MM := Lib.hid (hM.on (box_below w (.cells #[.string ⟨#[]⟩, .string ⟨#[]⟩, .int .i64 0, .slice none 0 0] 24)))
  obtain ⟨w1, hw1⟩ : ∃ w1, w1 = w.alloc (.cells #[.string ⟨#[]⟩, .string ⟨#[]⟩, .int .i64 0, .slice none 0 0] 24) := ⟨_, rfl⟩
  clear hM
  have HC := Lib.hid (show ∀ W, MS w0 I W → W.heap[b]? = some (.cells #[.int .i64 n] 141 (0, 0)) from fun W h => (h.same b hI).trans hb)
  clear hb hI
  have tArrayType := fun W => (show (Instr.typeAssert (.iface 139 (.pointer (some ⟨b, 0, none⟩))) 38 108 true).run Tryz.prog W = .ok (.tuple #[.pointer none, .bool false]) W from by kernel_rfl)
  have tVectorType := fun W => (show (Instr.typeAssert (.iface 139 (.pointer (some ⟨b, 0, none⟩))) 38 111 true).run Tryz.prog W = .ok (.tuple #[.pointer none, .bool false]) W from by kernel_rfl)
  have tPtrMem := fun W => (show (Instr.typeAssert (.iface 139 (.pointer (some ⟨b, 0, none⟩))) 38 114 true).run Tryz.prog W = .ok (.tuple #[.pointer none, .bool false]) W from by kernel_rfl)
  have tVendorQualifier := fun W => (show (Instr.typeAssert (.iface 139 (.pointer (some ⟨b, 0, none⟩))) 38 117 true).run Tryz.prog W = .ok (.tuple #[.pointer none, .bool false]) W from by kernel_rfl)
  have tSpecial := fun W => (show (Instr.typeAssert (.iface 139 (.pointer (some ⟨b, 0, none⟩))) 38 120 true).run Tryz.prog W = .ok (.tuple #[.pointer none, .bool false]) W from by kernel_rfl)
  have tSpecial2 := fun W => (show (Instr.typeAssert (.iface 139 (.pointer (some ⟨b, 0, none⟩))) 38 123 true).run Tryz.prog W = .ok (.tuple #[.pointer none, .bool false]) W from by kernel_rfl)
  have tLiteral := fun W => (show (Instr.typeAssert (.iface 139 (.pointer (some ⟨b, 0, none⟩))) 38 126 true).run Tryz.prog W = .ok (.tuple #[.pointer none, .bool false]) W from by kernel_rfl)
  have tArgumentPack := fun W => (show (Instr.typeAssert (.iface 139 (.pointer (some ⟨b, 0, none⟩))) 38 129 true).run Tryz.prog W = .ok (.tuple #[.pointer none, .bool false]) W from by kernel_rfl)
  have tPackExpansion := fun W => (show (Instr.typeAssert (.iface 139 (.pointer (some ⟨b, 0, none⟩))) 38 133 true).run Tryz.prog W = .ok (.tuple #[.pointer none, .bool false]) W from by kernel_rfl)
  have tClosure := fun W => (show (Instr.typeAssert (.iface 139 (.pointer (some ⟨b, 0, none⟩))) 38 136 true).run Tryz.prog W = .ok (.tuple #[.pointer none, .bool false]) W from by kernel_rfl)
  have tUnnamedType := fun W => (show (Instr.typeAssert (.iface 139 (.pointer (some ⟨b, 0, none⟩))) 38 139 true).run Tryz.prog W = .ok (.tuple #[.pointer (some ⟨b, 0, none⟩), .bool true]) W from by kernel_rfl)
  rw [← hw1] at BB RR MM
  have CE := Lib.hid (HC.out _ MM.out)
  go_enter Tryz.func48, Tryz.ntmps48
  go_upto_region 1 with fail
  rw [← hw1]
  clear hw1
  obtain c0 := cells1 CE.out
  clear CE
  go_wp2_with fail
  have MD := MM
  have BD := BB
  have RD := RR
  refine (HN.out _ MD.out).mono ?_
  rintro e w3 ⟨⟨kv3, rfl, hr3⟩, b3⟩
  obtain ⟨⟨⟨z0, z1, z2, z3⟩, fr⟩, ⟨ka, kn, kc, hkv⟩, X0⟩ := node_fin BD.out RD.out hr3 b3
  subst hkv
  have X := Lib.hid X0
  clear hr3 b3 X0
  go_wp2_with fail
  (try simp only [Exit.inBlock, Exit.then])
  refine bodyPost_ret (by simp [results, Tryz.results48, go_sem, z0, z1, z2, z3]; try rfl) rfl ?_
  exact X.out _ _ _ _

set_option maxRecDepth 100000 in
set_option maxHeartbeats 4000000 in
theorem node_unnamedType {w0 : World} {I : Nat → Prop} (b : Nat) {n : Int} (hI : I b) (hb : w0.heap[b]? = some (.cells #[.int .i64 n] 141 (0, 0))) : MkOK w0 I (.node ⟨#[85, 110, 110, 97, 109, 101, 100, 84, 121, 112, 101]⟩ ⟨#[]⟩ n []) (.iface 139 (.pointer (some ⟨b, 0, none⟩))) := by
  intro w hM
  have BB := Lib.hid (box_below w (.cells #[.string ⟨#[]⟩, .string ⟨#[]⟩, .int .i64 0, .slice none 0 0] 24))
  have RR := Lib.hid (show (w.alloc (.cells #[.string ⟨#[]⟩, .string ⟨#[]⟩, .int .i64 0, .slice none 0 0] 24)).heap[w.heap.size]? = some (.cells #[.string ⟨#[]⟩, .string ⟨#[]⟩, .int .i64 0, .slice none 0 0] 24 (0, 0)) from heap_alloc_new w _)
  have MM := Lib.hid (hM.on (box_below w (.cells #[.string ⟨#[]⟩, .string ⟨#[]⟩, .int .i64 0, .slice none 0 0] 24)))
  obtain ⟨w1, hw1⟩ : ∃ w1, w1 = w.alloc (.cells #[.string ⟨#[]⟩, .string ⟨#[]⟩, .int .i64 0, .slice none 0 0] 24) := ⟨_, rfl⟩
  clear hM
  have HM := Lib.hid (more_unnamedType b hI hb)
  have HK := Lib.hid (fun W => kindOf_unnamedType ⟨b, 0, none⟩ W)
  clear hb hI
  have tName := fun W => (show (Instr.typeAssert (.iface 139 (.pointer (some ⟨b, 0, none⟩))) 38 45 true).run Tryz.prog W = .ok (.tuple #[.pointer none, .bool false]) W from by kernel_rfl)
  have tBuiltinType := fun W => (show (Instr.typeAssert (.iface 139 (.pointer (some ⟨b, 0, none⟩))) 38 53 true).run Tryz.prog W = .ok (.tuple #[.pointer none, .bool false]) W from by kernel_rfl)
  have tOperator := fun W => (show (Instr.typeAssert (.iface 139 (.pointer (some ⟨b, 0, none⟩))) 38 55 true).run Tryz.prog W = .ok (.tuple #[.pointer none, .bool false]) W from by kernel_rfl)
  have tConstructor := fun W => (show (Instr.typeAssert (.iface 139 (.pointer (some ⟨b, 0, none⟩))) 38 59 true).run Tryz.prog W = .ok (.tuple #[.pointer none, .bool false]) W from by kernel_rfl)
  have tDestructor := fun W => (show (Instr.typeAssert (.iface 139 (.pointer (some ⟨b, 0, none⟩))) 38 63 true).run Tryz.prog W = .ok (.tuple #[.pointer none, .bool false]) W from by kernel_rfl)
  have tQualified := fun W => (show (Instr.typeAssert (.iface 139 (.pointer (some ⟨b, 0, none⟩))) 38 66 true).run Tryz.prog W = .ok (.tuple #[.pointer none, .bool false]) W from by kernel_rfl)
  have tTemplate := fun W => (show (Instr.typeAssert (.iface 139 (.pointer (some ⟨b, 0, none⟩))) 38 69 true).run Tryz.prog W = .ok (.tuple #[.pointer none, .bool false]) W from by kernel_rfl)
  have tTyped := fun W => (show (Instr.typeAssert (.iface 139 (.pointer (some ⟨b, 0, none⟩))) 38 74 true).run Tryz.prog W = .ok (.tuple #[.pointer none, .bool false]) W from by kernel_rfl)
  have tFunctionType := fun W => (show (Instr.typeAssert (.iface 139 (.pointer (some ⟨b, 0, none⟩))) 38 77 true).run Tryz.prog W = .ok (.tuple #[.pointer none, .bool false]) W from by kernel_rfl)
  have tPointerType := fun W => (show (Instr.typeAssert (.iface 139 (.pointer (some ⟨b, 0, none⟩))) 38 80 true).run Tryz.prog W = .ok (.tuple #[.pointer none, .bool false]) W from by kernel_rfl)
  have tReferenceType := fun W => (show (Instr.typeAssert (.iface 139 (.pointer (some ⟨b, 0, none⟩))) 38 83 true).run Tryz.prog W = .ok (.tuple #[.pointer none, .bool false]) W from by kernel_rfl)
  have tRvalueReferenceType := fun W => (show (Instr.typeAssert (.iface 139 (.pointer (some ⟨b, 0, none⟩))) 38 85 true).run Tryz.prog W = .ok (.tuple #[.pointer none, .bool false]) W from by kernel_rfl)
  have tComplexType := fun W => (show (Instr.typeAssert (.iface 139 (.pointer (some ⟨b, 0, none⟩))) 38 87 true).run Tryz.prog W = .ok (.tuple #[.pointer none, .bool false]) W from by kernel_rfl)
  have tImaginaryType := fun W => (show (Instr.typeAssert (.iface 139 (.pointer (some ⟨b, 0, none⟩))) 38 89 true).run Tryz.prog W = .ok (.tuple #[.pointer none, .bool false]) W from by kernel_rfl)
  have tTypeWithQualifiers := fun W => (show (Instr.typeAssert (.iface 139 (.pointer (some ⟨b, 0, none⟩))) 38 91 true).run Tryz.prog W = .ok (.tuple #[.pointer none, .bool false]) W from by kernel_rfl)
  have tQualifiers := fun W => (show (Instr.typeAssert (.iface 139 (.pointer (some ⟨b, 0, none⟩))) 38 94 true).run Tryz.prog W = .ok (.tuple #[.pointer none, .bool false]) W from by kernel_rfl)
  have tQualifier := fun W => (show (Instr.typeAssert (.iface 139 (.pointer (some ⟨b, 0, none⟩))) 38 97 true).run Tryz.prog W = .ok (.tuple #[.pointer none, .bool false]) W from by kernel_rfl)
  have tMethodWithQualifiers := fun W => (show (Instr.typeAssert (.iface 139 (.pointer (some ⟨b, 0, none⟩))) 38 100 true).run Tryz.prog W = .ok (.tuple #[.pointer none, .bool false]) W from by kernel_rfl)
  go_enter Tryz.func28, Tryz.ntmps28
  go_wp2_with fail
  rw [← hw1] at BB RR MM ⊢
  refine (HK.out _).mono ?_
  rintro e w2 ⟨rfl, rfl⟩
  clear hw1 HK
  go_wp2_with fail
  refine (HM.out _ MM.out).mono ?_
  rintro e w3 ⟨⟨kv3, rfl, hr3⟩, b3⟩
  obtain ⟨⟨⟨z0, z1, z2, z3⟩, fr⟩, ⟨ka, kn, kc, hkv⟩, X0⟩ := node_fin BB.out RR.out hr3 b3
  subst hkv
  have X := Lib.hid X0
  clear hr3 b3 X0
  go_wp2_with fail
  (try simp only [Exit.inBlock, Exit.then])
  refine bodyPost_ret (by simp [results, Tryz.results28, go_sem, z0, z1, z2, z3]; try rfl) rfl ?_
  exact X.out _ _ _ _

set_option maxRecDepth 100000 in
set_option maxHeartbeats 4000000 in
theorem more_argumentPack {w0 : World} {I : Nat → Prop} (b : Nat) {l : List Tree} {sv : Value} {kv : List Value} (hI : I b) (hb : w0.heap[b]? = some (.cells #[sv] 131 (0, 0))) (hs : SliceOf w0 I sv kv) (hl : MkL w0 I l kv) : MoreOK w0 I ⟨#[65, 114, 103, 117, 109, 101, 110, 116, 80, 97, 99, 107]⟩ (.node ⟨#[65, 114, 103, 117, 109, 101, 110, 116, 80, 97, 99, 107]⟩ ⟨#[]⟩ 0 l) (.iface 129 (.pointer (some ⟨b, 0, none⟩))) := by
  intro w hM
  have HN := Lib.hid (fun W (h : MS w0 I W) => node_ofs ⟨#[65, 114, 103, 117, 109, 101, 110, 116, 80, 97, 99, 107]⟩ ⟨#[]⟩ 0 hs hl h)
  obtain ⟨sa, sc, rfl, _, _, _⟩ := hs.lay
  have BB := Lib.hid (box_below w (.cells #[.string ⟨#[]⟩, .string ⟨#[]⟩, .int .i64 0, .slice none 0 0] 24))
  have RR := Lib.hid (show (w.alloc (.cells #[.string ⟨#[]⟩, .string ⟨#[]⟩, .int .i64 0, .slice none 0 0] 24)).heap[w.heap.size]? = some (.cells #[.string ⟨#[]⟩, .string ⟨#[]⟩, .int .i64 0, .slice none 0 0] 24 (0, 0)) from heap_alloc_new w _)
  have MM := Lib.hid (hM.on (box_below w (.cells #[.string ⟨#[]⟩, .string ⟨#[]⟩, .int .i64 0, .slice none 0 0] 24)))
  obtain ⟨w1, hw1⟩ : ∃ w1, w1 = w.alloc (.cells #[.string ⟨#[]⟩, .string ⟨#[]⟩, .int .i64 0, .slice none 0 0] 24) := ⟨_, rfl⟩
  clear hM
  have HC := Lib.hid (show ∀ W, MS w0 I W → W.heap[b]? = some (.cells #[.slice sa kv.length sc] 131 (0, 0)) from fun W h => (h.same b hI).trans hb)
  clear hb hI hs hl
  have tArrayType := fun W => (show (Instr.typeAssert (.iface 129 (.pointer (some ⟨b, 0, none⟩))) 38 108 true).run Tryz.prog W = .ok (.tuple #[.pointer none, .bool false]) W from by kernel_rfl)
  have tVectorType := fun W => (show (Instr.typeAssert (.iface 129 (.pointer (some ⟨b, 0, none⟩))) 38 111 true).run Tryz.prog W = .ok (.tuple #[.pointer none, .bool false]) W from by kernel_rfl)
  have tPtrMem := fun W => (show (Instr.typeAssert (.iface 129 (.pointer (some ⟨b, 0, none⟩))) 38 114 true).run Tryz.prog W = .ok (.tuple #[.pointer none, .bool false]) W from by kernel_rfl)
  have tVendorQualifier := fun W => (show (Instr.typeAssert (.iface 129 (.pointer (some ⟨b, 0, none⟩))) 38 117 true).run Tryz.prog W = .ok (.tuple #[.pointer none, .bool false]) W from by kernel_rfl)
  have tSpecial := fun W => (show (Instr.typeAssert (.iface 129 (.pointer (some ⟨b, 0, none⟩))) 38 120 true).run Tryz.prog W = .ok (.tuple #[.pointer none, .bool false]) W from by kernel_rfl)
  have tSpecial2 := fun W => (show (Instr.typeAssert (.iface 129 (.pointer (some ⟨b, 0, none⟩))) 38 123 true).run Tryz.prog W = .ok (.tuple #[.pointer none, .bool false]) W from by kernel_rfl)
  have tLiteral := fun W => (show (Instr.typeAssert (.iface 129 (.pointer (some ⟨b, 0, none⟩))) 38 126 true).run Tryz.prog W = .ok (.tuple #[.pointer none, .bool false]) W from by kernel_rfl)
  have tArgumentPack := fun W => (show (Instr.typeAssert (.iface 129 (.pointer (some ⟨b, 0, none⟩))) 38 129 true).run Tryz.prog W = .ok (.tuple #[.pointer (some ⟨b, 0, none⟩), .bool true]) W from by kernel_rfl)
  rw [← hw1] at BB RR MM
  have CE := Lib.hid (HC.out _ MM.out)
  go_enter Tryz.func48, Tryz.ntmps48
  go_upto_region 1 with fail
  rw [← hw1]
  clear hw1
  obtain c0 := cells1 CE.out
  clear CE
  go_wp2_with fail
  have MD := MM
  have BD := BB
  have RD := RR
  refine (HN.out _ MD.out).mono ?_
  rintro e w3 ⟨⟨kv3, rfl, hr3⟩, b3⟩
  obtain ⟨⟨⟨z0, z1, z2, z3⟩, fr⟩, ⟨ka, kn, kc, hkv⟩, X0⟩ := node_fin BD.out RD.out hr3 b3
  subst hkv
  have X := Lib.hid X0
  clear hr3 b3 X0
  go_wp2_with fail
  (try simp only [Exit.inBlock, Exit.then])
  refine bodyPost_ret (by simp [results, Tryz.results48, go_sem, z0, z1, z2, z3]; try rfl) rfl ?_
  exact X.out _ _ _ _

set_option maxRecDepth 100000 in
set_option maxHeartbeats 4000000 in
theorem node_argumentPack {w0 : World} {I : Nat → Prop} (b : Nat) {l : List Tree} {sv : Value} {kv : List Value} (hI : I b) (hb : w0.heap[b]? = some (.cells #[sv] 131 (0, 0))) (hs : SliceOf w0 I sv kv) (hl : MkL w0 I l kv) : MkOK w0 I (.node ⟨#[65, 114, 103, 117, 109, 101, 110, 116, 80, 97, 99, 107]⟩ ⟨#[]⟩ 0 l) (.iface 129 (.pointer (some ⟨b, 0, none⟩))) := by
  intro w hM
  have BB := Lib.hid (box_below w (.cells #[.string ⟨#[]⟩, .string ⟨#[]⟩, .int .i64 0, .slice none 0 0] 24))
  have RR := Lib.hid (show (w.alloc (.cells #[.string ⟨#[]⟩, .string ⟨#[]⟩, .int .i64 0, .slice none 0 0] 24)).heap[w.heap.size]? = some (.cells #[.string ⟨#[]⟩, .string ⟨#[]⟩, .int .i64 0, .slice none 0 0] 24 (0, 0)) from heap_alloc_new w _)
  have MM := Lib.hid (hM.on (box_below w (.cells #[.string ⟨#[]⟩, .string ⟨#[]⟩, .int .i64 0, .slice none 0 0] 24)))
  obtain ⟨w1, hw1⟩ : ∃ w1, w1 = w.alloc (.cells #[.string ⟨#[]⟩, .string ⟨#[]⟩, .int .i64 0, .slice none 0 0] 24) := ⟨_, rfl⟩
  clear hM
  have HM := Lib.hid (more_argumentPack b hI hb hs hl)
  have HK := Lib.hid (fun W => kindOf_argumentPack ⟨b, 0, none⟩ W)
  clear hb hI hs hl
  have tName := fun W => (show (Instr.typeAssert (.iface 129 (.pointer (some ⟨b, 0, none⟩))) 38 45 true).run Tryz.prog W = .ok (.tuple #[.pointer none, .bool false]) W from by kernel_rfl)
  have tBuiltinType := fun W => (show (Instr.typeAssert (.iface 129 (.pointer (some ⟨b, 0, none⟩))) 38 53 true).run Tryz.prog W = .ok (.tuple #[.pointer none, .bool false]) W from by kernel_rfl)
  have tOperator := fun W => (show (Instr.typeAssert (.iface 129 (.pointer (some ⟨b, 0, none⟩))) 38 55 true).run Tryz.prog W = .ok (.tuple #[.pointer none, .bool false]) W from by kernel_rfl)
  have tConstructor := fun W => (show (Instr.typeAssert (.iface 129 (.pointer (some ⟨b, 0, none⟩))) 38 59 true).run Tryz.prog W = .ok (.tuple #[.pointer none, .bool false]) W from by kernel_rfl)
  have tDestructor := fun W => (show (Instr.typeAssert (.iface 129 (.pointer (some ⟨b, 0, none⟩))) 38 63 true).run Tryz.prog W = .ok (.tuple #[.pointer none, .bool false]) W from by kernel_rfl)
  have tQualified := fun W => (show (Instr.typeAssert (.iface 129 (.pointer (some ⟨b, 0, none⟩))) 38 66 true).run Tryz.prog W = .ok (.tuple #[.pointer none, .bool false]) W from by kernel_rfl)
  have tTemplate := fun W => (show (Instr.typeAssert (.iface 129 (.pointer (some ⟨b, 0, none⟩))) 38 69 true).run Tryz.prog W = .ok (.tuple #[.pointer none, .bool false]) W from by kernel_rfl)
  have tTyped := fun W => (show (Instr.typeAssert (.iface 129 (.pointer (some ⟨b, 0, none⟩))) 38 74 true).run Tryz.prog W = .ok (.tuple #[.pointer none, .bool false]) W from by kernel_rfl)
  have tFunctionType := fun W => (show (Instr.typeAssert (.iface 129 (.pointer (some ⟨b, 0, none⟩))) 38 77 true).run Tryz.prog W = .ok (.tuple #[.pointer none, .bool false]) W from by kernel_rfl)
  have tPointerType := fun W => (show (Instr.typeAssert (.iface 129 (.pointer (some ⟨b, 0, none⟩))) 38 80 true).run Tryz.prog W = .ok (.tuple #[.pointer none, .bool false]) W from by kernel_rfl)
  have tReferenceType := fun W => (show (Instr.typeAssert (.iface 129 (.pointer (some ⟨b, 0, none⟩))) 38 83 true).run Tryz.prog W = .ok (.tuple #[.pointer none, .bool false]) W from by kernel_rfl)
  have tRvalueReferenceType := fun W => (show (Instr.typeAssert (.iface 129 (.pointer (some ⟨b, 0, none⟩))) 38 85 true).run Tryz.prog W = .ok (.tuple #[.pointer none, .bool false]) W from by kernel_rfl)
  have tComplexType := fun W => (show (Instr.typeAssert (.iface 129 (.pointer (some ⟨b, 0, none⟩))) 38 87 true).run Tryz.prog W = .ok (.tuple #[.pointer none, .bool false]) W from by kernel_rfl)
  have tImaginaryType := fun W => (show (Instr.typeAssert (.iface 129 (.pointer (some ⟨b, 0, none⟩))) 38 89 true).run Tryz.prog W = .ok (.tuple #[.pointer none, .bool false]) W from by kernel_rfl)
  have tTypeWithQualifiers := fun W => (show (Instr.typeAssert (.iface 129 (.pointer (some ⟨b, 0, none⟩))) 38 91 true).run Tryz.prog W = .ok (.tuple #[.pointer none, .bool false]) W from by kernel_rfl)
  have tQualifiers := fun W => (show (Instr.typeAssert (.iface 129 (.pointer (some ⟨b, 0, none⟩))) 38 94 true).run Tryz.prog W = .ok (.tuple #[.pointer none, .bool false]) W from by kernel_rfl)
  have tQualifier := fun W => (show (Instr.typeAssert (.iface 129 (.pointer (some ⟨b, 0, none⟩))) 38 97 true).run Tryz.prog W = .ok (.tuple #[.pointer none, .bool false]) W from by kernel_rfl)
  have tMethodWithQualifiers := fun W => (show (Instr.typeAssert (.iface 129 (.pointer (some ⟨b, 0, none⟩))) 38 100 true).run Tryz.prog W = .ok (.tuple #[.pointer none, .bool false]) W from by kernel_rfl)
  go_enter Tryz.func28, Tryz.ntmps28
  go_wp2_with fail
  rw [← hw1] at BB RR MM ⊢
  refine (HK.out _).mono ?_
  rintro e w2 ⟨rfl, rfl⟩
  clear hw1 HK
  go_wp2_with fail
  refine (HM.out _ MM.out).mono ?_
  rintro e w3 ⟨⟨kv3, rfl, hr3⟩, b3⟩
  obtain ⟨⟨⟨z0, z1, z2, z3⟩, fr⟩, ⟨ka, kn, kc, hkv⟩, X0⟩ := node_fin BB.out RR.out hr3 b3
  subst hkv
  have X := Lib.hid X0
  clear hr3 b3 X0
  go_wp2_with fail
  (try simp only [Exit.inBlock, Exit.then])
  refine bodyPost_ret (by simp [results, Tryz.results28, go_sem, z0, z1, z2, z3]; try rfl) rfl ?_
  exact X.out _ _ _ _

set_option maxRecDepth 100000 in
set_option maxHeartbeats 4000000 in
theorem node_qualifiers {w0 : World} {I : Nat → Prop} (b : Nat) {l : List Tree} {sv : Value} {kv : List Value} (hI : I b) (hb : w0.heap[b]? = some (.cells #[sv] 96 (0, 0))) (hs : SliceOf w0 I sv kv) (hl : MkL w0 I l kv) : MkOK w0 I (.node ⟨#[81, 117, 97, 108, 105, 102, 105, 101, 114, 115]⟩ ⟨#[]⟩ 0 l) (.iface 94 (.pointer (some ⟨b, 0, none⟩))) := by
  intro w hM
  have HN := Lib.hid (fun W (h : MS w0 I W) => node_ofs ⟨#[81, 117, 97, 108, 105, 102, 105, 101, 114, 115]⟩ ⟨#[]⟩ 0 hs hl h)
  obtain ⟨sa, sc, rfl, _, _, _⟩ := hs.lay
  have BB := Lib.hid (box_below w (.cells #[.string ⟨#[]⟩, .string ⟨#[]⟩, .int .i64 0, .slice none 0 0] 24))
  have RR := Lib.hid (show (w.alloc (.cells #[.string ⟨#[]⟩, .string ⟨#[]⟩, .int .i64 0, .slice none 0 0] 24)).heap[w.heap.size]? = some (.cells #[.string ⟨#[]⟩, .string ⟨#[]⟩, .int .i64 0, .slice none 0 0] 24 (0, 0)) from heap_alloc_new w _)
  have MM := Lib.hid (hM.on (box_below w (.cells #[.string ⟨#[]⟩, .string ⟨#[]⟩, .int .i64 0, .slice none 0 0] 24)))
  obtain ⟨w1, hw1⟩ : ∃ w1, w1 = w.alloc (.cells #[.string ⟨#[]⟩, .string ⟨#[]⟩, .int .i64 0, .slice none 0 0] 24) := ⟨_, rfl⟩
  clear hM
  have HC := Lib.hid (show ∀ W, MS w0 I W → W.heap[b]? = some (.cells #[.slice sa kv.length sc] 96 (0, 0)) from fun W h => (h.same b hI).trans hb)
  clear hb hI hs hl
  have tName := fun W => (show (Instr.typeAssert (.iface 94 (.pointer (some ⟨b, 0, none⟩))) 38 45 true).run Tryz.prog W = .ok (.tuple #[.pointer none, .bool false]) W from by kernel_rfl)
  have tBuiltinType := fun W => (show (Instr.typeAssert (.iface 94 (.pointer (some ⟨b, 0, none⟩))) 38 53 true).run Tryz.prog W = .ok (.tuple #[.pointer none, .bool false]) W from by kernel_rfl)
  have tOperator := fun W => (show (Instr.typeAssert (.iface 94 (.pointer (some ⟨b, 0, none⟩))) 38 55 true).run Tryz.prog W = .ok (.tuple #[.pointer none, .bool false]) W from by kernel_rfl)
  have tConstructor := fun W => (show (Instr.typeAssert (.iface 94 (.pointer (some ⟨b, 0, none⟩))) 38 59 true).run Tryz.prog W = .ok (.tuple #[.pointer none, .bool false]) W from by kernel_rfl)
  have tDestructor := fun W => (show (Instr.typeAssert (.iface 94 (.pointer (some ⟨b, 0, none⟩))) 38 63 true).run Tryz.prog W = .ok (.tuple #[.pointer none, .bool false]) W from by kernel_rfl)
  have tQualified := fun W => (show (Instr.typeAssert (.iface 94 (.pointer (some ⟨b, 0, none⟩))) 38 66 true).run Tryz.prog W = .ok (.tuple #[.pointer none, .bool false]) W from by kernel_rfl)
  have tTemplate := fun W => (show (Instr.typeAssert (.iface 94 (.pointer (some ⟨b, 0, none⟩))) 38 69 true).run Tryz.prog W = .ok (.tuple #[.pointer none, .bool false]) W from by kernel_rfl)
  have tTyped := fun W => (show (Instr.typeAssert (.iface 94 (.pointer (some ⟨b, 0, none⟩))) 38 74 true).run Tryz.prog W = .ok (.tuple #[.pointer none, .bool false]) W from by kernel_rfl)
  have tFunctionType := fun W => (show (Instr.typeAssert (.iface 94 (.pointer (some ⟨b, 0, none⟩))) 38 77 true).run Tryz.prog W = .ok (.tuple #[.pointer none, .bool false]) W from by kernel_rfl)
  have tPointerType := fun W => (show (Instr.typeAssert (.iface 94 (.pointer (some ⟨b, 0, none⟩))) 38 80 true).run Tryz.prog W = .ok (.tuple #[.pointer none, .bool false]) W from by kernel_rfl)
  have tReferenceType := fun W => (show (Instr.typeAssert (.iface 94 (.pointer (some ⟨b, 0, none⟩))) 38 83 true).run Tryz.prog W = .ok (.tuple #[.pointer none, .bool false]) W from by kernel_rfl)
  have tRvalueReferenceType := fun W => (show (Instr.typeAssert (.iface 94 (.pointer (some ⟨b, 0, none⟩))) 38 85 true).run Tryz.prog W = .ok (.tuple #[.pointer none, .bool false]) W from by kernel_rfl)
  have tComplexType := fun W => (show (Instr.typeAssert (.iface 94 (.pointer (some ⟨b, 0, none⟩))) 38 87 true).run Tryz.prog W = .ok (.tuple #[.pointer none, .bool false]) W from by kernel_rfl)
  have tImaginaryType := fun W => (show (Instr.typeAssert (.iface 94 (.pointer (some ⟨b, 0, none⟩))) 38 89 true).run Tryz.prog W = .ok (.tuple #[.pointer none, .bool false]) W from by kernel_rfl)
  have tTypeWithQualifiers := fun W => (show (Instr.typeAssert (.iface 94 (.pointer (some ⟨b, 0, none⟩))) 38 91 true).run Tryz.prog W = .ok (.tuple #[.pointer none, .bool false]) W from by kernel_rfl)
  have tQualifiers := fun W => (show (Instr.typeAssert (.iface 94 (.pointer (some ⟨b, 0, none⟩))) 38 94 true).run Tryz.prog W = .ok (.tuple #[.pointer (some ⟨b, 0, none⟩), .bool true]) W from by kernel_rfl)
  have HK := Lib.hid (fun W => kindOf_qualifiers ⟨b, 0, none⟩ W)
  rw [← hw1] at BB RR MM
  have CE := Lib.hid (HC.out _ MM.out)
  go_enter Tryz.func28, Tryz.ntmps28
  go_wp2_with fail
  rw [← hw1]
  refine (HK.out _).mono ?_
  rintro e w2 ⟨rfl, rfl⟩
  clear hw1 HK
  obtain c0 := cells1 CE.out
  clear CE
  go_wp2_with fail
  have MD := MM
  have BD := BB
  have RD := RR
  refine (HN.out _ MD.out).mono ?_
  rintro e w3 ⟨⟨kv3, rfl, hr3⟩, b3⟩
  obtain ⟨⟨⟨z0, z1, z2, z3⟩, fr⟩, ⟨ka, kn, kc, hkv⟩, X0⟩ := node_fin BD.out RD.out hr3 b3
  subst hkv
  have X := Lib.hid X0
  clear hr3 b3 X0
  go_wp2_with fail
  (try simp only [Exit.inBlock, Exit.then])
  refine bodyPost_ret (by simp [results, Tryz.results28, go_sem, z0, z1, z2, z3]; try rfl) rfl ?_
  exact X.out _ _ _ _

set_option maxRecDepth 100000 in
set_option maxHeartbeats 4000000 in
theorem node_qualifier {w0 : World} {I : Nat → Prop} (b : Nat) {s : ByteArray} {l : List Tree} {sv : Value} {kv : List Value} (hI : I b) (hb : w0.heap[b]? = some (.cells #[.string s, sv] 99 (0, 0))) (hs : SliceOf w0 I sv kv) (hl : MkL w0 I l kv) : MkOK w0 I (.node ⟨#[81, 117, 97, 108, 105, 102, 105, 101, 114]⟩ s 0 l) (.iface 97 (.pointer (some ⟨b, 0, none⟩))) := by
  intro w hM
  have HN := Lib.hid (fun W (h : MS w0 I W) => node_ofs ⟨#[81, 117, 97, 108, 105, 102, 105, 101, 114]⟩ s 0 hs hl h)
  obtain ⟨sa, sc, rfl, _, _, _⟩ := hs.lay
  have BB := Lib.hid (box_below w (.cells #[.string ⟨#[]⟩, .string ⟨#[]⟩, .int .i64 0, .slice none 0 0] 24))
  have RR := Lib.hid (show (w.alloc (.cells #[.string ⟨#[]⟩, .string ⟨#[]⟩, .int .i64 0, .slice none 0 0] 24)).heap[w.heap.size]? = some (.cells #[.string ⟨#[]⟩, .string ⟨#[]⟩, .int .i64 0, .slice none 0 0] 24 (0, 0)) from heap_alloc_new w _)
  have MM := Lib.hid (hM.on (box_below w (.cells #[.string ⟨#[]⟩, .string ⟨#[]⟩, .int .i64 0, .slice none 0 0] 24)))
  obtain ⟨w1, hw1⟩ : ∃ w1, w1 = w.alloc (.cells #[.string ⟨#[]⟩, .string ⟨#[]⟩, .int .i64 0, .slice none 0 0] 24) := ⟨_, rfl⟩
  clear hM
  have HC := Lib.hid (show ∀ W, MS w0 I W → W.heap[b]? = some (.cells #[.string s, .slice sa kv.length sc] 99 (0, 0)) from fun W h => (h.same b hI).trans hb)
  clear hb hI hs hl
  have tName := fun W => (show (Instr.typeAssert (.iface 97 (.pointer (some ⟨b, 0, none⟩))) 38 45 true).run Tryz.prog W = .ok (.tuple #[.pointer none, .bool false]) W from by kernel_rfl)
  have tBuiltinType := fun W => (show (Instr.typeAssert (.iface 97 (.pointer (some ⟨b, 0, none⟩))) 38 53 true).run Tryz.prog W = .ok (.tuple #[.pointer none, .bool false]) W from by kernel_rfl)
  have tOperator := fun W => (show (Instr.typeAssert (.iface 97 (.pointer (some ⟨b, 0, none⟩))) 38 55 true).run Tryz.prog W = .ok (.tuple #[.pointer none, .bool false]) W from by kernel_rfl)
  have tConstructor := fun W => (show (Instr.typeAssert (.iface 97 (.pointer (some ⟨b, 0, none⟩))) 38 59 true).run Tryz.prog W = .ok (.tuple #[.pointer none, .bool false]) W from by kernel_rfl)
  have tDestructor := fun W => (show (Instr.typeAssert (.iface 97 (.pointer (some ⟨b, 0, none⟩))) 38 63 true).run Tryz.prog W = .ok (.tuple #[.pointer none, .bool false]) W from by kernel_rfl)
  have tQualified := fun W => (show (Instr.typeAssert (.iface 97 (.pointer (some ⟨b, 0, none⟩))) 38 66 true).run Tryz.prog W = .ok (.tuple #[.pointer none, .bool false]) W from by kernel_rfl)
  have tTemplate := fun W => (show (Instr.typeAssert (.iface 97 (.pointer (some ⟨b, 0, none⟩))) 38 69 true).run Tryz.prog W = .ok (.tuple #[.pointer none, .bool false]) W from by kernel_rfl)
  have tTyped := fun W => (show (Instr.typeAssert (.iface 97 (.pointer (some ⟨b, 0, none⟩))) 38 74 true).run Tryz.prog W = .ok (.tuple #[.pointer none, .bool false]) W from by kernel_rfl)
  have tFunctionType := fun W => (show (Instr.typeAssert (.iface 97 (.pointer (some ⟨b, 0, none⟩))) 38 77 true).run Tryz.prog W = .ok (.tuple #[.pointer none, .bool false]) W from by kernel_rfl)
  have tPointerType := fun W => (show (Instr.typeAssert (.iface 97 (.pointer (some ⟨b, 0, none⟩))) 38 80 true).run Tryz.prog W = .ok (.tuple #[.pointer none, .bool false]) W from by kernel_rfl)
  have tReferenceType := fun W => (show (Instr.typeAssert (.iface 97 (.pointer (some ⟨b, 0, none⟩))) 38 83 true).run Tryz.prog W = .ok (.tuple #[.pointer none, .bool false]) W from by kernel_rfl)
  have tRvalueReferenceType := fun W => (show (Instr.typeAssert (.iface 97 (.pointer (some ⟨b, 0, none⟩))) 38 85 true).run Tryz.prog W = .ok (.tuple #[.pointer none, .bool false]) W from by kernel_rfl)
  have tComplexType := fun W => (show (Instr.typeAssert (.iface 97 (.pointer (some ⟨b, 0, none⟩))) 38 87 true).run Tryz.prog W = .ok (.tuple #[.pointer none, .bool false]) W from by kernel_rfl)
  have tImaginaryType := fun W => (show (Instr.typeAssert (.iface 97 (.pointer (some ⟨b, 0, none⟩))) 38 89 true).run Tryz.prog W = .ok (.tuple #[.pointer none, .bool false]) W from by kernel_rfl)
  have tTypeWithQualifiers := fun W => (show (Instr.typeAssert (.iface 97 (.pointer (some ⟨b, 0, none⟩))) 38 91 true).run Tryz.prog W = .ok (.tuple #[.pointer none, .bool false]) W from by kernel_rfl)
  have tQualifiers := fun W => (show (Instr.typeAssert (.iface 97 (.pointer (some ⟨b, 0, none⟩))) 38 94 true).run Tryz.prog W = .ok (.tuple #[.pointer none, .bool false]) W from by kernel_rfl)
  have tQualifier := fun W => (show (Instr.typeAssert (.iface 97 (.pointer (some ⟨b, 0, none⟩))) 38 97 true).run Tryz.prog W = .ok (.tuple #[.pointer (some ⟨b, 0, none⟩), .bool true]) W from by kernel_rfl)
  have HK := Lib.hid (fun W => kindOf_qualifier ⟨b, 0, none⟩ W)
  rw [← hw1] at BB RR MM
  have CE := Lib.hid (HC.out _ MM.out)
  go_enter Tryz.func28, Tryz.ntmps28
  go_wp2_with fail
  rw [← hw1]
  refine (HK.out _).mono ?_
  rintro e w2 ⟨rfl, rfl⟩
  clear hw1 HK
  obtain ⟨c0, c1⟩ := cells2 CE.out
  clear CE
  go_wp2_with fail
  have MD := Lib.hid (show MS w0 I (World.drew _) from ⟨MM.out.same, MM.out.lt⟩)
  have BD := Lib.hid (BB.out.drew)
  have RD := Lib.hid (show (World.drew _).heap[w.heap.size]? = _ from RR.out)
  go_region_with (first
    | (go_at_call 45; refine (HN.out _ MD.out).mono ?_; rintro e w3 ⟨⟨kv3, rfl, hr3⟩, b3⟩; obtain ⟨⟨⟨z0, z1, z2, z3⟩, fr⟩, ⟨ka, kn, kc, hkv⟩, X0⟩ := node_fin BD.out RD.out hr3 b3; subst hkv; have X := Lib.hid X0; clear hr3 b3 X0)
    )
  all_goals
    go_wp2_with fail
    (try simp only [Exit.inBlock, Exit.then])
    refine bodyPost_ret (by simp [results, Tryz.results28, go_sem, z0, z1, z2, z3]; try rfl) rfl ?_
    exact X.out _ _ _ _

set_option maxRecDepth 100000 in
set_option maxHeartbeats 4000000 in
theorem node_template {w0 : World} {I : Nat → Prop} (b : Nat) {a : Tree} {u : Value} {l : List Tree} {sv : Value} {kv : List Value} (hI : I b) (hb : w0.heap[b]? = some (.cells #[u, sv] 73 (0, 0))) (hu : MkOK w0 I a u) (fu : ∃ T p, u = .iface T p) (hs : SliceOf w0 I sv kv) (hl : MkL w0 I l kv) : MkOK w0 I (.node ⟨#[84, 101, 109, 112, 108, 97, 116, 101]⟩ ⟨#[]⟩ 0 (a :: l)) (.iface 69 (.pointer (some ⟨b, 0, none⟩))) := by
  intro w hM
  have HW := Lib.hid (fun W (h : MS w0 I W) => with_of (u := u) hs hl.max hl.one (.inr fu) h)
  have HN := Lib.hid (fun W (h : MS w0 I W) B sv' h2 => node_ofw (B := B) (sv := sv') ⟨#[84, 101, 109, 112, 108, 97, 116, 101]⟩ ⟨#[]⟩ 0 hu (by obtain ⟨T, p, rfl⟩ := fu; rfl) hl h h2)
  obtain ⟨Tu, pu, rfl⟩ := fu
  obtain ⟨sa, sc, rfl, _, _, _⟩ := hs.lay
  have BB := Lib.hid (box_below w (.cells #[.string ⟨#[]⟩, .string ⟨#[]⟩, .int .i64 0, .slice none 0 0] 24))
  have RR := Lib.hid (show (w.alloc (.cells #[.string ⟨#[]⟩, .string ⟨#[]⟩, .int .i64 0, .slice none 0 0] 24)).heap[w.heap.size]? = some (.cells #[.string ⟨#[]⟩, .string ⟨#[]⟩, .int .i64 0, .slice none 0 0] 24 (0, 0)) from heap_alloc_new w _)
  have MM := Lib.hid (hM.on (box_below w (.cells #[.string ⟨#[]⟩, .string ⟨#[]⟩, .int .i64 0, .slice none 0 0] 24)))
  obtain ⟨w1, hw1⟩ : ∃ w1, w1 = w.alloc (.cells #[.string ⟨#[]⟩, .string ⟨#[]⟩, .int .i64 0, .slice none 0 0] 24) := ⟨_, rfl⟩
  clear hM
  have HC := Lib.hid (show ∀ W, MS w0 I W → W.heap[b]? = some (.cells #[.iface Tu pu, .slice sa kv.length sc] 73 (0, 0)) from fun W h => (h.same b hI).trans hb)
  clear hb hI hu hs hl
  have tName := fun W => (show (Instr.typeAssert (.iface 69 (.pointer (some ⟨b, 0, none⟩))) 38 45 true).run Tryz.prog W = .ok (.tuple #[.pointer none, .bool false]) W from by kernel_rfl)
  have tBuiltinType := fun W => (show (Instr.typeAssert (.iface 69 (.pointer (some ⟨b, 0, none⟩))) 38 53 true).run Tryz.prog W = .ok (.tuple #[.pointer none, .bool false]) W from by kernel_rfl)
  have tOperator := fun W => (show (Instr.typeAssert (.iface 69 (.pointer (some ⟨b, 0, none⟩))) 38 55 true).run Tryz.prog W = .ok (.tuple #[.pointer none, .bool false]) W from by kernel_rfl)
  have tConstructor := fun W => (show (Instr.typeAssert (.iface 69 (.pointer (some ⟨b, 0, none⟩))) 38 59 true).run Tryz.prog W = .ok (.tuple #[.pointer none, .bool false]) W from by kernel_rfl)
  have tDestructor := fun W => (show (Instr.typeAssert (.iface 69 (.pointer (some ⟨b, 0, none⟩))) 38 63 true).run Tryz.prog W = .ok (.tuple #[.pointer none, .bool false]) W from by kernel_rfl)
  have tQualified := fun W => (show (Instr.typeAssert (.iface 69 (.pointer (some ⟨b, 0, none⟩))) 38 66 true).run Tryz.prog W = .ok (.tuple #[.pointer none, .bool false]) W from by kernel_rfl)
  have tTemplate := fun W => (show (Instr.typeAssert (.iface 69 (.pointer (some ⟨b, 0, none⟩))) 38 69 true).run Tryz.prog W = .ok (.tuple #[.pointer (some ⟨b, 0, none⟩), .bool true]) W from by kernel_rfl)
  have HK := Lib.hid (fun W => kindOf_template ⟨b, 0, none⟩ W)
  rw [← hw1] at BB RR MM
  have CE := Lib.hid (HC.out _ MM.out)
  go_enter Tryz.func28, Tryz.ntmps28
  go_wp2_with fail
  rw [← hw1]
  refine (HK.out _).mono ?_
  rintro e w2 ⟨rfl, rfl⟩
  clear hw1 HK
  obtain ⟨c0, c1⟩ := cells2 CE.out
  clear CE
  go_wp2_with fail
  have MD := Lib.hid (show MS w0 I (World.drew _) from ⟨MM.out.same, MM.out.lt⟩)
  have BD := Lib.hid (BB.out.drew)
  have RD := Lib.hid (show (World.drew _).heap[w.heap.size]? = _ from RR.out)
  go_region_with (first
    | (go_at_call 47; refine (HW.out _ MD.out).mono ?_; rintro e w2 ⟨⟨ra, rn, rc, rfl, h2⟩, b2⟩; have H2 := Lib.hid h2; have B2 := Lib.hid (BD.out.trans (b2.mono BD.out.size)); have R2 := Lib.hid (show w2.heap[w.heap.size]? = _ from (b2.block _ (lt_of_block RD.out)).trans RD.out); have M2 := Lib.hid (MD.out.on b2); clear h2 b2)
    | (go_at_call 45; refine (HN.out _ M2.out _ _ H2.out).mono ?_; rintro e w3 ⟨⟨kv3, rfl, hr3⟩, b3⟩; obtain ⟨⟨⟨z0, z1, z2, z3⟩, fr⟩, ⟨ka, kn, kc, hkv⟩, X0⟩ := node_fin B2.out R2.out hr3 b3; subst hkv; have X := Lib.hid X0; clear hr3 b3 X0)
    )
  all_goals
    go_wp2_with fail
    (try simp only [Exit.inBlock, Exit.then])
    refine bodyPost_ret (by simp [results, Tryz.results28, go_sem, z0, z1, z2, z3]; try rfl) rfl ?_
    exact X.out _ _ _ _

set_option maxRecDepth 100000 in
set_option maxHeartbeats 4000000 in
theorem more_closure {w0 : World} {I : Nat → Prop} (b : Nat) {n : Int} {ev : Value} {l : List Tree} {sv : Value} {kv : List Value} (hI : I b) (hb : w0.heap[b]? = some (.cells #[ev, .nilIface, sv, .int .i64 n, .nilIface] 138 (0, 0))) (hs : SliceOf w0 I sv kv) (hl : MkL w0 I l kv) : MoreOK w0 I ⟨#[67, 108, 111, 115, 117, 114, 101]⟩ (.node ⟨#[67, 108, 111, 115, 117, 114, 101]⟩ ⟨#[]⟩ n l) (.iface 136 (.pointer (some ⟨b, 0, none⟩))) := by
  intro w hM
  have HN := Lib.hid (fun W (h : MS w0 I W) => node_ofs ⟨#[67, 108, 111, 115, 117, 114, 101]⟩ ⟨#[]⟩ n hs hl h)
  obtain ⟨sa, sc, rfl, _, _, _⟩ := hs.lay
  have BB := Lib.hid (box_below w (.cells #[.string ⟨#[]⟩, .string ⟨#[]⟩, .int .i64 0, .slice none 0 0] 24))
  have RR := Lib.hid (show (w.alloc (.cells #[.string ⟨#[]⟩, .string ⟨#[]⟩, .int .i64 0, .slice none 0 0] 24)).heap[w.heap.size]? = some (.cells #[.string ⟨#[]⟩, .string ⟨#[]⟩, .int .i64 0, .slice none 0 0] 24 (0, 0)) from heap_alloc_new w _)
  have MM := Lib.hid (hM.on (box_below w (.cells #[.string ⟨#[]⟩, .string ⟨#[]⟩, .int .i64 0, .slice none 0 0] 24)))
  obtain ⟨w1, hw1⟩ : ∃ w1, w1 = w.alloc (.cells #[.string ⟨#[]⟩, .string ⟨#[]⟩, .int .i64 0, .slice none 0 0] 24) := ⟨_, rfl⟩
  clear hM
  have HC := Lib.hid (show ∀ W, MS w0 I W → W.heap[b]? = some (.cells #[ev, .nilIface, .slice sa kv.length sc, .int .i64 n, .nilIface] 138 (0, 0)) from fun W h => (h.same b hI).trans hb)
  clear hb hI hs hl
  have tArrayType := fun W => (show (Instr.typeAssert (.iface 136 (.pointer (some ⟨b, 0, none⟩))) 38 108 true).run Tryz.prog W = .ok (.tuple #[.pointer none, .bool false]) W from by kernel_rfl)
  have tVectorType := fun W => (show (Instr.typeAssert (.iface 136 (.pointer (some ⟨b, 0, none⟩))) 38 111 true).run Tryz.prog W = .ok (.tuple #[.pointer none, .bool false]) W from by kernel_rfl)
  have tPtrMem := fun W => (show (Instr.typeAssert (.iface 136 (.pointer (some ⟨b, 0, none⟩))) 38 114 true).run Tryz.prog W = .ok (.tuple #[.pointer none, .bool false]) W from by kernel_rfl)
  have tVendorQualifier := fun W => (show (Instr.typeAssert (.iface 136 (.pointer (some ⟨b, 0, none⟩))) 38 117 true).run Tryz.prog W = .ok (.tuple #[.pointer none, .bool false]) W from by kernel_rfl)
  have tSpecial := fun W => (show (Instr.typeAssert (.iface 136 (.pointer (some ⟨b, 0, none⟩))) 38 120 true).run Tryz.prog W = .ok (.tuple #[.pointer none, .bool false]) W from by kernel_rfl)
  have tSpecial2 := fun W => (show (Instr.typeAssert (.iface 136 (.pointer (some ⟨b, 0, none⟩))) 38 123 true).run Tryz.prog W = .ok (.tuple #[.pointer none, .bool false]) W from by kernel_rfl)
  have tLiteral := fun W => (show (Instr.typeAssert (.iface 136 (.pointer (some ⟨b, 0, none⟩))) 38 126 true).run Tryz.prog W = .ok (.tuple #[.pointer none, .bool false]) W from by kernel_rfl)
  have tArgumentPack := fun W => (show (Instr.typeAssert (.iface 136 (.pointer (some ⟨b, 0, none⟩))) 38 129 true).run Tryz.prog W = .ok (.tuple #[.pointer none, .bool false]) W from by kernel_rfl)
  have tPackExpansion := fun W => (show (Instr.typeAssert (.iface 136 (.pointer (some ⟨b, 0, none⟩))) 38 133 true).run Tryz.prog W = .ok (.tuple #[.pointer none, .bool false]) W from by kernel_rfl)
  have tClosure := fun W => (show (Instr.typeAssert (.iface 136 (.pointer (some ⟨b, 0, none⟩))) 38 136 true).run Tryz.prog W = .ok (.tuple #[.pointer (some ⟨b, 0, none⟩), .bool true]) W from by kernel_rfl)
  rw [← hw1] at BB RR MM
  have CE := Lib.hid (HC.out _ MM.out)
  go_enter Tryz.func48, Tryz.ntmps48
  go_upto_region 1 with fail
  rw [← hw1]
  clear hw1
  obtain ⟨c0, c1, c2, c3, c4⟩ := cells5 CE.out
  clear CE
  go_wp2_with fail
  have MD := Lib.hid (show MS w0 I (World.drew _) from ⟨MM.out.same, MM.out.lt⟩)
  have BD := Lib.hid (BB.out.drew)
  have RD := Lib.hid (show (World.drew _).heap[w.heap.size]? = _ from RR.out)
  go_region_with (first
    | (go_at_call 45; refine (HN.out _ MD.out).mono ?_; rintro e w3 ⟨⟨kv3, rfl, hr3⟩, b3⟩; obtain ⟨⟨⟨z0, z1, z2, z3⟩, fr⟩, ⟨ka, kn, kc, hkv⟩, X0⟩ := node_fin BD.out RD.out hr3 b3; subst hkv; have X := Lib.hid X0; clear hr3 b3 X0)
    )
  all_goals
    go_wp2_with fail
    (try simp only [Exit.inBlock, Exit.then])
    refine bodyPost_ret (by simp [results, Tryz.results48, go_sem, z0, z1, z2, z3]; try rfl) rfl ?_
    exact X.out _ _ _ _

set_option maxRecDepth 100000 in
set_option maxHeartbeats 4000000 in
theorem node_closure {w0 : World} {I : Nat → Prop} (b : Nat) {n : Int} {ev : Value} {l : List Tree} {sv : Value} {kv : List Value} (hI : I b) (hb : w0.heap[b]? = some (.cells #[ev, .nilIface, sv, .int .i64 n, .nilIface] 138 (0, 0))) (hs : SliceOf w0 I sv kv) (hl : MkL w0 I l kv) : MkOK w0 I (.node ⟨#[67, 108, 111, 115, 117, 114, 101]⟩ ⟨#[]⟩ n l) (.iface 136 (.pointer (some ⟨b, 0, none⟩))) := by
  intro w hM
  have BB := Lib.hid (box_below w (.cells #[.string ⟨#[]⟩, .string ⟨#[]⟩, .int .i64 0, .slice none 0 0] 24))
  have RR := Lib.hid (show (w.alloc (.cells #[.string ⟨#[]⟩, .string ⟨#[]⟩, .int .i64 0, .slice none 0 0] 24)).heap[w.heap.size]? = some (.cells #[.string ⟨#[]⟩, .string ⟨#[]⟩, .int .i64 0, .slice none 0 0] 24 (0, 0)) from heap_alloc_new w _)
  have MM := Lib.hid (hM.on (box_below w (.cells #[.string ⟨#[]⟩, .string ⟨#[]⟩, .int .i64 0, .slice none 0 0] 24)))
  obtain ⟨w1, hw1⟩ : ∃ w1, w1 = w.alloc (.cells #[.string ⟨#[]⟩, .string ⟨#[]⟩, .int .i64 0, .slice none 0 0] 24) := ⟨_, rfl⟩
  clear hM
  have HM := Lib.hid (more_closure b hI hb hs hl)
  have HK := Lib.hid (fun W => kindOf_closure ⟨b, 0, none⟩ W)
  clear hb hI hs hl
  have tName := fun W => (show (Instr.typeAssert (.iface 136 (.pointer (some ⟨b, 0, none⟩))) 38 45 true).run Tryz.prog W = .ok (.tuple #[.pointer none, .bool false]) W from by kernel_rfl)
  have tBuiltinType := fun W => (show (Instr.typeAssert (.iface 136 (.pointer (some ⟨b, 0, none⟩))) 38 53 true).run Tryz.prog W = .ok (.tuple #[.pointer none, .bool false]) W from by kernel_rfl)
  have tOperator := fun W => (show (Instr.typeAssert (.iface 136 (.pointer (some ⟨b, 0, none⟩))) 38 55 true).run Tryz.prog W = .ok (.tuple #[.pointer none, .bool false]) W from by kernel_rfl)
  have tConstructor := fun W => (show (Instr.typeAssert (.iface 136 (.pointer (some ⟨b, 0, none⟩))) 38 59 true).run Tryz.prog W = .ok (.tuple #[.pointer none, .bool false]) W from by kernel_rfl)
  have tDestructor := fun W => (show (Instr.typeAssert (.iface 136 (.pointer (some ⟨b, 0, none⟩))) 38 63 true).run Tryz.prog W = .ok (.tuple #[.pointer none, .bool false]) W from by kernel_rfl)
  have tQualified := fun W => (show (Instr.typeAssert (.iface 136 (.pointer (some ⟨b, 0, none⟩))) 38 66 true).run Tryz.prog W = .ok (.tuple #[.pointer none, .bool false]) W from by kernel_rfl)
  have tTemplate := fun W => (show (Instr.typeAssert (.iface 136 (.pointer (some ⟨b, 0, none⟩))) 38 69 true).run Tryz.prog W = .ok (.tuple #[.pointer none, .bool false]) W from by kernel_rfl)
  have tTyped := fun W => (show (Instr.typeAssert (.iface 136 (.pointer (some ⟨b, 0, none⟩))) 38 74 true).run Tryz.prog W = .ok (.tuple #[.pointer none, .bool false]) W from by kernel_rfl)
  have tFunctionType := fun W => (show (Instr.typeAssert (.iface 136 (.pointer (some ⟨b, 0, none⟩))) 38 77 true).run Tryz.prog W = .ok (.tuple #[.pointer none, .bool false]) W from by kernel_rfl)
  have tPointerType := fun W => (show (Instr.typeAssert (.iface 136 (.pointer (some ⟨b, 0, none⟩))) 38 80 true).run Tryz.prog W = .ok (.tuple #[.pointer none, .bool false]) W from by kernel_rfl)
  have tReferenceType := fun W => (show (Instr.typeAssert (.iface 136 (.pointer (some ⟨b, 0, none⟩))) 38 83 true).run Tryz.prog W = .ok (.tuple #[.pointer none, .bool false]) W from by kernel_rfl)
  have tRvalueReferenceType := fun W => (show (Instr.typeAssert (.iface 136 (.pointer (some ⟨b, 0, none⟩))) 38 85 true).run Tryz.prog W = .ok (.tuple #[.pointer none, .bool false]) W from by kernel_rfl)
  have tComplexType := fun W => (show (Instr.typeAssert (.iface 136 (.pointer (some ⟨b, 0, none⟩))) 38 87 true).run Tryz.prog W = .ok (.tuple #[.pointer none, .bool false]) W from by kernel_rfl)
  have tImaginaryType := fun W => (show (Instr.typeAssert (.iface 136 (.pointer (some ⟨b, 0, none⟩))) 38 89 true).run Tryz.prog W = .ok (.tuple #[.pointer none, .bool false]) W from by kernel_rfl)
  have tTypeWithQualifiers := fun W => (show (Instr.typeAssert (.iface 136 (.pointer (some ⟨b, 0, none⟩))) 38 91 true).run Tryz.prog W = .ok (.tuple #[.pointer none, .bool false]) W from by kernel_rfl)
  have tQualifiers := fun W => (show (Instr.typeAssert (.iface 136 (.pointer (some ⟨b, 0, none⟩))) 38 94 true).run Tryz.prog W = .ok (.tuple #[.pointer none, .bool false]) W from by kernel_rfl)
  have tQualifier := fun W => (show (Instr.typeAssert (.iface 136 (.pointer (some ⟨b, 0, none⟩))) 38 97 true).run Tryz.prog W = .ok (.tuple #[.pointer none, .bool false]) W from by kernel_rfl)
  have tMethodWithQualifiers := fun W => (show (Instr.typeAssert (.iface 136 (.pointer (some ⟨b, 0, none⟩))) 38 100 true).run Tryz.prog W = .ok (.tuple #[.pointer none, .bool false]) W from by kernel_rfl)
  go_enter Tryz.func28, Tryz.ntmps28
  go_wp2_with fail
  rw [← hw1] at BB RR MM ⊢
  refine (HK.out _).mono ?_
  rintro e w2 ⟨rfl, rfl⟩
  clear hw1 HK
  go_wp2_with fail
  refine (HM.out _ MM.out).mono ?_
  rintro e w3 ⟨⟨kv3, rfl, hr3⟩, b3⟩
  obtain ⟨⟨⟨z0, z1, z2, z3⟩, fr⟩, ⟨ka, kn, kc, hkv⟩, X0⟩ := node_fin BB.out RR.out hr3 b3
  subst hkv
  have X := Lib.hid X0
  clear hr3 b3 X0
  go_wp2_with fail
  (try simp only [Exit.inBlock, Exit.then])
  refine bodyPost_ret (by simp [results, Tryz.results28, go_sem, z0, z1, z2, z3]; try rfl) rfl ?_
  exact X.out _ _ _ _

end Go.Proofs.YtnhccgbkalpcnaaGreatDoor

namespace Go.Proofs.YtnhccgbkalpcnaaGreatDoor
open Go.RowKit

set_option maxRecDepth 100000 in
set_option maxHeartbeats 4000000 in
theorem node_typed {w0 : World} {I : Nat → Prop} (b : Nat) {a : Tree} {u : Value} {c : Tree} {y : Value} (hI : I b) (hb : w0.heap[b]? = some (.cells #[u, y] 76 (0, 0))) (hu : MkOK w0 I a u) (fu : ∃ T p, u = .iface T p) (hy : MkOK w0 I c y) (fy : ∃ T p, y = .iface T p) : MkOK w0 I (.node ⟨#[84, 121, 112, 101, 100]⟩ ⟨#[]⟩ 0 [a, c]) (.iface 74 (.pointer (some ⟨b, 0, none⟩))) := by
  intro w hM
  have HN := Lib.hid (fun W (h : MS w0 I W) => node_of2 ⟨#[84, 121, 112, 101, 100]⟩ ⟨#[]⟩ 0 hu hy (by obtain ⟨T, p, rfl⟩ := fu; rfl) (by obtain ⟨T, p, rfl⟩ := fy; rfl) h)
  have HB2 := Lib.hid (fun W (h : Below w.heap.size w W) (r : W.heap[w.heap.size]? = some (.cells #[.string ⟨#[]⟩, .string ⟨#[]⟩, .int .i64 0, .slice none 0 0] 24 (0, 0))) => And.intro (h.trans ((box_below W (.cells #[u, y] 38)).mono h.size)) (show (W.alloc (.cells #[u, y] 38)).heap[w.heap.size]? = _ from (Below.heap_alloc _ _ _ (lt_of_block r)).trans r))
  obtain ⟨Tu, pu, rfl⟩ := fu
  obtain ⟨Ty, py, rfl⟩ := fy
  have BB := Lib.hid (box_below w (.cells #[.string ⟨#[]⟩, .string ⟨#[]⟩, .int .i64 0, .slice none 0 0] 24))
  have RR := Lib.hid (show (w.alloc (.cells #[.string ⟨#[]⟩, .string ⟨#[]⟩, .int .i64 0, .slice none 0 0] 24)).heap[w.heap.size]? = some (.cells #[.string ⟨#[]⟩, .string ⟨#[]⟩, .int .i64 0, .slice none 0 0] 24 (0, 0)) from heap_alloc_new w _)
  have MM := Lib.hid (hM.on (box_below w (.cells #[.string ⟨#[]⟩, .string ⟨#[]⟩, .int .i64 0, .slice none 0 0] 24)))
  obtain ⟨w1, hw1⟩ : ∃ w1, w1 = w.alloc (.cells #[.string ⟨#[]⟩, .string ⟨#[]⟩, .int .i64 0, .slice none 0 0] 24) := ⟨_, rfl⟩
  clear hM
  have HC := Lib.hid (show ∀ W, MS w0 I W → W.heap[b]? = some (.cells #[.iface Tu pu, .iface Ty py] 76 (0, 0)) from fun W h => (h.same b hI).trans hb)
  clear hb hI hu hy
  have tName := fun W => (show (Instr.typeAssert (.iface 74 (.pointer (some ⟨b, 0, none⟩))) 38 45 true).run Tryz.prog W = .ok (.tuple #[.pointer none, .bool false]) W from by kernel_rfl)
  have tBuiltinType := fun W => (show (Instr.typeAssert (.iface 74 (.pointer (some ⟨b, 0, none⟩))) 38 53 true).run Tryz.prog W = .ok (.tuple #[.pointer none, .bool false]) W from by kernel_rfl)
  have tOperator := fun W => (show (Instr.typeAssert (.iface 74 (.pointer (some ⟨b, 0, none⟩))) 38 55 true).run Tryz.prog W = .ok (.tuple #[.pointer none, .bool false]) W from by kernel_rfl)
  have tConstructor := fun W => (show (Instr.typeAssert (.iface 74 (.pointer (some ⟨b, 0, none⟩))) 38 59 true).run Tryz.prog W = .ok (.tuple #[.pointer none, .bool false]) W from by kernel_rfl)
  have tDestructor := fun W => (show (Instr.typeAssert (.iface 74 (.pointer (some ⟨b, 0, none⟩))) 38 63 true).run Tryz.prog W = .ok (.tuple #[.pointer none, .bool false]) W from by kernel_rfl)
  have tQualified := fun W => (show (Instr.typeAssert (.iface 74 (.pointer (some ⟨b, 0, none⟩))) 38 66 true).run Tryz.prog W = .ok (.tuple #[.pointer none, .bool false]) W from by kernel_rfl)
  have tTemplate := fun W => (show (Instr.typeAssert (.iface 74 (.pointer (some ⟨b, 0, none⟩))) 38 69 true).run Tryz.prog W = .ok (.tuple #[.pointer none, .bool false]) W from by kernel_rfl)
  have tTyped := fun W => (show (Instr.typeAssert (.iface 74 (.pointer (some ⟨b, 0, none⟩))) 38 74 true).run Tryz.prog W = .ok (.tuple #[.pointer (some ⟨b, 0, none⟩), .bool true]) W from by kernel_rfl)
  have HK := Lib.hid (fun W => kindOf_typed ⟨b, 0, none⟩ W)
  rw [← hw1] at BB RR MM
  have CE := Lib.hid (HC.out _ MM.out)
  go_enter Tryz.func28, Tryz.ntmps28
  go_wp2_with fail
  rw [← hw1]
  refine (HK.out _).mono ?_
  rintro e w2 ⟨rfl, rfl⟩
  clear hw1 HK
  obtain ⟨c0, c1⟩ := cells2 CE.out
  clear CE
  go_wp2_with fail
  have MD := Lib.hid (show MS w0 I (World.drew _) from ⟨MM.out.same, MM.out.lt⟩)
  have BD := Lib.hid (BB.out.drew)
  have RD := Lib.hid (show (World.drew _).heap[w.heap.size]? = _ from RR.out)
  obtain ⟨d0, d1⟩ := cells2 (HC.out _ (MM.out.on (box_below _ (.cells #[.iface Tu pu, .iface Ty py] 38))))
  go_region_with (first
    | (go_at_call 45; refine (HN.out _ MD.out).mono ?_; rintro e w3 ⟨⟨kv3, rfl, hr3⟩, b3⟩; obtain ⟨⟨⟨z0, z1, z2, z3⟩, fr⟩, ⟨ka, kn, kc, hkv⟩, X0⟩ := node_fin (HB2.out _ BD.out RD.out).1 (HB2.out _ BD.out RD.out).2 hr3 b3; subst hkv; have X := Lib.hid X0; clear hr3 b3 X0)
    )
  all_goals
    go_wp2_with fail
    (try simp only [Exit.inBlock, Exit.then])
    refine bodyPost_ret (by simp [results, Tryz.results28, go_sem, z0, z1, z2, z3]; try rfl) rfl ?_
    exact X.out _ _ _ _

set_option maxRecDepth 100000 in
set_option maxHeartbeats 4000000 in
theorem node_typeWithQualifiers {w0 : World} {I : Nat → Prop} (b : Nat) {a : Tree} {u : Value} {q : Tree} {y : Value} (hI : I b) (hb : w0.heap[b]? = some (.cells #[u, y] 93 (0, 0))) (hu : MkOK w0 I a u) (fu : ∃ T p, u = .iface T p) (hy : MkOK w0 I q y) (fy : ∃ T p, y = .iface T p) : MkOK w0 I (.node ⟨#[84, 121, 112, 101, 87, 105, 116, 104, 81, 117, 97, 108, 105, 102, 105, 101, 114, 115]⟩ ⟨#[]⟩ 0 [a, q]) (.iface 91 (.pointer (some ⟨b, 0, none⟩))) := by
  intro w hM
  have HN := Lib.hid (fun W (h : MS w0 I W) => node_of2 ⟨#[84, 121, 112, 101, 87, 105, 116, 104, 81, 117, 97, 108, 105, 102, 105, 101, 114, 115]⟩ ⟨#[]⟩ 0 hu hy (by obtain ⟨T, p, rfl⟩ := fu; rfl) (by obtain ⟨T, p, rfl⟩ := fy; rfl) h)
  have HB2 := Lib.hid (fun W (h : Below w.heap.size w W) (r : W.heap[w.heap.size]? = some (.cells #[.string ⟨#[]⟩, .string ⟨#[]⟩, .int .i64 0, .slice none 0 0] 24 (0, 0))) => And.intro (h.trans ((box_below W (.cells #[u, y] 38)).mono h.size)) (show (W.alloc (.cells #[u, y] 38)).heap[w.heap.size]? = _ from (Below.heap_alloc _ _ _ (lt_of_block r)).trans r))
  obtain ⟨Tu, pu, rfl⟩ := fu
  obtain ⟨Ty, py, rfl⟩ := fy
  have BB := Lib.hid (box_below w (.cells #[.string ⟨#[]⟩, .string ⟨#[]⟩, .int .i64 0, .slice none 0 0] 24))
  have RR := Lib.hid (show (w.alloc (.cells #[.string ⟨#[]⟩, .string ⟨#[]⟩, .int .i64 0, .slice none 0 0] 24)).heap[w.heap.size]? = some (.cells #[.string ⟨#[]⟩, .string ⟨#[]⟩, .int .i64 0, .slice none 0 0] 24 (0, 0)) from heap_alloc_new w _)
  have MM := Lib.hid (hM.on (box_below w (.cells #[.string ⟨#[]⟩, .string ⟨#[]⟩, .int .i64 0, .slice none 0 0] 24)))
  obtain ⟨w1, hw1⟩ : ∃ w1, w1 = w.alloc (.cells #[.string ⟨#[]⟩, .string ⟨#[]⟩, .int .i64 0, .slice none 0 0] 24) := ⟨_, rfl⟩
  clear hM
  have HC := Lib.hid (show ∀ W, MS w0 I W → W.heap[b]? = some (.cells #[.iface Tu pu, .iface Ty py] 93 (0, 0)) from fun W h => (h.same b hI).trans hb)
  clear hb hI hu hy
  have tName := fun W => (show (Instr.typeAssert (.iface 91 (.pointer (some ⟨b, 0, none⟩))) 38 45 true).run Tryz.prog W = .ok (.tuple #[.pointer none, .bool false]) W from by kernel_rfl)
  have tBuiltinType := fun W => (show (Instr.typeAssert (.iface 91 (.pointer (some ⟨b, 0, none⟩))) 38 53 true).run Tryz.prog W = .ok (.tuple #[.pointer none, .bool false]) W from by kernel_rfl)
  have tOperator := fun W => (show (Instr.typeAssert (.iface 91 (.pointer (some ⟨b, 0, none⟩))) 38 55 true).run Tryz.prog W = .ok (.tuple #[.pointer none, .bool false]) W from by kernel_rfl)
  have tConstructor := fun W => (show (Instr.typeAssert (.iface 91 (.pointer (some ⟨b, 0, none⟩))) 38 59 true).run Tryz.prog W = .ok (.tuple #[.pointer none, .bool false]) W from by kernel_rfl)
  have tDestructor := fun W => (show (Instr.typeAssert (.iface 91 (.pointer (some ⟨b, 0, none⟩))) 38 63 true).run Tryz.prog W = .ok (.tuple #[.pointer none, .bool false]) W from by kernel_rfl)
  have tQualified := fun W => (show (Instr.typeAssert (.iface 91 (.pointer (some ⟨b, 0, none⟩))) 38 66 true).run Tryz.prog W = .ok (.tuple #[.pointer none, .bool false]) W from by kernel_rfl)
  have tTemplate := fun W => (show (Instr.typeAssert (.iface 91 (.pointer (some ⟨b, 0, none⟩))) 38 69 true).run Tryz.prog W = .ok (.tuple #[.pointer none, .bool false]) W from by kernel_rfl)
  have tTyped := fun W => (show (Instr.typeAssert (.iface 91 (.pointer (some ⟨b, 0, none⟩))) 38 74 true).run Tryz.prog W = .ok (.tuple #[.pointer none, .bool false]) W from by kernel_rfl)
  have tFunctionType := fun W => (show (Instr.typeAssert (.iface 91 (.pointer (some ⟨b, 0, none⟩))) 38 77 true).run Tryz.prog W = .ok (.tuple #[.pointer none, .bool false]) W from by kernel_rfl)
  have tPointerType := fun W => (show (Instr.typeAssert (.iface 91 (.pointer (some ⟨b, 0, none⟩))) 38 80 true).run Tryz.prog W = .ok (.tuple #[.pointer none, .bool false]) W from by kernel_rfl)
  have tReferenceType := fun W => (show (Instr.typeAssert (.iface 91 (.pointer (some ⟨b, 0, none⟩))) 38 83 true).run Tryz.prog W = .ok (.tuple #[.pointer none, .bool false]) W from by kernel_rfl)
  have tRvalueReferenceType := fun W => (show (Instr.typeAssert (.iface 91 (.pointer (some ⟨b, 0, none⟩))) 38 85 true).run Tryz.prog W = .ok (.tuple #[.pointer none, .bool false]) W from by kernel_rfl)
  have tComplexType := fun W => (show (Instr.typeAssert (.iface 91 (.pointer (some ⟨b, 0, none⟩))) 38 87 true).run Tryz.prog W = .ok (.tuple #[.pointer none, .bool false]) W from by kernel_rfl)
  have tImaginaryType := fun W => (show (Instr.typeAssert (.iface 91 (.pointer (some ⟨b, 0, none⟩))) 38 89 true).run Tryz.prog W = .ok (.tuple #[.pointer none, .bool false]) W from by kernel_rfl)
  have tTypeWithQualifiers := fun W => (show (Instr.typeAssert (.iface 91 (.pointer (some ⟨b, 0, none⟩))) 38 91 true).run Tryz.prog W = .ok (.tuple #[.pointer (some ⟨b, 0, none⟩), .bool true]) W from by kernel_rfl)
  have HK := Lib.hid (fun W => kindOf_typeWithQualifiers ⟨b, 0, none⟩ W)
  rw [← hw1] at BB RR MM
  have CE := Lib.hid (HC.out _ MM.out)
  go_enter Tryz.func28, Tryz.ntmps28
  go_wp2_with fail
  rw [← hw1]
  refine (HK.out _).mono ?_
  rintro e w2 ⟨rfl, rfl⟩
  clear hw1 HK
  obtain ⟨c0, c1⟩ := cells2 CE.out
  clear CE
  go_wp2_with fail
  have MD := Lib.hid (show MS w0 I (World.drew _) from ⟨MM.out.same, MM.out.lt⟩)
  have BD := Lib.hid (BB.out.drew)
  have RD := Lib.hid (show (World.drew _).heap[w.heap.size]? = _ from RR.out)
  obtain ⟨d0, d1⟩ := cells2 (HC.out _ (MM.out.on (box_below _ (.cells #[.iface Tu pu, .iface Ty py] 38))))
  go_region_with (first
    | (go_at_call 45; refine (HN.out _ MD.out).mono ?_; rintro e w3 ⟨⟨kv3, rfl, hr3⟩, b3⟩; obtain ⟨⟨⟨z0, z1, z2, z3⟩, fr⟩, ⟨ka, kn, kc, hkv⟩, X0⟩ := node_fin (HB2.out _ BD.out RD.out).1 (HB2.out _ BD.out RD.out).2 hr3 b3; subst hkv; have X := Lib.hid X0; clear hr3 b3 X0)
    )
  all_goals
    go_wp2_with fail
    (try simp only [Exit.inBlock, Exit.then])
    refine bodyPost_ret (by simp [results, Tryz.results28, go_sem, z0, z1, z2, z3]; try rfl) rfl ?_
    exact X.out _ _ _ _

set_option maxRecDepth 100000 in
set_option maxHeartbeats 4000000 in
theorem more_arrayType {w0 : World} {I : Nat → Prop} (b : Nat) {a : Tree} {u : Value} {c : Tree} {y : Value} (hI : I b) (hb : w0.heap[b]? = some (.cells #[u, y] 110 (0, 0))) (hu : MkOK w0 I a u) (fu : ∃ T p, u = .iface T p) (hy : MkOK w0 I c y) (fy : ∃ T p, y = .iface T p) : MoreOK w0 I ⟨#[65, 114, 114, 97, 121, 84, 121, 112, 101]⟩ (.node ⟨#[65, 114, 114, 97, 121, 84, 121, 112, 101]⟩ ⟨#[]⟩ 0 [a, c]) (.iface 108 (.pointer (some ⟨b, 0, none⟩))) := by
  intro w hM
  have HN := Lib.hid (fun W (h : MS w0 I W) => node_of2 ⟨#[65, 114, 114, 97, 121, 84, 121, 112, 101]⟩ ⟨#[]⟩ 0 hu hy (by obtain ⟨T, p, rfl⟩ := fu; rfl) (by obtain ⟨T, p, rfl⟩ := fy; rfl) h)
  have HB2 := Lib.hid (fun W (h : Below w.heap.size w W) (r : W.heap[w.heap.size]? = some (.cells #[.string ⟨#[]⟩, .string ⟨#[]⟩, .int .i64 0, .slice none 0 0] 24 (0, 0))) => And.intro (h.trans ((box_below W (.cells #[u, y] 38)).mono h.size)) (show (W.alloc (.cells #[u, y] 38)).heap[w.heap.size]? = _ from (Below.heap_alloc _ _ _ (lt_of_block r)).trans r))
  obtain ⟨Tu, pu, rfl⟩ := fu
  obtain ⟨Ty, py, rfl⟩ := fy
  have BB := Lib.hid (box_below w (.cells #[.string ⟨#[]⟩, .string ⟨#[]⟩, .int .i64 0, .slice none 0 0] 24))
  have RR := Lib.hid (show (w.alloc (.cells #[.string ⟨#[]⟩, .string ⟨#[]⟩, .int .i64 0, .slice none 0 0] 24)).heap[w.heap.size]? = some (.cells #[.string ⟨#[]⟩, .string ⟨#[]⟩, .int .i64 0, .slice none 0 0] 24 (0, 0)) from heap_alloc_new w _)
  have MM := Lib.hid (hM.on (box_below w (.cells #[.string ⟨#[]⟩, .string ⟨#[]⟩, .int .i64 0, .slice none 0 0] 24)))
  obtain ⟨w1, hw1⟩ : ∃ w1, w1 = w.alloc (.cells #[.string ⟨#[]⟩, .string ⟨#[]⟩, .int .i64 0, .slice none 0 0] 24) := ⟨_, rfl⟩
  clear hM
  have HC := Lib.hid (show ∀ W, MS w0 I W → W.heap[b]? = some (.cells #[.iface Tu pu, .iface Ty py] 110 (0, 0)) from fun W h => (h.same b hI).trans hb)
  clear hb hI hu hy
  have tArrayType := fun W => (show (Instr.typeAssert (.iface 108 (.pointer (some ⟨b, 0, none⟩))) 38 108 true).run Tryz.prog W = .ok (.tuple #[.pointer (some ⟨b, 0, none⟩), .bool true]) W from by kernel_rfl)
  rw [← hw1] at BB RR MM
  have CE := Lib.hid (HC.out _ MM.out)
  go_enter Tryz.func48, Tryz.ntmps48
  go_upto_region 1 with fail
  rw [← hw1]
  clear hw1
  obtain ⟨c0, c1⟩ := cells2 CE.out
  clear CE
  go_wp2_with fail
  have MD := Lib.hid (show MS w0 I (World.drew _) from ⟨MM.out.same, MM.out.lt⟩)
  have BD := Lib.hid (BB.out.drew)
  have RD := Lib.hid (show (World.drew _).heap[w.heap.size]? = _ from RR.out)
  obtain ⟨d0, d1⟩ := cells2 (HC.out _ (MM.out.on (box_below _ (.cells #[.iface Tu pu, .iface Ty py] 38))))
  go_region_with (first
    | (go_at_call 45; refine (HN.out _ MD.out).mono ?_; rintro e w3 ⟨⟨kv3, rfl, hr3⟩, b3⟩; obtain ⟨⟨⟨z0, z1, z2, z3⟩, fr⟩, ⟨ka, kn, kc, hkv⟩, X0⟩ := node_fin (HB2.out _ BD.out RD.out).1 (HB2.out _ BD.out RD.out).2 hr3 b3; subst hkv; have X := Lib.hid X0; clear hr3 b3 X0)
    )
  all_goals
    go_wp2_with fail
    (try simp only [Exit.inBlock, Exit.then])
    refine bodyPost_ret (by simp [results, Tryz.results48, go_sem, z0, z1, z2, z3]; try rfl) rfl ?_
    exact X.out _ _ _ _

set_option maxRecDepth 100000 in
set_option maxHeartbeats 4000000 in
theorem node_arrayType {w0 : World} {I : Nat → Prop} (b : Nat) {a : Tree} {u : Value} {c : Tree} {y : Value} (hI : I b) (hb : w0.heap[b]? = some (.cells #[u, y] 110 (0, 0))) (hu : MkOK w0 I a u) (fu : ∃ T p, u = .iface T p) (hy : MkOK w0 I c y) (fy : ∃ T p, y = .iface T p) : MkOK w0 I (.node ⟨#[65, 114, 114, 97, 121, 84, 121, 112, 101]⟩ ⟨#[]⟩ 0 [a, c]) (.iface 108 (.pointer (some ⟨b, 0, none⟩))) := by
  intro w hM
  have BB := Lib.hid (box_below w (.cells #[.string ⟨#[]⟩, .string ⟨#[]⟩, .int .i64 0, .slice none 0 0] 24))
  have RR := Lib.hid (show (w.alloc (.cells #[.string ⟨#[]⟩, .string ⟨#[]⟩, .int .i64 0, .slice none 0 0] 24)).heap[w.heap.size]? = some (.cells #[.string ⟨#[]⟩, .string ⟨#[]⟩, .int .i64 0, .slice none 0 0] 24 (0, 0)) from heap_alloc_new w _)
  have MM := Lib.hid (hM.on (box_below w (.cells #[.string ⟨#[]⟩, .string ⟨#[]⟩, .int .i64 0, .slice none 0 0] 24)))
  obtain ⟨w1, hw1⟩ : ∃ w1, w1 = w.alloc (.cells #[.string ⟨#[]⟩, .string ⟨#[]⟩, .int .i64 0, .slice none 0 0] 24) := ⟨_, rfl⟩
  clear hM
  have HM := Lib.hid (more_arrayType b hI hb hu fu hy fy)
  have HK := Lib.hid (fun W => kindOf_arrayType ⟨b, 0, none⟩ W)
  clear hb hI hu hy
  have tName := fun W => (show (Instr.typeAssert (.iface 108 (.pointer (some ⟨b, 0, none⟩))) 38 45 true).run Tryz.prog W = .ok (.tuple #[.pointer none, .bool false]) W from by kernel_rfl)
  have tBuiltinType := fun W => (show (Instr.typeAssert (.iface 108 (.pointer (some ⟨b, 0, none⟩))) 38 53 true).run Tryz.prog W = .ok (.tuple #[.pointer none, .bool false]) W from by kernel_rfl)
  have tOperator := fun W => (show (Instr.typeAssert (.iface 108 (.pointer (some ⟨b, 0, none⟩))) 38 55 true).run Tryz.prog W = .ok (.tuple #[.pointer none, .bool false]) W from by kernel_rfl)
  have tConstructor := fun W => (show (Instr.typeAssert (.iface 108 (.pointer (some ⟨b, 0, none⟩))) 38 59 true).run Tryz.prog W = .ok (.tuple #[.pointer none, .bool false]) W from by kernel_rfl)
  have tDestructor := fun W => (show (Instr.typeAssert (.iface 108 (.pointer (some ⟨b, 0, none⟩))) 38 63 true).run Tryz.prog W = .ok (.tuple #[.pointer none, .bool false]) W from by kernel_rfl)
  have tQualified := fun W => (show (Instr.typeAssert (.iface 108 (.pointer (some ⟨b, 0, none⟩))) 38 66 true).run Tryz.prog W = .ok (.tuple #[.pointer none, .bool false]) W from by kernel_rfl)
  have tTemplate := fun W => (show (Instr.typeAssert (.iface 108 (.pointer (some ⟨b, 0, none⟩))) 38 69 true).run Tryz.prog W = .ok (.tuple #[.pointer none, .bool false]) W from by kernel_rfl)
  have tTyped := fun W => (show (Instr.typeAssert (.iface 108 (.pointer (some ⟨b, 0, none⟩))) 38 74 true).run Tryz.prog W = .ok (.tuple #[.pointer none, .bool false]) W from by kernel_rfl)
  have tFunctionType := fun W => (show (Instr.typeAssert (.iface 108 (.pointer (some ⟨b, 0, none⟩))) 38 77 true).run Tryz.prog W = .ok (.tuple #[.pointer none, .bool false]) W from by kernel_rfl)
  have tPointerType := fun W => (show (Instr.typeAssert (.iface 108 (.pointer (some ⟨b, 0, none⟩))) 38 80 true).run Tryz.prog W = .ok (.tuple #[.pointer none, .bool false]) W from by kernel_rfl)
  have tReferenceType := fun W => (show (Instr.typeAssert (.iface 108 (.pointer (some ⟨b, 0, none⟩))) 38 83 true).run Tryz.prog W = .ok (.tuple #[.pointer none, .bool false]) W from by kernel_rfl)
  have tRvalueReferenceType := fun W => (show (Instr.typeAssert (.iface 108 (.pointer (some ⟨b, 0, none⟩))) 38 85 true).run Tryz.prog W = .ok (.tuple #[.pointer none, .bool false]) W from by kernel_rfl)
  have tComplexType := fun W => (show (Instr.typeAssert (.iface 108 (.pointer (some ⟨b, 0, none⟩))) 38 87 true).run Tryz.prog W = .ok (.tuple #[.pointer none, .bool false]) W from by kernel_rfl)
  have tImaginaryType := fun W => (show (Instr.typeAssert (.iface 108 (.pointer (some ⟨b, 0, none⟩))) 38 89 true).run Tryz.prog W = .ok (.tuple #[.pointer none, .bool false]) W from by kernel_rfl)
  have tTypeWithQualifiers := fun W => (show (Instr.typeAssert (.iface 108 (.pointer (some ⟨b, 0, none⟩))) 38 91 true).run Tryz.prog W = .ok (.tuple #[.pointer none, .bool false]) W from by kernel_rfl)
  have tQualifiers := fun W => (show (Instr.typeAssert (.iface 108 (.pointer (some ⟨b, 0, none⟩))) 38 94 true).run Tryz.prog W = .ok (.tuple #[.pointer none, .bool false]) W from by kernel_rfl)
  have tQualifier := fun W => (show (Instr.typeAssert (.iface 108 (.pointer (some ⟨b, 0, none⟩))) 38 97 true).run Tryz.prog W = .ok (.tuple #[.pointer none, .bool false]) W from by kernel_rfl)
  have tMethodWithQualifiers := fun W => (show (Instr.typeAssert (.iface 108 (.pointer (some ⟨b, 0, none⟩))) 38 100 true).run Tryz.prog W = .ok (.tuple #[.pointer none, .bool false]) W from by kernel_rfl)
  go_enter Tryz.func28, Tryz.ntmps28
  go_wp2_with fail
  rw [← hw1] at BB RR MM ⊢
  refine (HK.out _).mono ?_
  rintro e w2 ⟨rfl, rfl⟩
  clear hw1 HK
  go_wp2_with fail
  refine (HM.out _ MM.out).mono ?_
  rintro e w3 ⟨⟨kv3, rfl, hr3⟩, b3⟩
  obtain ⟨⟨⟨z0, z1, z2, z3⟩, fr⟩, ⟨ka, kn, kc, hkv⟩, X0⟩ := node_fin BB.out RR.out hr3 b3
  subst hkv
  have X := Lib.hid X0
  clear hr3 b3 X0
  go_wp2_with fail
  (try simp only [Exit.inBlock, Exit.then])
  refine bodyPost_ret (by simp [results, Tryz.results28, go_sem, z0, z1, z2, z3]; try rfl) rfl ?_
  exact X.out _ _ _ _

set_option maxRecDepth 100000 in
set_option maxHeartbeats 4000000 in
theorem more_vectorType {w0 : World} {I : Nat → Prop} (b : Nat) {a : Tree} {u : Value} {c : Tree} {y : Value} (hI : I b) (hb : w0.heap[b]? = some (.cells #[u, y] 113 (0, 0))) (hu : MkOK w0 I a u) (fu : ∃ T p, u = .iface T p) (hy : MkOK w0 I c y) (fy : ∃ T p, y = .iface T p) : MoreOK w0 I ⟨#[86, 101, 99, 116, 111, 114, 84, 121, 112, 101]⟩ (.node ⟨#[86, 101, 99, 116, 111, 114, 84, 121, 112, 101]⟩ ⟨#[]⟩ 0 [a, c]) (.iface 111 (.pointer (some ⟨b, 0, none⟩))) := by
  intro w hM
  have HN := Lib.hid (fun W (h : MS w0 I W) => node_of2 ⟨#[86, 101, 99, 116, 111, 114, 84, 121, 112, 101]⟩ ⟨#[]⟩ 0 hu hy (by obtain ⟨T, p, rfl⟩ := fu; rfl) (by obtain ⟨T, p, rfl⟩ := fy; rfl) h)
  have HB2 := Lib.hid (fun W (h : Below w.heap.size w W) (r : W.heap[w.heap.size]? = some (.cells #[.string ⟨#[]⟩, .string ⟨#[]⟩, .int .i64 0, .slice none 0 0] 24 (0, 0))) => And.intro (h.trans ((box_below W (.cells #[u, y] 38)).mono h.size)) (show (W.alloc (.cells #[u, y] 38)).heap[w.heap.size]? = _ from (Below.heap_alloc _ _ _ (lt_of_block r)).trans r))
  obtain ⟨Tu, pu, rfl⟩ := fu
  obtain ⟨Ty, py, rfl⟩ := fy
  have BB := Lib.hid (box_below w (.cells #[.string ⟨#[]⟩, .string ⟨#[]⟩, .int .i64 0, .slice none 0 0] 24))
  have RR := Lib.hid (show (w.alloc (.cells #[.string ⟨#[]⟩, .string ⟨#[]⟩, .int .i64 0, .slice none 0 0] 24)).heap[w.heap.size]? = some (.cells #[.string ⟨#[]⟩, .string ⟨#[]⟩, .int .i64 0, .slice none 0 0] 24 (0, 0)) from heap_alloc_new w _)
  have MM := Lib.hid (hM.on (box_below w (.cells #[.string ⟨#[]⟩, .string ⟨#[]⟩, .int .i64 0, .slice none 0 0] 24)))
  obtain ⟨w1, hw1⟩ : ∃ w1, w1 = w.alloc (.cells #[.string ⟨#[]⟩, .string ⟨#[]⟩, .int .i64 0, .slice none 0 0] 24) := ⟨_, rfl⟩
  clear hM
  have HC := Lib.hid (show ∀ W, MS w0 I W → W.heap[b]? = some (.cells #[.iface Tu pu, .iface Ty py] 113 (0, 0)) from fun W h => (h.same b hI).trans hb)
  clear hb hI hu hy
  have tArrayType := fun W => (show (Instr.typeAssert (.iface 111 (.pointer (some ⟨b, 0, none⟩))) 38 108 true).run Tryz.prog W = .ok (.tuple #[.pointer none, .bool false]) W from by kernel_rfl)
  have tVectorType := fun W => (show (Instr.typeAssert (.iface 111 (.pointer (some ⟨b, 0, none⟩))) 38 111 true).run Tryz.prog W = .ok (.tuple #[.pointer (some ⟨b, 0, none⟩), .bool true]) W from by kernel_rfl)
  rw [← hw1] at BB RR MM
  have CE := Lib.hid (HC.out _ MM.out)
  go_enter Tryz.func48, Tryz.ntmps48
  go_upto_region 1 with fail
  rw [← hw1]
  clear hw1
  obtain ⟨c0, c1⟩ := cells2 CE.out
  clear CE
  go_wp2_with fail
  have MD := Lib.hid (show MS w0 I (World.drew _) from ⟨MM.out.same, MM.out.lt⟩)
  have BD := Lib.hid (BB.out.drew)
  have RD := Lib.hid (show (World.drew _).heap[w.heap.size]? = _ from RR.out)
  obtain ⟨d0, d1⟩ := cells2 (HC.out _ (MM.out.on (box_below _ (.cells #[.iface Tu pu, .iface Ty py] 38))))
  go_region_with (first
    | (go_at_call 45; refine (HN.out _ MD.out).mono ?_; rintro e w3 ⟨⟨kv3, rfl, hr3⟩, b3⟩; obtain ⟨⟨⟨z0, z1, z2, z3⟩, fr⟩, ⟨ka, kn, kc, hkv⟩, X0⟩ := node_fin (HB2.out _ BD.out RD.out).1 (HB2.out _ BD.out RD.out).2 hr3 b3; subst hkv; have X := Lib.hid X0; clear hr3 b3 X0)
    )
  all_goals
    go_wp2_with fail
    (try simp only [Exit.inBlock, Exit.then])
    refine bodyPost_ret (by simp [results, Tryz.results48, go_sem, z0, z1, z2, z3]; try rfl) rfl ?_
    exact X.out _ _ _ _

set_option maxRecDepth 100000 in
set_option maxHeartbeats 4000000 in
theorem node_vectorType {w0 : World} {I : Nat → Prop} (b : Nat) {a : Tree} {u : Value} {c : Tree} {y : Value} (hI : I b) (hb : w0.heap[b]? = some (.cells #[u, y] 113 (0, 0))) (hu : MkOK w0 I a u) (fu : ∃ T p, u = .iface T p) (hy : MkOK w0 I c y) (fy : ∃ T p, y = .iface T p) : MkOK w0 I (.node ⟨#[86, 101, 99, 116, 111, 114, 84, 121, 112, 101]⟩ ⟨#[]⟩ 0 [a, c]) (.iface 111 (.pointer (some ⟨b, 0, none⟩))) := by
  intro w hM
  have BB := Lib.hid (box_below w (.cells #[.string ⟨#[]⟩, .string ⟨#[]⟩, .int .i64 0, .slice none 0 0] 24))
  have RR := Lib.hid (show (w.alloc (.cells #[.string ⟨#[]⟩, .string ⟨#[]⟩, .int .i64 0, .slice none 0 0] 24)).heap[w.heap.size]? = some (.cells #[.string ⟨#[]⟩, .string ⟨#[]⟩, .int .i64 0, .slice none 0 0] 24 (0, 0)) from heap_alloc_new w _)
  have MM := Lib.hid (hM.on (box_below w (.cells #[.string ⟨#[]⟩, .string ⟨#[]⟩, .int .i64 0, .slice none 0 0] 24)))
  obtain ⟨w1, hw1⟩ : ∃ w1, w1 = w.alloc (.cells #[.string ⟨#[]⟩, .string ⟨#[]⟩, .int .i64 0, .slice none 0 0] 24) := ⟨_, rfl⟩
  clear hM
  have HM := Lib.hid (more_vectorType b hI hb hu fu hy fy)
  have HK := Lib.hid (fun W => kindOf_vectorType ⟨b, 0, none⟩ W)
  clear hb hI hu hy
  have tName := fun W => (show (Instr.typeAssert (.iface 111 (.pointer (some ⟨b, 0, none⟩))) 38 45 true).run Tryz.prog W = .ok (.tuple #[.pointer none, .bool false]) W from by kernel_rfl)
  have tBuiltinType := fun W => (show (Instr.typeAssert (.iface 111 (.pointer (some ⟨b, 0, none⟩))) 38 53 true).run Tryz.prog W = .ok (.tuple #[.pointer none, .bool false]) W from by kernel_rfl)
  have tOperator := fun W => (show (Instr.typeAssert (.iface 111 (.pointer (some ⟨b, 0, none⟩))) 38 55 true).run Tryz.prog W = .ok (.tuple #[.pointer none, .bool false]) W from by kernel_rfl)
  have tConstructor := fun W => (show (Instr.typeAssert (.iface 111 (.pointer (some ⟨b, 0, none⟩))) 38 59 true).run Tryz.prog W = .ok (.tuple #[.pointer none, .bool false]) W from by kernel_rfl)
  have tDestructor := fun W => (show (Instr.typeAssert (.iface 111 (.pointer (some ⟨b, 0, none⟩))) 38 63 true).run Tryz.prog W = .ok (.tuple #[.pointer none, .bool false]) W from by kernel_rfl)
  have tQualified := fun W => (show (Instr.typeAssert (.iface 111 (.pointer (some ⟨b, 0, none⟩))) 38 66 true).run Tryz.prog W = .ok (.tuple #[.pointer none, .bool false]) W from by kernel_rfl)
  have tTemplate := fun W => (show (Instr.typeAssert (.iface 111 (.pointer (some ⟨b, 0, none⟩))) 38 69 true).run Tryz.prog W = .ok (.tuple #[.pointer none, .bool false]) W from by kernel_rfl)
  have tTyped := fun W => (show (Instr.typeAssert (.iface 111 (.pointer (some ⟨b, 0, none⟩))) 38 74 true).run Tryz.prog W = .ok (.tuple #[.pointer none, .bool false]) W from by kernel_rfl)
  have tFunctionType := fun W => (show (Instr.typeAssert (.iface 111 (.pointer (some ⟨b, 0, none⟩))) 38 77 true).run Tryz.prog W = .ok (.tuple #[.pointer none, .bool false]) W from by kernel_rfl)
  have tPointerType := fun W => (show (Instr.typeAssert (.iface 111 (.pointer (some ⟨b, 0, none⟩))) 38 80 true).run Tryz.prog W = .ok (.tuple #[.pointer none, .bool false]) W from by kernel_rfl)
  have tReferenceType := fun W => (show (Instr.typeAssert (.iface 111 (.pointer (some ⟨b, 0, none⟩))) 38 83 true).run Tryz.prog W = .ok (.tuple #[.pointer none, .bool false]) W from by kernel_rfl)
  have tRvalueReferenceType := fun W => (show (Instr.typeAssert (.iface 111 (.pointer (some ⟨b, 0, none⟩))) 38 85 true).run Tryz.prog W = .ok (.tuple #[.pointer none, .bool false]) W from by kernel_rfl)
  have tComplexType := fun W => (show (Instr.typeAssert (.iface 111 (.pointer (some ⟨b, 0, none⟩))) 38 87 true).run Tryz.prog W = .ok (.tuple #[.pointer none, .bool false]) W from by kernel_rfl)
  have tImaginaryType := fun W => (show (Instr.typeAssert (.iface 111 (.pointer (some ⟨b, 0, none⟩))) 38 89 true).run Tryz.prog W = .ok (.tuple #[.pointer none, .bool false]) W from by kernel_rfl)
  have tTypeWithQualifiers := fun W => (show (Instr.typeAssert (.iface 111 (.pointer (some ⟨b, 0, none⟩))) 38 91 true).run Tryz.prog W = .ok (.tuple #[.pointer none, .bool false]) W from by kernel_rfl)
  have tQualifiers := fun W => (show (Instr.typeAssert (.iface 111 (.pointer (some ⟨b, 0, none⟩))) 38 94 true).run Tryz.prog W = .ok (.tuple #[.pointer none, .bool false]) W from by kernel_rfl)
  have tQualifier := fun W => (show (Instr.typeAssert (.iface 111 (.pointer (some ⟨b, 0, none⟩))) 38 97 true).run Tryz.prog W = .ok (.tuple #[.pointer none, .bool false]) W from by kernel_rfl)
  have tMethodWithQualifiers := fun W => (show (Instr.typeAssert (.iface 111 (.pointer (some ⟨b, 0, none⟩))) 38 100 true).run Tryz.prog W = .ok (.tuple #[.pointer none, .bool false]) W from by kernel_rfl)
  go_enter Tryz.func28, Tryz.ntmps28
  go_wp2_with fail
  rw [← hw1] at BB RR MM ⊢
  refine (HK.out _).mono ?_
  rintro e w2 ⟨rfl, rfl⟩
  clear hw1 HK
  go_wp2_with fail
  refine (HM.out _ MM.out).mono ?_
  rintro e w3 ⟨⟨kv3, rfl, hr3⟩, b3⟩
  obtain ⟨⟨⟨z0, z1, z2, z3⟩, fr⟩, ⟨ka, kn, kc, hkv⟩, X0⟩ := node_fin BB.out RR.out hr3 b3
  subst hkv
  have X := Lib.hid X0
  clear hr3 b3 X0
  go_wp2_with fail
  (try simp only [Exit.inBlock, Exit.then])
  refine bodyPost_ret (by simp [results, Tryz.results28, go_sem, z0, z1, z2, z3]; try rfl) rfl ?_
  exact X.out _ _ _ _

set_option maxRecDepth 100000 in
set_option maxHeartbeats 4000000 in
theorem more_ptrMem {w0 : World} {I : Nat → Prop} (b : Nat) {a : Tree} {u : Value} {c : Tree} {y : Value} (hI : I b) (hb : w0.heap[b]? = some (.cells #[u, y] 116 (0, 0))) (hu : MkOK w0 I a u) (fu : ∃ T p, u = .iface T p) (hy : MkOK w0 I c y) (fy : ∃ T p, y = .iface T p) : MoreOK w0 I ⟨#[80, 116, 114, 77, 101, 109]⟩ (.node ⟨#[80, 116, 114, 77, 101, 109]⟩ ⟨#[]⟩ 0 [a, c]) (.iface 114 (.pointer (some ⟨b, 0, none⟩))) := by
  intro w hM
  have HN := Lib.hid (fun W (h : MS w0 I W) => node_of2 ⟨#[80, 116, 114, 77, 101, 109]⟩ ⟨#[]⟩ 0 hu hy (by obtain ⟨T, p, rfl⟩ := fu; rfl) (by obtain ⟨T, p, rfl⟩ := fy; rfl) h)
  have HB2 := Lib.hid (fun W (h : Below w.heap.size w W) (r : W.heap[w.heap.size]? = some (.cells #[.string ⟨#[]⟩, .string ⟨#[]⟩, .int .i64 0, .slice none 0 0] 24 (0, 0))) => And.intro (h.trans ((box_below W (.cells #[u, y] 38)).mono h.size)) (show (W.alloc (.cells #[u, y] 38)).heap[w.heap.size]? = _ from (Below.heap_alloc _ _ _ (lt_of_block r)).trans r))
  obtain ⟨Tu, pu, rfl⟩ := fu
  obtain ⟨Ty, py, rfl⟩ := fy
  have BB := Lib.hid (box_below w (.cells #[.string ⟨#[]⟩, .string ⟨#[]⟩, .int .i64 0, .slice none 0 0] 24))
  have RR := Lib.hid (show (w.alloc (.cells #[.string ⟨#[]⟩, .string ⟨#[]⟩, .int .i64 0, .slice none 0 0] 24)).heap[w.heap.size]? = some (.cells #[.string ⟨#[]⟩, .string ⟨#[]⟩, .int .i64 0, .slice none 0 0] 24 (0, 0)) from heap_alloc_new w _)
  have MM := Lib.hid (hM.on (box_below w (.cells #[.string ⟨#[]⟩, .string ⟨#[]⟩, .int .i64 0, .slice none 0 0] 24)))
  obtain ⟨w1, hw1⟩ : ∃ w1, w1 = w.alloc (.cells #[.string ⟨#[]⟩, .string ⟨#[]⟩, .int .i64 0, .slice none 0 0] 24) := ⟨_, rfl⟩
  clear hM
  have HC := Lib.hid (show ∀ W, MS w0 I W → W.heap[b]? = some (.cells #[.iface Tu pu, .iface Ty py] 116 (0, 0)) from fun W h => (h.same b hI).trans hb)
  clear hb hI hu hy
  have tArrayType := fun W => (show (Instr.typeAssert (.iface 114 (.pointer (some ⟨b, 0, none⟩))) 38 108 true).run Tryz.prog W = .ok (.tuple #[.pointer none, .bool false]) W from by kernel_rfl)
  have tVectorType := fun W => (show (Instr.typeAssert (.iface 114 (.pointer (some ⟨b, 0, none⟩))) 38 111 true).run Tryz.prog W = .ok (.tuple #[.pointer none, .bool false]) W from by kernel_rfl)
  have tPtrMem := fun W => (show (Instr.typeAssert (.iface 114 (.pointer (some ⟨b, 0, none⟩))) 38 114 true).run Tryz.prog W = .ok (.tuple #[.pointer (some ⟨b, 0, none⟩), .bool true]) W from by kernel_rfl)
  rw [← hw1] at BB RR MM
  have CE := Lib.hid (HC.out _ MM.out)
  go_enter Tryz.func48, Tryz.ntmps48
  go_upto_region 1 with fail
  rw [← hw1]
  clear hw1
  obtain ⟨c0, c1⟩ := cells2 CE.out
  clear CE
  go_wp2_with fail
  have MD := Lib.hid (show MS w0 I (World.drew _) from ⟨MM.out.same, MM.out.lt⟩)
  have BD := Lib.hid (BB.out.drew)
  have RD := Lib.hid (show (World.drew _).heap[w.heap.size]? = _ from RR.out)
  obtain ⟨d0, d1⟩ := cells2 (HC.out _ (MM.out.on (box_below _ (.cells #[.iface Tu pu, .iface Ty py] 38))))
  go_region_with (first
    | (go_at_call 45; refine (HN.out _ MD.out).mono ?_; rintro e w3 ⟨⟨kv3, rfl, hr3⟩, b3⟩; obtain ⟨⟨⟨z0, z1, z2, z3⟩, fr⟩, ⟨ka, kn, kc, hkv⟩, X0⟩ := node_fin (HB2.out _ BD.out RD.out).1 (HB2.out _ BD.out RD.out).2 hr3 b3; subst hkv; have X := Lib.hid X0; clear hr3 b3 X0)
    )
  all_goals
    go_wp2_with fail
    (try simp only [Exit.inBlock, Exit.then])
    refine bodyPost_ret (by simp [results, Tryz.results48, go_sem, z0, z1, z2, z3]; try rfl) rfl ?_
    exact X.out _ _ _ _

set_option maxRecDepth 100000 in
set_option maxHeartbeats 4000000 in
theorem node_ptrMem {w0 : World} {I : Nat → Prop} (b : Nat) {a : Tree} {u : Value} {c : Tree} {y : Value} (hI : I b) (hb : w0.heap[b]? = some (.cells #[u, y] 116 (0, 0))) (hu : MkOK w0 I a u) (fu : ∃ T p, u = .iface T p) (hy : MkOK w0 I c y) (fy : ∃ T p, y = .iface T p) : MkOK w0 I (.node ⟨#[80, 116, 114, 77, 101, 109]⟩ ⟨#[]⟩ 0 [a, c]) (.iface 114 (.pointer (some ⟨b, 0, none⟩))) := by
  intro w hM
  have BB := Lib.hid (box_below w (.cells #[.string ⟨#[]⟩, .string ⟨#[]⟩, .int .i64 0, .slice none 0 0] 24))
  have RR := Lib.hid (show (w.alloc (.cells #[.string ⟨#[]⟩, .string ⟨#[]⟩, .int .i64 0, .slice none 0 0] 24)).heap[w.heap.size]? = some (.cells #[.string ⟨#[]⟩, .string ⟨#[]⟩, .int .i64 0, .slice none 0 0] 24 (0, 0)) from heap_alloc_new w _)
  have MM := Lib.hid (hM.on (box_below w (.cells #[.string ⟨#[]⟩, .string ⟨#[]⟩, .int .i64 0, .slice none 0 0] 24)))
  obtain ⟨w1, hw1⟩ : ∃ w1, w1 = w.alloc (.cells #[.string ⟨#[]⟩, .string ⟨#[]⟩, .int .i64 0, .slice none 0 0] 24) := ⟨_, rfl⟩
  clear hM
  have HM := Lib.hid (more_ptrMem b hI hb hu fu hy fy)
  have HK := Lib.hid (fun W => kindOf_ptrMem ⟨b, 0, none⟩ W)
  clear hb hI hu hy
  have tName := fun W => (show (Instr.typeAssert (.iface 114 (.pointer (some ⟨b, 0, none⟩))) 38 45 true).run Tryz.prog W = .ok (.tuple #[.pointer none, .bool false]) W from by kernel_rfl)
  have tBuiltinType := fun W => (show (Instr.typeAssert (.iface 114 (.pointer (some ⟨b, 0, none⟩))) 38 53 true).run Tryz.prog W = .ok (.tuple #[.pointer none, .bool false]) W from by kernel_rfl)
  have tOperator := fun W => (show (Instr.typeAssert (.iface 114 (.pointer (some ⟨b, 0, none⟩))) 38 55 true).run Tryz.prog W = .ok (.tuple #[.pointer none, .bool false]) W from by kernel_rfl)
  have tConstructor := fun W => (show (Instr.typeAssert (.iface 114 (.pointer (some ⟨b, 0, none⟩))) 38 59 true).run Tryz.prog W = .ok (.tuple #[.pointer none, .bool false]) W from by kernel_rfl)
  have tDestructor := fun W => (show (Instr.typeAssert (.iface 114 (.pointer (some ⟨b, 0, none⟩))) 38 63 true).run Tryz.prog W = .ok (.tuple #[.pointer none, .bool false]) W from by kernel_rfl)
  have tQualified := fun W => (show (Instr.typeAssert (.iface 114 (.pointer (some ⟨b, 0, none⟩))) 38 66 true).run Tryz.prog W = .ok (.tuple #[.pointer none, .bool false]) W from by kernel_rfl)
  have tTemplate := fun W => (show (Instr.typeAssert (.iface 114 (.pointer (some ⟨b, 0, none⟩))) 38 69 true).run Tryz.prog W = .ok (.tuple #[.pointer none, .bool false]) W from by kernel_rfl)
  have tTyped := fun W => (show (Instr.typeAssert (.iface 114 (.pointer (some ⟨b, 0, none⟩))) 38 74 true).run Tryz.prog W = .ok (.tuple #[.pointer none, .bool false]) W from by kernel_rfl)
  have tFunctionType := fun W => (show (Instr.typeAssert (.iface 114 (.pointer (some ⟨b, 0, none⟩))) 38 77 true).run Tryz.prog W = .ok (.tuple #[.pointer none, .bool false]) W from by kernel_rfl)
  have tPointerType := fun W => (show (Instr.typeAssert (.iface 114 (.pointer (some ⟨b, 0, none⟩))) 38 80 true).run Tryz.prog W = .ok (.tuple #[.pointer none, .bool false]) W from by kernel_rfl)
  have tReferenceType := fun W => (show (Instr.typeAssert (.iface 114 (.pointer (some ⟨b, 0, none⟩))) 38 83 true).run Tryz.prog W = .ok (.tuple #[.pointer none, .bool false]) W from by kernel_rfl)
  have tRvalueReferenceType := fun W => (show (Instr.typeAssert (.iface 114 (.pointer (some ⟨b, 0, none⟩))) 38 85 true).run Tryz.prog W = .ok (.tuple #[.pointer none, .bool false]) W from by kernel_rfl)
  have tComplexType := fun W => (show (Instr.typeAssert (.iface 114 (.pointer (some ⟨b, 0, none⟩))) 38 87 true).run Tryz.prog W = .ok (.tuple #[.pointer none, .bool false]) W from by kernel_rfl)
  have tImaginaryType := fun W => (show (Instr.typeAssert (.iface 114 (.pointer (some ⟨b, 0, none⟩))) 38 89 true).run Tryz.prog W = .ok (.tuple #[.pointer none, .bool false]) W from by kernel_rfl)
  have tTypeWithQualifiers := fun W => (show (Instr.typeAssert (.iface 114 (.pointer (some ⟨b, 0, none⟩))) 38 91 true).run Tryz.prog W = .ok (.tuple #[.pointer none, .bool false]) W from by kernel_rfl)
  have tQualifiers := fun W => (show (Instr.typeAssert (.iface 114 (.pointer (some ⟨b, 0, none⟩))) 38 94 true).run Tryz.prog W = .ok (.tuple #[.pointer none, .bool false]) W from by kernel_rfl)
  have tQualifier := fun W => (show (Instr.typeAssert (.iface 114 (.pointer (some ⟨b, 0, none⟩))) 38 97 true).run Tryz.prog W = .ok (.tuple #[.pointer none, .bool false]) W from by kernel_rfl)
  have tMethodWithQualifiers := fun W => (show (Instr.typeAssert (.iface 114 (.pointer (some ⟨b, 0, none⟩))) 38 100 true).run Tryz.prog W = .ok (.tuple #[.pointer none, .bool false]) W from by kernel_rfl)
  go_enter Tryz.func28, Tryz.ntmps28
  go_wp2_with fail
  rw [← hw1] at BB RR MM ⊢
  refine (HK.out _).mono ?_
  rintro e w2 ⟨rfl, rfl⟩
  clear hw1 HK
  go_wp2_with fail
  refine (HM.out _ MM.out).mono ?_
  rintro e w3 ⟨⟨kv3, rfl, hr3⟩, b3⟩
  obtain ⟨⟨⟨z0, z1, z2, z3⟩, fr⟩, ⟨ka, kn, kc, hkv⟩, X0⟩ := node_fin BB.out RR.out hr3 b3
  subst hkv
  have X := Lib.hid X0
  clear hr3 b3 X0
  go_wp2_with fail
  (try simp only [Exit.inBlock, Exit.then])
  refine bodyPost_ret (by simp [results, Tryz.results28, go_sem, z0, z1, z2, z3]; try rfl) rfl ?_
  exact X.out _ _ _ _

set_option maxRecDepth 100000 in
set_option maxHeartbeats 4000000 in
theorem more_vendorQualifier {w0 : World} {I : Nat → Prop} (b : Nat) {a : Tree} {u : Value} {c : Tree} {y : Value} (hI : I b) (hb : w0.heap[b]? = some (.cells #[u, y] 119 (0, 0))) (hu : MkOK w0 I a u) (fu : ∃ T p, u = .iface T p) (hy : MkOK w0 I c y) (fy : ∃ T p, y = .iface T p) : MoreOK w0 I ⟨#[86, 101, 110, 100, 111, 114, 81, 117, 97, 108, 105, 102, 105, 101, 114]⟩ (.node ⟨#[86, 101, 110, 100, 111, 114, 81, 117, 97, 108, 105, 102, 105, 101, 114]⟩ ⟨#[]⟩ 0 [a, c]) (.iface 117 (.pointer (some ⟨b, 0, none⟩))) := by
  intro w hM
  have HN := Lib.hid (fun W (h : MS w0 I W) => node_of2 ⟨#[86, 101, 110, 100, 111, 114, 81, 117, 97, 108, 105, 102, 105, 101, 114]⟩ ⟨#[]⟩ 0 hu hy (by obtain ⟨T, p, rfl⟩ := fu; rfl) (by obtain ⟨T, p, rfl⟩ := fy; rfl) h)
  have HB2 := Lib.hid (fun W (h : Below w.heap.size w W) (r : W.heap[w.heap.size]? = some (.cells #[.string ⟨#[]⟩, .string ⟨#[]⟩, .int .i64 0, .slice none 0 0] 24 (0, 0))) => And.intro (h.trans ((box_below W (.cells #[u, y] 38)).mono h.size)) (show (W.alloc (.cells #[u, y] 38)).heap[w.heap.size]? = _ from (Below.heap_alloc _ _ _ (lt_of_block r)).trans r))
  obtain ⟨Tu, pu, rfl⟩ := fu
  obtain ⟨Ty, py, rfl⟩ := fy
  have BB := Lib.hid (box_below w (.cells #[.string ⟨#[]⟩, .string ⟨#[]⟩, .int .i64 0, .slice none 0 0] 24))
  have RR := Lib.hid (show (w.alloc (.cells #[.string ⟨#[]⟩, .string ⟨#[]⟩, .int .i64 0, .slice none 0 0] 24)).heap[w.heap.size]? = some (.cells #[.string ⟨#[]⟩, .string ⟨#[]⟩, .int .i64 0, .slice none 0 0] 24 (0, 0)) from heap_alloc_new w _)
  have MM := Lib.hid (hM.on (box_below w (.cells #[.string ⟨#[]⟩, .string ⟨#[]⟩, .int .i64 0, .slice none 0 0] 24)))
  obtain ⟨w1, hw1⟩ : ∃ w1, w1 = w.alloc (.cells #[.string ⟨#[]⟩, .string ⟨#[]⟩, .int .i64 0, .slice none 0 0] 24) := ⟨_, rfl⟩
  clear hM
  have HC := Lib.hid (show ∀ W, MS w0 I W → W.heap[b]? = some (.cells #[.iface Tu pu, .iface Ty py] 119 (0, 0)) from fun W h => (h.same b hI).trans hb)
  clear hb hI hu hy
  have tArrayType := fun W => (show (Instr.typeAssert (.iface 117 (.pointer (some ⟨b, 0, none⟩))) 38 108 true).run Tryz.prog W = .ok (.tuple #[.pointer none, .bool false]) W from by kernel_rfl)
  have tVectorType := fun W => (show (Instr.typeAssert (.iface 117 (.pointer (some ⟨b, 0, none⟩))) 38 111 true).run Tryz.prog W = .ok (.tuple #[.pointer none, .bool false]) W from by kernel_rfl)
  have tPtrMem := fun W => (show (Instr.typeAssert (.iface 117 (.pointer (some ⟨b, 0, none⟩))) 38 114 true).run Tryz.prog W = .ok (.tuple #[.pointer none, .bool false]) W from by kernel_rfl)
  have tVendorQualifier := fun W => (show (Instr.typeAssert (.iface 117 (.pointer (some ⟨b, 0, none⟩))) 38 117 true).run Tryz.prog W = .ok (.tuple #[.pointer (some ⟨b, 0, none⟩), .bool true]) W from by kernel_rfl)
  rw [← hw1] at BB RR MM
  have CE := Lib.hid (HC.out _ MM.out)
  go_enter Tryz.func48, Tryz.ntmps48
  go_upto_region 1 with fail
  rw [← hw1]
  clear hw1
  obtain ⟨c0, c1⟩ := cells2 CE.out
  clear CE
  go_wp2_with fail
  have MD := Lib.hid (show MS w0 I (World.drew _) from ⟨MM.out.same, MM.out.lt⟩)
  have BD := Lib.hid (BB.out.drew)
  have RD := Lib.hid (show (World.drew _).heap[w.heap.size]? = _ from RR.out)
  obtain ⟨d0, d1⟩ := cells2 (HC.out _ (MM.out.on (box_below _ (.cells #[.iface Tu pu, .iface Ty py] 38))))
  go_region_with (first
    | (go_at_call 45; refine (HN.out _ MD.out).mono ?_; rintro e w3 ⟨⟨kv3, rfl, hr3⟩, b3⟩; obtain ⟨⟨⟨z0, z1, z2, z3⟩, fr⟩, ⟨ka, kn, kc, hkv⟩, X0⟩ := node_fin (HB2.out _ BD.out RD.out).1 (HB2.out _ BD.out RD.out).2 hr3 b3; subst hkv; have X := Lib.hid X0; clear hr3 b3 X0)
    )
  all_goals
    go_wp2_with fail
    (try simp only [Exit.inBlock, Exit.then])
    refine bodyPost_ret (by simp [results, Tryz.results48, go_sem, z0, z1, z2, z3]; try rfl) rfl ?_
    exact X.out _ _ _ _

set_option maxRecDepth 100000 in
set_option maxHeartbeats 4000000 in
theorem node_vendorQualifier {w0 : World} {I : Nat → Prop} (b : Nat) {a : Tree} {u : Value} {c : Tree} {y : Value} (hI : I b) (hb : w0.heap[b]? = some (.cells #[u, y] 119 (0, 0))) (hu : MkOK w0 I a u) (fu : ∃ T p, u = .iface T p) (hy : MkOK w0 I c y) (fy : ∃ T p, y = .iface T p) : MkOK w0 I (.node ⟨#[86, 101, 110, 100, 111, 114, 81, 117, 97, 108, 105, 102, 105, 101, 114]⟩ ⟨#[]⟩ 0 [a, c]) (.iface 117 (.pointer (some ⟨b, 0, none⟩))) := by
  intro w hM
  have BB := Lib.hid (box_below w (.cells #[.string ⟨#[]⟩, .string ⟨#[]⟩, .int .i64 0, .slice none 0 0] 24))
  have RR := Lib.hid (show (w.alloc (.cells #[.string ⟨#[]⟩, .string ⟨#[]⟩, .int .i64 0, .slice none 0 0] 24)).heap[w.heap.size]? = some (.cells #[.string ⟨#[]⟩, .string ⟨#[]⟩, .int .i64 0, .slice none 0 0] 24 (0, 0)) from heap_alloc_new w _)
  have MM := Lib.hid (hM.on (box_below w (.cells #[.string ⟨#[]⟩, .string ⟨#[]⟩, .int .i64 0, .slice none 0 0] 24)))
  obtain ⟨w1, hw1⟩ : ∃ w1, w1 = w.alloc (.cells #[.string ⟨#[]⟩, .string ⟨#[]⟩, .int .i64 0, .slice none 0 0] 24) := ⟨_, rfl⟩
  clear hM
  have HM := Lib.hid (more_vendorQualifier b hI hb hu fu hy fy)
  have HK := Lib.hid (fun W => kindOf_vendorQualifier ⟨b, 0, none⟩ W)
  clear hb hI hu hy
  have tName := fun W => (show (Instr.typeAssert (.iface 117 (.pointer (some ⟨b, 0, none⟩))) 38 45 true).run Tryz.prog W = .ok (.tuple #[.pointer none, .bool false]) W from by kernel_rfl)
  have tBuiltinType := fun W => (show (Instr.typeAssert (.iface 117 (.pointer (some ⟨b, 0, none⟩))) 38 53 true).run Tryz.prog W = .ok (.tuple #[.pointer none, .bool false]) W from by kernel_rfl)
  have tOperator := fun W => (show (Instr.typeAssert (.iface 117 (.pointer (some ⟨b, 0, none⟩))) 38 55 true).run Tryz.prog W = .ok (.tuple #[.pointer none, .bool false]) W from by kernel_rfl)
  have tConstructor := fun W => (show (Instr.typeAssert (.iface 117 (.pointer (some ⟨b, 0, none⟩))) 38 59 true).run Tryz.prog W = .ok (.tuple #[.pointer none, .bool false]) W from by kernel_rfl)
  have tDestructor := fun W => (show (Instr.typeAssert (.iface 117 (.pointer (some ⟨b, 0, none⟩))) 38 63 true).run Tryz.prog W = .ok (.tuple #[.pointer none, .bool false]) W from by kernel_rfl)
  have tQualified := fun W => (show (Instr.typeAssert (.iface 117 (.pointer (some ⟨b, 0, none⟩))) 38 66 true).run Tryz.prog W = .ok (.tuple #[.pointer none, .bool false]) W from by kernel_rfl)
  have tTemplate := fun W => (show (Instr.typeAssert (.iface 117 (.pointer (some ⟨b, 0, none⟩))) 38 69 true).run Tryz.prog W = .ok (.tuple #[.pointer none, .bool false]) W from by kernel_rfl)
  have tTyped := fun W => (show (Instr.typeAssert (.iface 117 (.pointer (some ⟨b, 0, none⟩))) 38 74 true).run Tryz.prog W = .ok (.tuple #[.pointer none, .bool false]) W from by kernel_rfl)
  have tFunctionType := fun W => (show (Instr.typeAssert (.iface 117 (.pointer (some ⟨b, 0, none⟩))) 38 77 true).run Tryz.prog W = .ok (.tuple #[.pointer none, .bool false]) W from by kernel_rfl)
  have tPointerType := fun W => (show (Instr.typeAssert (.iface 117 (.pointer (some ⟨b, 0, none⟩))) 38 80 true).run Tryz.prog W = .ok (.tuple #[.pointer none, .bool false]) W from by kernel_rfl)
  have tReferenceType := fun W => (show (Instr.typeAssert (.iface 117 (.pointer (some ⟨b, 0, none⟩))) 38 83 true).run Tryz.prog W = .ok (.tuple #[.pointer none, .bool false]) W from by kernel_rfl)
  have tRvalueReferenceType := fun W => (show (Instr.typeAssert (.iface 117 (.pointer (some ⟨b, 0, none⟩))) 38 85 true).run Tryz.prog W = .ok (.tuple #[.pointer none, .bool false]) W from by kernel_rfl)
  have tComplexType := fun W => (show (Instr.typeAssert (.iface 117 (.pointer (some ⟨b, 0, none⟩))) 38 87 true).run Tryz.prog W = .ok (.tuple #[.pointer none, .bool false]) W from by kernel_rfl)
  have tImaginaryType := fun W => (show (Instr.typeAssert (.iface 117 (.pointer (some ⟨b, 0, none⟩))) 38 89 true).run Tryz.prog W = .ok (.tuple #[.pointer none, .bool false]) W from by kernel_rfl)
  have tTypeWithQualifiers := fun W => (show (Instr.typeAssert (.iface 117 (.pointer (some ⟨b, 0, none⟩))) 38 91 true).run Tryz.prog W = .ok (.tuple #[.pointer none, .bool false]) W from by kernel_rfl)
  have tQualifiers := fun W => (show (Instr.typeAssert (.iface 117 (.pointer (some ⟨b, 0, none⟩))) 38 94 true).run Tryz.prog W = .ok (.tuple #[.pointer none, .bool false]) W from by kernel_rfl)
  have tQualifier := fun W => (show (Instr.typeAssert (.iface 117 (.pointer (some ⟨b, 0, none⟩))) 38 97 true).run Tryz.prog W = .ok (.tuple #[.pointer none, .bool false]) W from by kernel_rfl)
  have tMethodWithQualifiers := fun W => (show (Instr.typeAssert (.iface 117 (.pointer (some ⟨b, 0, none⟩))) 38 100 true).run Tryz.prog W = .ok (.tuple #[.pointer none, .bool false]) W from by kernel_rfl)
  go_enter Tryz.func28, Tryz.ntmps28
  go_wp2_with fail
  rw [← hw1] at BB RR MM ⊢
  refine (HK.out _).mono ?_
  rintro e w2 ⟨rfl, rfl⟩
  clear hw1 HK
  go_wp2_with fail
  refine (HM.out _ MM.out).mono ?_
  rintro e w3 ⟨⟨kv3, rfl, hr3⟩, b3⟩
  obtain ⟨⟨⟨z0, z1, z2, z3⟩, fr⟩, ⟨ka, kn, kc, hkv⟩, X0⟩ := node_fin BB.out RR.out hr3 b3
  subst hkv
  have X := Lib.hid X0
  clear hr3 b3 X0
  go_wp2_with fail
  (try simp only [Exit.inBlock, Exit.then])
  refine bodyPost_ret (by simp [results, Tryz.results28, go_sem, z0, z1, z2, z3]; try rfl) rfl ?_
  exact X.out _ _ _ _

set_option maxRecDepth 100000 in
set_option maxHeartbeats 4000000 in
theorem more_taggedName {w0 : World} {I : Nat → Prop} (b : Nat) {a : Tree} {u : Value} {c : Tree} {y : Value} (hI : I b) (hb : w0.heap[b]? = some (.cells #[u, y] 144 (0, 0))) (hu : MkOK w0 I a u) (fu : ∃ T p, u = .iface T p) (hy : MkOK w0 I c y) (fy : ∃ T p, y = .iface T p) : MoreOK w0 I ⟨#[84, 97, 103, 103, 101, 100, 78, 97, 109, 101]⟩ (.node ⟨#[84, 97, 103, 103, 101, 100, 78, 97, 109, 101]⟩ ⟨#[]⟩ 0 [a, c]) (.iface 142 (.pointer (some ⟨b, 0, none⟩))) := by
  intro w hM
  have HN := Lib.hid (fun W (h : MS w0 I W) => node_of2 ⟨#[84, 97, 103, 103, 101, 100, 78, 97, 109, 101]⟩ ⟨#[]⟩ 0 hu hy (by obtain ⟨T, p, rfl⟩ := fu; rfl) (by obtain ⟨T, p, rfl⟩ := fy; rfl) h)
  have HB2 := Lib.hid (fun W (h : Below w.heap.size w W) (r : W.heap[w.heap.size]? = some (.cells #[.string ⟨#[]⟩, .string ⟨#[]⟩, .int .i64 0, .slice none 0 0] 24 (0, 0))) => And.intro (h.trans ((box_below W (.cells #[u, y] 38)).mono h.size)) (show (W.alloc (.cells #[u, y] 38)).heap[w.heap.size]? = _ from (Below.heap_alloc _ _ _ (lt_of_block r)).trans r))
  obtain ⟨Tu, pu, rfl⟩ := fu
  obtain ⟨Ty, py, rfl⟩ := fy
  have BB := Lib.hid (box_below w (.cells #[.string ⟨#[]⟩, .string ⟨#[]⟩, .int .i64 0, .slice none 0 0] 24))
  have RR := Lib.hid (show (w.alloc (.cells #[.string ⟨#[]⟩, .string ⟨#[]⟩, .int .i64 0, .slice none 0 0] 24)).heap[w.heap.size]? = some (.cells #[.string ⟨#[]⟩, .string ⟨#[]⟩, .int .i64 0, .slice none 0 0] 24 (0, 0)) from heap_alloc_new w _)
  have MM := Lib.hid (hM.on (box_below w (.cells #[.string ⟨#[]⟩, .string ⟨#[]⟩, .int .i64 0, .slice none 0 0] 24)))
  obtain ⟨w1, hw1⟩ : ∃ w1, w1 = w.alloc (.cells #[.string ⟨#[]⟩, .string ⟨#[]⟩, .int .i64 0, .slice none 0 0] 24) := ⟨_, rfl⟩
  clear hM
  have HC := Lib.hid (show ∀ W, MS w0 I W → W.heap[b]? = some (.cells #[.iface Tu pu, .iface Ty py] 144 (0, 0)) from fun W h => (h.same b hI).trans hb)
  clear hb hI hu hy
  have tArrayType := fun W => (show (Instr.typeAssert (.iface 142 (.pointer (some ⟨b, 0, none⟩))) 38 108 true).run Tryz.prog W = .ok (.tuple #[.pointer none, .bool false]) W from by kernel_rfl)
  have tVectorType := fun W => (show (Instr.typeAssert (.iface 142 (.pointer (some ⟨b, 0, none⟩))) 38 111 true).run Tryz.prog W = .ok (.tuple #[.pointer none, .bool false]) W from by kernel_rfl)
  have tPtrMem := fun W => (show (Instr.typeAssert (.iface 142 (.pointer (some ⟨b, 0, none⟩))) 38 114 true).run Tryz.prog W = .ok (.tuple #[.pointer none, .bool false]) W from by kernel_rfl)
  have tVendorQualifier := fun W => (show (Instr.typeAssert (.iface 142 (.pointer (some ⟨b, 0, none⟩))) 38 117 true).run Tryz.prog W = .ok (.tuple #[.pointer none, .bool false]) W from by kernel_rfl)
  have tSpecial := fun W => (show (Instr.typeAssert (.iface 142 (.pointer (some ⟨b, 0, none⟩))) 38 120 true).run Tryz.prog W = .ok (.tuple #[.pointer none, .bool false]) W from by kernel_rfl)
  have tSpecial2 := fun W => (show (Instr.typeAssert (.iface 142 (.pointer (some ⟨b, 0, none⟩))) 38 123 true).run Tryz.prog W = .ok (.tuple #[.pointer none, .bool false]) W from by kernel_rfl)
  have tLiteral := fun W => (show (Instr.typeAssert (.iface 142 (.pointer (some ⟨b, 0, none⟩))) 38 126 true).run Tryz.prog W = .ok (.tuple #[.pointer none, .bool false]) W from by kernel_rfl)
  have tArgumentPack := fun W => (show (Instr.typeAssert (.iface 142 (.pointer (some ⟨b, 0, none⟩))) 38 129 true).run Tryz.prog W = .ok (.tuple #[.pointer none, .bool false]) W from by kernel_rfl)
  have tPackExpansion := fun W => (show (Instr.typeAssert (.iface 142 (.pointer (some ⟨b, 0, none⟩))) 38 133 true).run Tryz.prog W = .ok (.tuple #[.pointer none, .bool false]) W from by kernel_rfl)
  have tClosure := fun W => (show (Instr.typeAssert (.iface 142 (.pointer (some ⟨b, 0, none⟩))) 38 136 true).run Tryz.prog W = .ok (.tuple #[.pointer none, .bool false]) W from by kernel_rfl)
  have tUnnamedType := fun W => (show (Instr.typeAssert (.iface 142 (.pointer (some ⟨b, 0, none⟩))) 38 139 true).run Tryz.prog W = .ok (.tuple #[.pointer none, .bool false]) W from by kernel_rfl)
  have tTaggedName := fun W => (show (Instr.typeAssert (.iface 142 (.pointer (some ⟨b, 0, none⟩))) 38 142 true).run Tryz.prog W = .ok (.tuple #[.pointer (some ⟨b, 0, none⟩), .bool true]) W from by kernel_rfl)
  rw [← hw1] at BB RR MM
  have CE := Lib.hid (HC.out _ MM.out)
  go_enter Tryz.func48, Tryz.ntmps48
  go_upto_region 1 with fail
  rw [← hw1]
  clear hw1
  obtain ⟨c0, c1⟩ := cells2 CE.out
  clear CE
  go_wp2_with fail
  have MD := Lib.hid (show MS w0 I (World.drew _) from ⟨MM.out.same, MM.out.lt⟩)
  have BD := Lib.hid (BB.out.drew)
  have RD := Lib.hid (show (World.drew _).heap[w.heap.size]? = _ from RR.out)
  obtain ⟨d0, d1⟩ := cells2 (HC.out _ (MM.out.on (box_below _ (.cells #[.iface Tu pu, .iface Ty py] 38))))
  go_region_with (first
    | (go_at_call 45; refine (HN.out _ MD.out).mono ?_; rintro e w3 ⟨⟨kv3, rfl, hr3⟩, b3⟩; obtain ⟨⟨⟨z0, z1, z2, z3⟩, fr⟩, ⟨ka, kn, kc, hkv⟩, X0⟩ := node_fin (HB2.out _ BD.out RD.out).1 (HB2.out _ BD.out RD.out).2 hr3 b3; subst hkv; have X := Lib.hid X0; clear hr3 b3 X0)
    )
  all_goals
    go_wp2_with fail
    (try simp only [Exit.inBlock, Exit.then])
    refine bodyPost_ret (by simp [results, Tryz.results48, go_sem, z0, z1, z2, z3]; try rfl) rfl ?_
    exact X.out _ _ _ _

set_option maxRecDepth 100000 in
set_option maxHeartbeats 4000000 in
theorem node_taggedName {w0 : World} {I : Nat → Prop} (b : Nat) {a : Tree} {u : Value} {c : Tree} {y : Value} (hI : I b) (hb : w0.heap[b]? = some (.cells #[u, y] 144 (0, 0))) (hu : MkOK w0 I a u) (fu : ∃ T p, u = .iface T p) (hy : MkOK w0 I c y) (fy : ∃ T p, y = .iface T p) : MkOK w0 I (.node ⟨#[84, 97, 103, 103, 101, 100, 78, 97, 109, 101]⟩ ⟨#[]⟩ 0 [a, c]) (.iface 142 (.pointer (some ⟨b, 0, none⟩))) := by
  intro w hM
  have BB := Lib.hid (box_below w (.cells #[.string ⟨#[]⟩, .string ⟨#[]⟩, .int .i64 0, .slice none 0 0] 24))
  have RR := Lib.hid (show (w.alloc (.cells #[.string ⟨#[]⟩, .string ⟨#[]⟩, .int .i64 0, .slice none 0 0] 24)).heap[w.heap.size]? = some (.cells #[.string ⟨#[]⟩, .string ⟨#[]⟩, .int .i64 0, .slice none 0 0] 24 (0, 0)) from heap_alloc_new w _)
  have MM := Lib.hid (hM.on (box_below w (.cells #[.string ⟨#[]⟩, .string ⟨#[]⟩, .int .i64 0, .slice none 0 0] 24)))
  obtain ⟨w1, hw1⟩ : ∃ w1, w1 = w.alloc (.cells #[.string ⟨#[]⟩, .string ⟨#[]⟩, .int .i64 0, .slice none 0 0] 24) := ⟨_, rfl⟩
  clear hM
  have HM := Lib.hid (more_taggedName b hI hb hu fu hy fy)
  have HK := Lib.hid (fun W => kindOf_taggedName ⟨b, 0, none⟩ W)
  clear hb hI hu hy
  have tName := fun W => (show (Instr.typeAssert (.iface 142 (.pointer (some ⟨b, 0, none⟩))) 38 45 true).run Tryz.prog W = .ok (.tuple #[.pointer none, .bool false]) W from by kernel_rfl)
  have tBuiltinType := fun W => (show (Instr.typeAssert (.iface 142 (.pointer (some ⟨b, 0, none⟩))) 38 53 true).run Tryz.prog W = .ok (.tuple #[.pointer none, .bool false]) W from by kernel_rfl)
  have tOperator := fun W => (show (Instr.typeAssert (.iface 142 (.pointer (some ⟨b, 0, none⟩))) 38 55 true).run Tryz.prog W = .ok (.tuple #[.pointer none, .bool false]) W from by kernel_rfl)
  have tConstructor := fun W => (show (Instr.typeAssert (.iface 142 (.pointer (some ⟨b, 0, none⟩))) 38 59 true).run Tryz.prog W = .ok (.tuple #[.pointer none, .bool false]) W from by kernel_rfl)
  have tDestructor := fun W => (show (Instr.typeAssert (.iface 142 (.pointer (some ⟨b, 0, none⟩))) 38 63 true).run Tryz.prog W = .ok (.tuple #[.pointer none, .bool false]) W from by kernel_rfl)
  have tQualified := fun W => (show (Instr.typeAssert (.iface 142 (.pointer (some ⟨b, 0, none⟩))) 38 66 true).run Tryz.prog W = .ok (.tuple #[.pointer none, .bool false]) W from by kernel_rfl)
  have tTemplate := fun W => (show (Instr.typeAssert (.iface 142 (.pointer (some ⟨b, 0, none⟩))) 38 69 true).run Tryz.prog W = .ok (.tuple #[.pointer none, .bool false]) W from by kernel_rfl)
  have tTyped := fun W => (show (Instr.typeAssert (.iface 142 (.pointer (some ⟨b, 0, none⟩))) 38 74 true).run Tryz.prog W = .ok (.tuple #[.pointer none, .bool false]) W from by kernel_rfl)
  have tFunctionType := fun W => (show (Instr.typeAssert (.iface 142 (.pointer (some ⟨b, 0, none⟩))) 38 77 true).run Tryz.prog W = .ok (.tuple #[.pointer none, .bool false]) W from by kernel_rfl)
  have tPointerType := fun W => (show (Instr.typeAssert (.iface 142 (.pointer (some ⟨b, 0, none⟩))) 38 80 true).run Tryz.prog W = .ok (.tuple #[.pointer none, .bool false]) W from by kernel_rfl)
  have tReferenceType := fun W => (show (Instr.typeAssert (.iface 142 (.pointer (some ⟨b, 0, none⟩))) 38 83 true).run Tryz.prog W = .ok (.tuple #[.pointer none, .bool false]) W from by kernel_rfl)
  have tRvalueReferenceType := fun W => (show (Instr.typeAssert (.iface 142 (.pointer (some ⟨b, 0, none⟩))) 38 85 true).run Tryz.prog W = .ok (.tuple #[.pointer none, .bool false]) W from by kernel_rfl)
  have tComplexType := fun W => (show (Instr.typeAssert (.iface 142 (.pointer (some ⟨b, 0, none⟩))) 38 87 true).run Tryz.prog W = .ok (.tuple #[.pointer none, .bool false]) W from by kernel_rfl)
  have tImaginaryType := fun W => (show (Instr.typeAssert (.iface 142 (.pointer (some ⟨b, 0, none⟩))) 38 89 true).run Tryz.prog W = .ok (.tuple #[.pointer none, .bool false]) W from by kernel_rfl)
  have tTypeWithQualifiers := fun W => (show (Instr.typeAssert (.iface 142 (.pointer (some ⟨b, 0, none⟩))) 38 91 true).run Tryz.prog W = .ok (.tuple #[.pointer none, .bool false]) W from by kernel_rfl)
  have tQualifiers := fun W => (show (Instr.typeAssert (.iface 142 (.pointer (some ⟨b, 0, none⟩))) 38 94 true).run Tryz.prog W = .ok (.tuple #[.pointer none, .bool false]) W from by kernel_rfl)
  have tQualifier := fun W => (show (Instr.typeAssert (.iface 142 (.pointer (some ⟨b, 0, none⟩))) 38 97 true).run Tryz.prog W = .ok (.tuple #[.pointer none, .bool false]) W from by kernel_rfl)
  have tMethodWithQualifiers := fun W => (show (Instr.typeAssert (.iface 142 (.pointer (some ⟨b, 0, none⟩))) 38 100 true).run Tryz.prog W = .ok (.tuple #[.pointer none, .bool false]) W from by kernel_rfl)
  go_enter Tryz.func28, Tryz.ntmps28
  go_wp2_with fail
  rw [← hw1] at BB RR MM ⊢
  refine (HK.out _).mono ?_
  rintro e w2 ⟨rfl, rfl⟩
  clear hw1 HK
  go_wp2_with fail
  refine (HM.out _ MM.out).mono ?_
  rintro e w3 ⟨⟨kv3, rfl, hr3⟩, b3⟩
  obtain ⟨⟨⟨z0, z1, z2, z3⟩, fr⟩, ⟨ka, kn, kc, hkv⟩, X0⟩ := node_fin BB.out RR.out hr3 b3
  subst hkv
  have X := Lib.hid X0
  clear hr3 b3 X0
  go_wp2_with fail
  (try simp only [Exit.inBlock, Exit.then])
  refine bodyPost_ret (by simp [results, Tryz.results28, go_sem, z0, z1, z2, z3]; try rfl) rfl ?_
  exact X.out _ _ _ _

end Go.Proofs.YtnhccgbkalpcnaaGreatDoor
