/- impl.nodeOf kind by kind. -/
import Derived.Test.YtnhccgbkalpcnaaGreatDoorNodeJ
import Derived.Deep.RegionWith
namespace Go.Proofs.YtnhccgbkalpcnaaGreatDoor
open Go.RowKit

set_option maxRecDepth 100000 in
set_option maxHeartbeats 4000000 in
theorem node_methodWithQualifiers {w0 : World} {I : Nat → Prop} (b : Nat) {s : ByteArray} {a : Tree} {u : Value} {q : Tree} {y : Value} (hI : I b) (hb : w0.heap[b]? = some (.cells #[u, y, .string s] 102 (0, 0))) (hu : MkOK w0 I a u) (fu : ∃ T p, u = .iface T p) (hy : MkOK w0 I q y) (fy : ∃ T p, y = .iface T p) : MkOK w0 I (.node ⟨#[77, 101, 116, 104, 111, 100, 87, 105, 116, 104, 81, 117, 97, 108, 105, 102, 105, 101, 114, 115]⟩ s 0 [a, q]) (.iface 100 (.pointer (some ⟨b, 0, none⟩))) := by
  intro w hM
  have HN := Lib.hid (fun W (h : MS w0 I W) => node_of2 ⟨#[77, 101, 116, 104, 111, 100, 87, 105, 116, 104, 81, 117, 97, 108, 105, 102, 105, 101, 114, 115]⟩ s 0 hu hy (by obtain ⟨T, p, rfl⟩ := fu; rfl) (by obtain ⟨T, p, rfl⟩ := fy; rfl) h)
  have HB2 := Lib.hid (fun W (h : Below w.heap.size w W) (r : W.heap[w.heap.size]? = some (.cells #[.string ⟨#[]⟩, .string ⟨#[]⟩, .int .i64 0, .slice none 0 0] 24 (0, 0))) => And.intro (h.trans ((box_below W (.cells #[u, y] 38)).mono h.size)) (show (W.alloc (.cells #[u, y] 38)).heap[w.heap.size]? = _ from (Below.heap_alloc _ _ _ (lt_of_block r)).trans r))
  obtain ⟨Tu, pu, rfl⟩ := fu
  obtain ⟨Ty, py, rfl⟩ := fy
  have BB := Lib.hid (box_below w (.cells #[.string ⟨#[]⟩, .string ⟨#[]⟩, .int .i64 0, .slice none 0 0] 24))
  have RR := Lib.hid (show (w.alloc (.cells #[.string ⟨#[]⟩, .string ⟨#[]⟩, .int .i64 0, .slice none 0 0] 24)).heap[w.heap.size]? = some (.cells #[.string ⟨#[]⟩, .string ⟨#[]⟩, .int .i64 0, .slice none 0 0] 24 (0, 0)) from heap_alloc_new w _)
  have MM := Lib.hid (hM.on (box_below w (.cells #[.string ⟨#[]⟩, .string ⟨#[]⟩, .int .i64 0, .slice none 0 0] 24)))
  obtain ⟨w1, hw1⟩ : ∃ w1, w1 = w.alloc (.cells #[.string ⟨#[]⟩, .string ⟨#[]⟩, .int .i64 0, .slice none 0 0] 24) := ⟨_, rfl⟩
  clear hM
  have HC := Lib.hid (show ∀ W, MS w0 I W → W.heap[b]? = some (.cells #[.iface Tu pu, .iface Ty py, .string s] 102 (0, 0)) from fun W h => (h.same b hI).trans hb)
  clear hb hI hu hy
  have tName := fun W => (show (Instr.typeAssert (.iface 100 (.pointer (some ⟨b, 0, none⟩))) 38 45 true).run Tryz.prog W = .ok (.tuple #[.pointer none, .bool false]) W from by kernel_rfl)
  have tBuiltinType := fun W => (show (Instr.typeAssert (.iface 100 (.pointer (some ⟨b, 0, none⟩))) 38 53 true).run Tryz.prog W = .ok (.tuple #[.pointer none, .bool false]) W from by kernel_rfl)
  have tOperator := fun W => (show (Instr.typeAssert (.iface 100 (.pointer (some ⟨b, 0, none⟩))) 38 55 true).run Tryz.prog W = .ok (.tuple #[.pointer none, .bool false]) W from by kernel_rfl)
  have tConstructor := fun W => (show (Instr.typeAssert (.iface 100 (.pointer (some ⟨b, 0, none⟩))) 38 59 true).run Tryz.prog W = .ok (.tuple #[.pointer none, .bool false]) W from by kernel_rfl)
  have tDestructor := fun W => (show (Instr.typeAssert (.iface 100 (.pointer (some ⟨b, 0, none⟩))) 38 63 true).run Tryz.prog W = .ok (.tuple #[.pointer none, .bool false]) W from by kernel_rfl)
  have tQualified := fun W => (show (Instr.typeAssert (.iface 100 (.pointer (some ⟨b, 0, none⟩))) 38 66 true).run Tryz.prog W = .ok (.tuple #[.pointer none, .bool false]) W from by kernel_rfl)
  have tTemplate := fun W => (show (Instr.typeAssert (.iface 100 (.pointer (some ⟨b, 0, none⟩))) 38 69 true).run Tryz.prog W = .ok (.tuple #[.pointer none, .bool false]) W from by kernel_rfl)
  have tTyped := fun W => (show (Instr.typeAssert (.iface 100 (.pointer (some ⟨b, 0, none⟩))) 38 74 true).run Tryz.prog W = .ok (.tuple #[.pointer none, .bool false]) W from by kernel_rfl)
  have tFunctionType := fun W => (show (Instr.typeAssert (.iface 100 (.pointer (some ⟨b, 0, none⟩))) 38 77 true).run Tryz.prog W = .ok (.tuple #[.pointer none, .bool false]) W from by kernel_rfl)
  have tPointerType := fun W => (show (Instr.typeAssert (.iface 100 (.pointer (some ⟨b, 0, none⟩))) 38 80 true).run Tryz.prog W = .ok (.tuple #[.pointer none, .bool false]) W from by kernel_rfl)
  have tReferenceType := fun W => (show (Instr.typeAssert (.iface 100 (.pointer (some ⟨b, 0, none⟩))) 38 83 true).run Tryz.prog W = .ok (.tuple #[.pointer none, .bool false]) W from by kernel_rfl)
  have tRvalueReferenceType := fun W => (show (Instr.typeAssert (.iface 100 (.pointer (some ⟨b, 0, none⟩))) 38 85 true).run Tryz.prog W = .ok (.tuple #[.pointer none, .bool false]) W from by kernel_rfl)
  have tComplexType := fun W => (show (Instr.typeAssert (.iface 100 (.pointer (some ⟨b, 0, none⟩))) 38 87 true).run Tryz.prog W = .ok (.tuple #[.pointer none, .bool false]) W from by kernel_rfl)
  have tImaginaryType := fun W => (show (Instr.typeAssert (.iface 100 (.pointer (some ⟨b, 0, none⟩))) 38 89 true).run Tryz.prog W = .ok (.tuple #[.pointer none, .bool false]) W from by kernel_rfl)
  have tTypeWithQualifiers := fun W => (show (Instr.typeAssert (.iface 100 (.pointer (some ⟨b, 0, none⟩))) 38 91 true).run Tryz.prog W = .ok (.tuple #[.pointer none, .bool false]) W from by kernel_rfl)
  have tQualifiers := fun W => (show (Instr.typeAssert (.iface 100 (.pointer (some ⟨b, 0, none⟩))) 38 94 true).run Tryz.prog W = .ok (.tuple #[.pointer none, .bool false]) W from by kernel_rfl)
  have tQualifier := fun W => (show (Instr.typeAssert (.iface 100 (.pointer (some ⟨b, 0, none⟩))) 38 97 true).run Tryz.prog W = .ok (.tuple #[.pointer none, .bool false]) W from by kernel_rfl)
  have tMethodWithQualifiers := fun W => (show (Instr.typeAssert (.iface 100 (.pointer (some ⟨b, 0, none⟩))) 38 100 true).run Tryz.prog W = .ok (.tuple #[.pointer (some ⟨b, 0, none⟩), .bool true]) W from by kernel_rfl)
  have HK := Lib.hid (fun W => kindOf_methodWithQualifiers ⟨b, 0, none⟩ W)
  rw [← hw1] at BB RR MM
  have CE := Lib.hid (HC.out _ MM.out)
  go_enter Tryz.func28, Tryz.ntmps28
  go_wp2_with fail
  rw [← hw1]
  refine (HK.out _).mono ?_
  rintro e w2 ⟨rfl, rfl⟩
  clear hw1 HK
  obtain ⟨c0, c1, c2⟩ := cells3 CE.out
  clear CE
  go_wp2_with fail
  have MD := Lib.hid (show MS w0 I (World.drew _) from ⟨MM.out.same, MM.out.lt⟩)
  have BD := Lib.hid (BB.out.drew)
  have RD := Lib.hid (show (World.drew _).heap[w.heap.size]? = _ from RR.out)
  obtain ⟨d0, d1, d2⟩ := cells3 (HC.out _ (MM.out.on (box_below _ (.cells #[.iface Tu pu, .iface Ty py] 38))))
  go_region_with (first
    | (go_at_call 45; refine (HN.out _ MD.out).mono ?_; rintro e w3 ⟨⟨kv3, rfl, hr3⟩, b3⟩; obtain ⟨⟨⟨z0, z1, z2, z3⟩, fr⟩, ⟨ka, kn, kc, hkv⟩, X0⟩ := node_fin (HB2.out _ BD.out RD.out).1 (HB2.out _ BD.out RD.out).2 hr3 b3; subst hkv; have X := Lib.hid X0; clear hr3 b3 X0)
    )
  all_goals
    go_wp2_with fail
    (try simp only [Exit.inBlock, Exit.then])
    refine bodyPost_ret (by simp [results, Tryz.results28, go_sem, z0, z1, z2, z3]; try rfl) rfl ?_
    exact X.out _ _ _ _

set_option maxRecDepth 100000 in
set_option maxHeartbeats 4000000 in
theorem node_methodNil {w0 : World} {I : Nat → Prop} (b : Nat) {s : ByteArray} {a : Tree} {u : Value} (hI : I b) (hb : w0.heap[b]? = some (.cells #[u, .nilIface, .string s] 102 (0, 0))) (hu : MkOK w0 I a u) (fu : ∃ T p, u = .iface T p) : MkOK w0 I (.node ⟨#[77, 101, 116, 104, 111, 100, 87, 105, 116, 104, 81, 117, 97, 108, 105, 102, 105, 101, 114, 115]⟩ s 0 [a, nilT]) (.iface 100 (.pointer (some ⟨b, 0, none⟩))) := by
  intro w hM
  have HN := Lib.hid (fun W (h : MS w0 I W) => node_of2 ⟨#[77, 101, 116, 104, 111, 100, 87, 105, 116, 104, 81, 117, 97, 108, 105, 102, 105, 101, 114, 115]⟩ s 0 hu (node_nil w0 I) (by obtain ⟨T, p, rfl⟩ := fu; rfl) rfl h)
  have HB2 := Lib.hid (fun W (h : Below w.heap.size w W) (r : W.heap[w.heap.size]? = some (.cells #[.string ⟨#[]⟩, .string ⟨#[]⟩, .int .i64 0, .slice none 0 0] 24 (0, 0))) => And.intro (h.trans ((box_below W (.cells #[u, .nilIface] 38)).mono h.size)) (show (W.alloc (.cells #[u, .nilIface] 38)).heap[w.heap.size]? = _ from (Below.heap_alloc _ _ _ (lt_of_block r)).trans r))
  obtain ⟨Tu, pu, rfl⟩ := fu
  have BB := Lib.hid (box_below w (.cells #[.string ⟨#[]⟩, .string ⟨#[]⟩, .int .i64 0, .slice none 0 0] 24))
  have RR := Lib.hid (show (w.alloc (.cells #[.string ⟨#[]⟩, .string ⟨#[]⟩, .int .i64 0, .slice none 0 0] 24)).heap[w.heap.size]? = some (.cells #[.string ⟨#[]⟩, .string ⟨#[]⟩, .int .i64 0, .slice none 0 0] 24 (0, 0)) from heap_alloc_new w _)
  have MM := Lib.hid (hM.on (box_below w (.cells #[.string ⟨#[]⟩, .string ⟨#[]⟩, .int .i64 0, .slice none 0 0] 24)))
  obtain ⟨w1, hw1⟩ : ∃ w1, w1 = w.alloc (.cells #[.string ⟨#[]⟩, .string ⟨#[]⟩, .int .i64 0, .slice none 0 0] 24) := ⟨_, rfl⟩
  clear hM
  have HC := Lib.hid (show ∀ W, MS w0 I W → W.heap[b]? = some (.cells #[.iface Tu pu, .nilIface, .string s] 102 (0, 0)) from fun W h => (h.same b hI).trans hb)
  clear hb hI hu
  have tName := fun W => (show (Instr.typeAssert (.iface 100 (.pointer (some ⟨b, 0, none⟩))) 38 45 true).run Tryz.prog W = .ok (.tuple #[.pointer none, .bool false]) W from by kernel_rfl)
  have tBuiltinType := fun W => (show (Instr.typeAssert (.iface 100 (.pointer (some ⟨b, 0, none⟩))) 38 53 true).run Tryz.prog W = .ok (.tuple #[.pointer none, .bool false]) W from by kernel_rfl)
  have tOperator := fun W => (show (Instr.typeAssert (.iface 100 (.pointer (some ⟨b, 0, none⟩))) 38 55 true).run Tryz.prog W = .ok (.tuple #[.pointer none, .bool false]) W from by kernel_rfl)
  have tConstructor := fun W => (show (Instr.typeAssert (.iface 100 (.pointer (some ⟨b, 0, none⟩))) 38 59 true).run Tryz.prog W = .ok (.tuple #[.pointer none, .bool false]) W from by kernel_rfl)
  have tDestructor := fun W => (show (Instr.typeAssert (.iface 100 (.pointer (some ⟨b, 0, none⟩))) 38 63 true).run Tryz.prog W = .ok (.tuple #[.pointer none, .bool false]) W from by kernel_rfl)
  have tQualified := fun W => (show (Instr.typeAssert (.iface 100 (.pointer (some ⟨b, 0, none⟩))) 38 66 true).run Tryz.prog W = .ok (.tuple #[.pointer none, .bool false]) W from by kernel_rfl)
  have tTemplate := fun W => (show (Instr.typeAssert (.iface 100 (.pointer (some ⟨b, 0, none⟩))) 38 69 true).run Tryz.prog W = .ok (.tuple #[.pointer none, .bool false]) W from by kernel_rfl)
  have tTyped := fun W => (show (Instr.typeAssert (.iface 100 (.pointer (some ⟨b, 0, none⟩))) 38 74 true).run Tryz.prog W = .ok (.tuple #[.pointer none, .bool false]) W from by kernel_rfl)
  have tFunctionType := fun W => (show (Instr.typeAssert (.iface 100 (.pointer (some ⟨b, 0, none⟩))) 38 77 true).run Tryz.prog W = .ok (.tuple #[.pointer none, .bool false]) W from by kernel_rfl)
  have tPointerType := fun W => (show (Instr.typeAssert (.iface 100 (.pointer (some ⟨b, 0, none⟩))) 38 80 true).run Tryz.prog W = .ok (.tuple #[.pointer none, .bool false]) W from by kernel_rfl)
  have tReferenceType := fun W => (show (Instr.typeAssert (.iface 100 (.pointer (some ⟨b, 0, none⟩))) 38 83 true).run Tryz.prog W = .ok (.tuple #[.pointer none, .bool false]) W from by kernel_rfl)
  have tRvalueReferenceType := fun W => (show (Instr.typeAssert (.iface 100 (.pointer (some ⟨b, 0, none⟩))) 38 85 true).run Tryz.prog W = .ok (.tuple #[.pointer none, .bool false]) W from by kernel_rfl)
  have tComplexType := fun W => (show (Instr.typeAssert (.iface 100 (.pointer (some ⟨b, 0, none⟩))) 38 87 true).run Tryz.prog W = .ok (.tuple #[.pointer none, .bool false]) W from by kernel_rfl)
  have tImaginaryType := fun W => (show (Instr.typeAssert (.iface 100 (.pointer (some ⟨b, 0, none⟩))) 38 89 true).run Tryz.prog W = .ok (.tuple #[.pointer none, .bool false]) W from by kernel_rfl)
  have tTypeWithQualifiers := fun W => (show (Instr.typeAssert (.iface 100 (.pointer (some ⟨b, 0, none⟩))) 38 91 true).run Tryz.prog W = .ok (.tuple #[.pointer none, .bool false]) W from by kernel_rfl)
  have tQualifiers := fun W => (show (Instr.typeAssert (.iface 100 (.pointer (some ⟨b, 0, none⟩))) 38 94 true).run Tryz.prog W = .ok (.tuple #[.pointer none, .bool false]) W from by kernel_rfl)
  have tQualifier := fun W => (show (Instr.typeAssert (.iface 100 (.pointer (some ⟨b, 0, none⟩))) 38 97 true).run Tryz.prog W = .ok (.tuple #[.pointer none, .bool false]) W from by kernel_rfl)
  have tMethodWithQualifiers := fun W => (show (Instr.typeAssert (.iface 100 (.pointer (some ⟨b, 0, none⟩))) 38 100 true).run Tryz.prog W = .ok (.tuple #[.pointer (some ⟨b, 0, none⟩), .bool true]) W from by kernel_rfl)
  have HK := Lib.hid (fun W => kindOf_methodWithQualifiers ⟨b, 0, none⟩ W)
  rw [← hw1] at BB RR MM
  have CE := Lib.hid (HC.out _ MM.out)
  go_enter Tryz.func28, Tryz.ntmps28
  go_wp2_with fail
  rw [← hw1]
  refine (HK.out _).mono ?_
  rintro e w2 ⟨rfl, rfl⟩
  clear hw1 HK
  obtain ⟨c0, c1, c2⟩ := cells3 CE.out
  clear CE
  go_wp2_with fail
  have MD := Lib.hid (show MS w0 I (World.drew _) from ⟨MM.out.same, MM.out.lt⟩)
  have BD := Lib.hid (BB.out.drew)
  have RD := Lib.hid (show (World.drew _).heap[w.heap.size]? = _ from RR.out)
  obtain ⟨d0, d1, d2⟩ := cells3 (HC.out _ (MM.out.on (box_below _ (.cells #[.iface Tu pu, .nilIface] 38))))
  go_region_with (first
    | (go_at_call 45; refine (HN.out _ MD.out).mono ?_; rintro e w3 ⟨⟨kv3, rfl, hr3⟩, b3⟩; obtain ⟨⟨⟨z0, z1, z2, z3⟩, fr⟩, ⟨ka, kn, kc, hkv⟩, X0⟩ := node_fin (HB2.out _ BD.out RD.out).1 (HB2.out _ BD.out RD.out).2 hr3 b3; subst hkv; have X := Lib.hid X0; clear hr3 b3 X0)
    )
  all_goals
    go_wp2_with fail
    (try simp only [Exit.inBlock, Exit.then])
    refine bodyPost_ret (by simp [results, Tryz.results28, go_sem, z0, z1, z2, z3]; try rfl) rfl ?_
    exact X.out _ _ _ _

end Go.Proofs.YtnhccgbkalpcnaaGreatDoor
