/- impl.nodeOf kind by kind. -/
import Derived.Test.YtnhccgbkalpcnaaGreatDoorNodeJ
import Derived.Deep.RegionWith
namespace Go.Proofs.YtnhccgbkalpcnaaGreatDoor
open Go.RowKit

set_option maxRecDepth 100000 in
set_option maxHeartbeats 4000000 in
theorem node_functionType {w0 : World} {I : Nat → Prop} (b : Nat) {a : Tree} {u : Value} {l : List Tree} {sv : Value} {kv : List Value} (hI : I b) (hb : w0.heap[b]? = some (.cells #[u, sv, .bool false] 79 (0, 0))) (hu : MkOK w0 I a u) (fu : ∃ T p, u = .iface T p) (hs : SliceOf w0 I sv kv) (hl : MkL w0 I l kv) : MkOK w0 I (.node ⟨#[70, 117, 110, 99, 116, 105, 111, 110, 84, 121, 112, 101]⟩ ⟨#[]⟩ 0 (a :: l)) (.iface 77 (.pointer (some ⟨b, 0, none⟩))) := by
  intro w hM
  have HNUM := Lib.hid (fun W => number_f W)
  have HW := Lib.hid (fun W (h : MS w0 I W) => with_of (u := u) hs hl.max hl.one (.inr fu) h)
  have HN := Lib.hid (fun W (h : MS w0 I W) B sv' h2 => node_ofw (B := B) (sv := sv') ⟨#[70, 117, 110, 99, 116, 105, 111, 110, 84, 121, 112, 101]⟩ ⟨#[]⟩ 0 hu (by obtain ⟨T, p, rfl⟩ := fu; rfl) hl h h2)
  obtain ⟨Tu, pu, rfl⟩ := fu
  obtain ⟨sa, sc, rfl, _, _, _⟩ := hs.lay
  have BB := Lib.hid (box_below w (.cells #[.string ⟨#[]⟩, .string ⟨#[]⟩, .int .i64 0, .slice none 0 0] 24))
  have RR := Lib.hid (show (w.alloc (.cells #[.string ⟨#[]⟩, .string ⟨#[]⟩, .int .i64 0, .slice none 0 0] 24)).heap[w.heap.size]? = some (.cells #[.string ⟨#[]⟩, .string ⟨#[]⟩, .int .i64 0, .slice none 0 0] 24 (0, 0)) from heap_alloc_new w _)
  have MM := Lib.hid (hM.on (box_below w (.cells #[.string ⟨#[]⟩, .string ⟨#[]⟩, .int .i64 0, .slice none 0 0] 24)))
  obtain ⟨w1, hw1⟩ : ∃ w1, w1 = w.alloc (.cells #[.string ⟨#[]⟩, .string ⟨#[]⟩, .int .i64 0, .slice none 0 0] 24) := ⟨_, rfl⟩
  clear hM
  have HC := Lib.hid (show ∀ W, MS w0 I W → W.heap[b]? = some (.cells #[.iface Tu pu, .slice sa kv.length sc, .bool false] 79 (0, 0)) from fun W h => (h.same b hI).trans hb)
  clear hb hI hu hs hl
  have tName := fun W => (show (Instr.typeAssert (.iface 77 (.pointer (some ⟨b, 0, none⟩))) 38 45 true).run Tryz.prog W = .ok (.tuple #[.pointer none, .bool false]) W from by kernel_rfl)
  have tBuiltinType := fun W => (show (Instr.typeAssert (.iface 77 (.pointer (some ⟨b, 0, none⟩))) 38 53 true).run Tryz.prog W = .ok (.tuple #[.pointer none, .bool false]) W from by kernel_rfl)
  have tOperator := fun W => (show (Instr.typeAssert (.iface 77 (.pointer (some ⟨b, 0, none⟩))) 38 55 true).run Tryz.prog W = .ok (.tuple #[.pointer none, .bool false]) W from by kernel_rfl)
  have tConstructor := fun W => (show (Instr.typeAssert (.iface 77 (.pointer (some ⟨b, 0, none⟩))) 38 59 true).run Tryz.prog W = .ok (.tuple #[.pointer none, .bool false]) W from by kernel_rfl)
  have tDestructor := fun W => (show (Instr.typeAssert (.iface 77 (.pointer (some ⟨b, 0, none⟩))) 38 63 true).run Tryz.prog W = .ok (.tuple #[.pointer none, .bool false]) W from by kernel_rfl)
  have tQualified := fun W => (show (Instr.typeAssert (.iface 77 (.pointer (some ⟨b, 0, none⟩))) 38 66 true).run Tryz.prog W = .ok (.tuple #[.pointer none, .bool false]) W from by kernel_rfl)
  have tTemplate := fun W => (show (Instr.typeAssert (.iface 77 (.pointer (some ⟨b, 0, none⟩))) 38 69 true).run Tryz.prog W = .ok (.tuple #[.pointer none, .bool false]) W from by kernel_rfl)
  have tTyped := fun W => (show (Instr.typeAssert (.iface 77 (.pointer (some ⟨b, 0, none⟩))) 38 74 true).run Tryz.prog W = .ok (.tuple #[.pointer none, .bool false]) W from by kernel_rfl)
  have tFunctionType := fun W => (show (Instr.typeAssert (.iface 77 (.pointer (some ⟨b, 0, none⟩))) 38 77 true).run Tryz.prog W = .ok (.tuple #[.pointer (some ⟨b, 0, none⟩), .bool true]) W from by kernel_rfl)
  have HK := Lib.hid (fun W => kindOf_functionType ⟨b, 0, none⟩ W)
  rw [← hw1] at BB RR MM
  have CE := Lib.hid (HC.out _ MM.out)
  go_enter Tryz.func28, Tryz.ntmps28
  go_wp2_with fail
  rw [← hw1]
  refine (HK.out _).mono ?_
  rintro e w2 ⟨rfl, rfl⟩
  clear hw1 HK
  obtain ⟨c0, c1, c2⟩ := cells3 CE.out
  clear CE
  go_wp2_with fail
  have MD := Lib.hid (show MS w0 I (World.drew _) from ⟨MM.out.same, MM.out.lt⟩)
  have BD := Lib.hid (BB.out.drew)
  have RD := Lib.hid (show (World.drew _).heap[w.heap.size]? = _ from RR.out)
  go_region_with (first
    | (go_at_call 46; refine (HNUM.out _).mono ?_; rintro e w4 ⟨rfl, rfl⟩)
    | (go_at_call 47; refine (HW.out _ MD.out).mono ?_; rintro e w2 ⟨⟨ra, rn, rc, rfl, h2⟩, b2⟩; have H2 := Lib.hid h2; have B2 := Lib.hid (BD.out.trans (b2.mono BD.out.size)); have R2 := Lib.hid (show w2.heap[w.heap.size]? = _ from (b2.block _ (lt_of_block RD.out)).trans RD.out); have M2 := Lib.hid (MD.out.on b2); clear h2 b2; obtain ⟨d0, d1, d2⟩ := cells3 (HC.out _ M2.out))
    | (go_at_call 45; refine (HN.out _ M2.out _ _ H2.out).mono ?_; rintro e w3 ⟨⟨kv3, rfl, hr3⟩, b3⟩; obtain ⟨⟨⟨z0, z1, z2, z3⟩, fr⟩, ⟨ka, kn, kc, hkv⟩, X0⟩ := node_fin B2.out R2.out hr3 b3; subst hkv; have X := Lib.hid X0; clear hr3 b3 X0)
    )
  all_goals
    go_wp2_with fail
    (try simp only [Exit.inBlock, Exit.then])
    refine bodyPost_ret (by simp [results, Tryz.results28, go_sem, z0, z1, z2, z3]; try rfl) rfl ?_
    exact X.out _ _ _ _

set_option maxRecDepth 100000 in
set_option maxHeartbeats 4000000 in
theorem node_functionNil {w0 : World} {I : Nat → Prop} (b : Nat) {l : List Tree} {sv : Value} {kv : List Value} (hI : I b) (hb : w0.heap[b]? = some (.cells #[.nilIface, sv, .bool false] 79 (0, 0))) (hs : SliceOf w0 I sv kv) (hl : MkL w0 I l kv) : MkOK w0 I (.node ⟨#[70, 117, 110, 99, 116, 105, 111, 110, 84, 121, 112, 101]⟩ ⟨#[]⟩ 0 (nilT :: l)) (.iface 77 (.pointer (some ⟨b, 0, none⟩))) := by
  intro w hM
  have HNUM := Lib.hid (fun W => number_f W)
  have HW := Lib.hid (fun W (h : MS w0 I W) => with_of (u := .nilIface) hs hl.max hl.one (.inl rfl) h)
  have HN := Lib.hid (fun W (h : MS w0 I W) B sv' h2 => node_ofw (B := B) (sv := sv') ⟨#[70, 117, 110, 99, 116, 105, 111, 110, 84, 121, 112, 101]⟩ ⟨#[]⟩ 0 (node_nil w0 I) rfl hl h h2)
  obtain ⟨sa, sc, rfl, _, _, _⟩ := hs.lay
  have BB := Lib.hid (box_below w (.cells #[.string ⟨#[]⟩, .string ⟨#[]⟩, .int .i64 0, .slice none 0 0] 24))
  have RR := Lib.hid (show (w.alloc (.cells #[.string ⟨#[]⟩, .string ⟨#[]⟩, .int .i64 0, .slice none 0 0] 24)).heap[w.heap.size]? = some (.cells #[.string ⟨#[]⟩, .string ⟨#[]⟩, .int .i64 0, .slice none 0 0] 24 (0, 0)) from heap_alloc_new w _)
  have MM := Lib.hid (hM.on (box_below w (.cells #[.string ⟨#[]⟩, .string ⟨#[]⟩, .int .i64 0, .slice none 0 0] 24)))
  obtain ⟨w1, hw1⟩ : ∃ w1, w1 = w.alloc (.cells #[.string ⟨#[]⟩, .string ⟨#[]⟩, .int .i64 0, .slice none 0 0] 24) := ⟨_, rfl⟩
  clear hM
  have HC := Lib.hid (show ∀ W, MS w0 I W → W.heap[b]? = some (.cells #[.nilIface, .slice sa kv.length sc, .bool false] 79 (0, 0)) from fun W h => (h.same b hI).trans hb)
  clear hb hI hs hl
  have tName := fun W => (show (Instr.typeAssert (.iface 77 (.pointer (some ⟨b, 0, none⟩))) 38 45 true).run Tryz.prog W = .ok (.tuple #[.pointer none, .bool false]) W from by kernel_rfl)
  have tBuiltinType := fun W => (show (Instr.typeAssert (.iface 77 (.pointer (some ⟨b, 0, none⟩))) 38 53 true).run Tryz.prog W = .ok (.tuple #[.pointer none, .bool false]) W from by kernel_rfl)
  have tOperator := fun W => (show (Instr.typeAssert (.iface 77 (.pointer (some ⟨b, 0, none⟩))) 38 55 true).run Tryz.prog W = .ok (.tuple #[.pointer none, .bool false]) W from by kernel_rfl)
  have tConstructor := fun W => (show (Instr.typeAssert (.iface 77 (.pointer (some ⟨b, 0, none⟩))) 38 59 true).run Tryz.prog W = .ok (.tuple #[.pointer none, .bool false]) W from by kernel_rfl)
  have tDestructor := fun W => (show (Instr.typeAssert (.iface 77 (.pointer (some ⟨b, 0, none⟩))) 38 63 true).run Tryz.prog W = .ok (.tuple #[.pointer none, .bool false]) W from by kernel_rfl)
  have tQualified := fun W => (show (Instr.typeAssert (.iface 77 (.pointer (some ⟨b, 0, none⟩))) 38 66 true).run Tryz.prog W = .ok (.tuple #[.pointer none, .bool false]) W from by kernel_rfl)
  have tTemplate := fun W => (show (Instr.typeAssert (.iface 77 (.pointer (some ⟨b, 0, none⟩))) 38 69 true).run Tryz.prog W = .ok (.tuple #[.pointer none, .bool false]) W from by kernel_rfl)
  have tTyped := fun W => (show (Instr.typeAssert (.iface 77 (.pointer (some ⟨b, 0, none⟩))) 38 74 true).run Tryz.prog W = .ok (.tuple #[.pointer none, .bool false]) W from by kernel_rfl)
  have tFunctionType := fun W => (show (Instr.typeAssert (.iface 77 (.pointer (some ⟨b, 0, none⟩))) 38 77 true).run Tryz.prog W = .ok (.tuple #[.pointer (some ⟨b, 0, none⟩), .bool true]) W from by kernel_rfl)
  have HK := Lib.hid (fun W => kindOf_functionType ⟨b, 0, none⟩ W)
  rw [← hw1] at BB RR MM
  have CE := Lib.hid (HC.out _ MM.out)
  go_enter Tryz.func28, Tryz.ntmps28
  go_wp2_with fail
  rw [← hw1]
  refine (HK.out _).mono ?_
  rintro e w2 ⟨rfl, rfl⟩
  clear hw1 HK
  obtain ⟨c0, c1, c2⟩ := cells3 CE.out
  clear CE
  go_wp2_with fail
  have MD := Lib.hid (show MS w0 I (World.drew _) from ⟨MM.out.same, MM.out.lt⟩)
  have BD := Lib.hid (BB.out.drew)
  have RD := Lib.hid (show (World.drew _).heap[w.heap.size]? = _ from RR.out)
  go_region_with (first
    | (go_at_call 46; refine (HNUM.out _).mono ?_; rintro e w4 ⟨rfl, rfl⟩)
    | (go_at_call 47; refine (HW.out _ MD.out).mono ?_; rintro e w2 ⟨⟨ra, rn, rc, rfl, h2⟩, b2⟩; have H2 := Lib.hid h2; have B2 := Lib.hid (BD.out.trans (b2.mono BD.out.size)); have R2 := Lib.hid (show w2.heap[w.heap.size]? = _ from (b2.block _ (lt_of_block RD.out)).trans RD.out); have M2 := Lib.hid (MD.out.on b2); clear h2 b2; obtain ⟨d0, d1, d2⟩ := cells3 (HC.out _ M2.out))
    | (go_at_call 45; refine (HN.out _ M2.out _ _ H2.out).mono ?_; rintro e w3 ⟨⟨kv3, rfl, hr3⟩, b3⟩; obtain ⟨⟨⟨z0, z1, z2, z3⟩, fr⟩, ⟨ka, kn, kc, hkv⟩, X0⟩ := node_fin B2.out R2.out hr3 b3; subst hkv; have X := Lib.hid X0; clear hr3 b3 X0)
    )
  all_goals
    go_wp2_with fail
    (try simp only [Exit.inBlock, Exit.then])
    refine bodyPost_ret (by simp [results, Tryz.results28, go_sem, z0, z1, z2, z3]; try rfl) rfl ?_
    exact X.out _ _ _ _

end Go.Proofs.YtnhccgbkalpcnaaGreatDoor
