/- PtrMem.print, Typed.print; the calls that print a function. -/
import Derived.Test.YtcobcgkeojeagaaGreatFunc
namespace Go.Proofs.YtcobcgkeojeagaaGreat
open Go.RowKit

set_option maxRecDepth 100000 in
set_option maxHeartbeats 2000000 in
/-- a pointer to a member that is printed behind it -/
theorem body_mem_else {b d q : Nat} {w0 : World} {c x : Value} {o1 oc : List UInt8} (hq : q < b) (hc : w0.heap[q]? = some (Obj.cells #[c, x] 43 (0, 0)))
    (hx : Prints2 b w0 d x [.iface 41 (.pointer (some ⟨q, 0, none⟩))] [.iface 41 (.pointer (some ⟨q, 0, none⟩))] AnyLast o1) (bx : blkOf x < q) (hl1 : ∀ l, lastOf l o1 ≠ 40)
    (hcl : Prints AnyInner b w0 d c oc) (bc : blkOf c < q) :
    Body2 b w0 d q 58 [] [] AnyLast (o1 ++ ([32] ++ oc ++ [58, 58, 42])) := by
  intro w sc last text pr hs hp _ h0 h1 hd hpr hlen
  have c1 : w.cell? ⟨q, 1, none⟩ = some x := cell_at ((hs q hq).trans hc) rfl
  obtain ⟨iv, ad, buf, pv, hp⟩ := hp
  rw [List.length_append] at hlen
  have hbl := lt_of_block hp.block
  obtain ⟨iv2, w2, hrun, p2, k2, d8, f8, g2, n2, hiv2⟩ := inner_push hp (by simp) (.iface 41 (.pointer (some ⟨q, 0, none⟩))) rfl
  simp only [List.length_nil, Nat.zero_add] at hiv2
  have c8 := hp.cells.2.2.2.2.2.2.2.2.1
  have HR := Lib.hid hrun
  have hs2 := k2.same hs
  have hpr2 : ∀ u ∈ pr, NodeAt b (w2.setCell ⟨b, 8, none⟩ iv2) u ∧ q ≤ blkOf u := fun u hu => ⟨(hpr u hu).1.same (fun i hi => k2.low i hi), (hpr u hu).2⟩
  have PX := Lib.hid (hx.call _ sc last text pr hs2 ⟨_, _, _, _, p2⟩ trivial h0 h1 hd (fun u hu => ⟨(hpr2 u hu).1, Nat.lt_of_lt_of_le bx (hpr2 u hu).2⟩) (by omega))
  have q1 : (w2.setCell ⟨b, 8, none⟩ iv2).cell? ⟨q, 1, none⟩ = some x := cell_at ((hs2 q hq).trans hc) rfl
  have HH := Lib.hid (And.intro hs2 (And.intro hpr2 (And.intro k2 (mem_inner_else (m := q) (inn := []) hq hc hcl bc))))
  obtain ⟨pa, pc, hivl, _⟩ := (SliceOf.owned (I := fun _ => True) hp.ivOwn (fun _ _ _ => trivial)).lay
  obtain ⟨Tx, fx, qx, _, _, _, hxv, _⟩ := hx
  subst hxv
  subst hivl
  subst hiv2
  have HL := Lib.hid (hl1 last)
  clear hp p2 k2 hs hs2 hpr hpr2 hrun hc hcl hl1
  go_enter Tryz.func58, Tryz.ntmps58
  go_wp2_with (at_builtin; refine wpList_append_run rfl _ _ _ _ rfl _ _ _ _ rfl rfl HR.out ?_)
  refine (PX.out).mono ?_
  rintro e w3 ⟨rfl, h3, k3⟩
  obtain ⟨hs2, hpr2, k2, hm⟩ := HH.out
  obtain ⟨⟨a8, n8, c8⟩, _⟩ := PI.cell8 h3
  have O4 := Lib.hid (printOneInner_any (inn := []) innerOf_mem hm none w3 sc _ _ pr (k3.same hs2) h3 HL.out hd (by simp) (fun u hu => ⟨(hpr2 u hu).1.same (fun i hi => k3.low i hi), (hpr2 u hu).2⟩) (by rw [List.length_append]; omega))
  have K3 := Lib.hid (k2.trans k3)
  have hd1 : decide ((0 : Int) < 1) = true := by decide
  simp only [List.length_append, List.length_cons, List.length_nil, Nat.zero_add] at c8
  clear hs2 hpr2 k2 hm h3 k3 HH PX HR d8 f8 q1
  go_wp2_with fail
  refine (O4.out).mono ?_
  rintro e w4 ⟨rfl, h4, k4⟩
  have h5 : PI b sc (lastOf last (o1 ++ ([32] ++ oc ++ [58, 58, 42]))) (text ++ (o1 ++ ([32] ++ oc ++ [58, 58, 42]))) [] pr w4 := by
    rw [lastOf_append] at h4
    rw [← List.append_assoc text]
    exact h4
  have X := Lib.hid (And.intro h5 (K3.out.trans k4))
  clear h4 k4 h5
  go_wp2_with fail
  go_end0
  exact ⟨rfl, X.out⟩

set_option maxRecDepth 100000 in
set_option maxHeartbeats 2000000 in
/-- a pointer to a member that prints it -/
theorem body_mem_in {b d q : Nat} {w0 : World} {c x : Value} {o1 : List UInt8} (hq : q < b) (hc : w0.heap[q]? = some (Obj.cells #[c, x] 43 (0, 0)))
    (hx : Prints2 b w0 d x [.iface 41 (.pointer (some ⟨q, 0, none⟩))] [] AnyLast o1) (bx : blkOf x < q) :
    Body2 b w0 d q 58 [] [] AnyLast o1 := by
  intro w sc last text pr hs hp _ h0 h1 hd hpr hlen
  have c1 : w.cell? ⟨q, 1, none⟩ = some x := cell_at ((hs q hq).trans hc) rfl
  obtain ⟨iv, ad, buf, pv, hp⟩ := hp
  have hbl := lt_of_block hp.block
  obtain ⟨iv2, w2, hrun, p2, k2, d8, f8, g2, n2, hiv2⟩ := inner_push hp (by simp) (.iface 41 (.pointer (some ⟨q, 0, none⟩))) rfl
  simp only [List.length_nil, Nat.zero_add] at hiv2
  have c8 := hp.cells.2.2.2.2.2.2.2.2.1
  have HR := Lib.hid hrun
  have hs2 := k2.same hs
  have hpr2 : ∀ u ∈ pr, NodeAt b (w2.setCell ⟨b, 8, none⟩ iv2) u ∧ q ≤ blkOf u := fun u hu => ⟨(hpr u hu).1.same (fun i hi => k2.low i hi), (hpr u hu).2⟩
  have PX := Lib.hid (hx.call _ sc last text pr hs2 ⟨_, _, _, _, p2⟩ trivial h0 h1 hd (fun u hu => ⟨(hpr2 u hu).1, Nat.lt_of_lt_of_le bx (hpr2 u hu).2⟩) (by omega))
  have q1 : (w2.setCell ⟨b, 8, none⟩ iv2).cell? ⟨q, 1, none⟩ = some x := cell_at ((hs2 q hq).trans hc) rfl
  have K2 := Lib.hid k2
  obtain ⟨pa, pc, hivl, _⟩ := (SliceOf.owned (I := fun _ => True) hp.ivOwn (fun _ _ _ => trivial)).lay
  obtain ⟨Tx, fx, qx, _, _, _, hxv, _⟩ := hx
  subst hxv
  subst hivl
  subst hiv2
  clear hp p2 k2 hs hs2 hpr hpr2 hrun hc
  go_enter Tryz.func58, Tryz.ntmps58
  go_wp2_with (at_builtin; refine wpList_append_run rfl _ _ _ _ rfl _ _ _ _ rfl rfl HR.out ?_)
  refine (PX.out).mono ?_
  rintro e w3 ⟨rfl, h3, k3⟩
  obtain ⟨⟨a8, n8, c8⟩, _⟩ := PI.cell8 h3
  have X := Lib.hid (And.intro h3 (K2.out.trans k3))
  have hd0 : decide ((0 : Int) < 0) = false := by decide
  simp only [List.length_nil] at c8
  clear h3 k3 PX HR d8 f8 q1
  go_wp2_with fail
  go_end0
  exact ⟨rfl, X.out⟩

theorem PSt.al {b : Nat} {sc last : Int} {text : List UInt8} {iv : Value} {inn pr : List Value} {w : World} (h : PSt b sc last text iv inn pr w) (o : Obj) : PSt b sc last text iv inn pr (w.alloc o) := by
  obtain ⟨ad, buf, pv, h⟩ := h
  exact ⟨ad, buf, pv, h.alloc o⟩

/-- the deferred function -/
theorem undo_typed {b n0 n1 : Nat} (u : FrameMode) (w : World) (a8 : Option Addr) (l8 m8 : Nat) (h0 : w.cell? ⟨n0, 0, none⟩ = some (.pointer (some ⟨b, 0, none⟩))) (h1 : w.cell? ⟨n1, 0, none⟩ = some (.slice none 0 0)) (c8 : w.cell? ⟨b, 8, none⟩ = some (.slice a8 l8 m8)) (f8 : w.frozen? ⟨b, 8, none⟩ = false) :
    CallsD Tryz.prog 38 #[.pointer (some ⟨n1, 0, none⟩), .pointer (some ⟨n0, 0, none⟩)] u w fun e u' w' => u' = u ∧ (e = .returned (.tuple #[]) ∧ w' = w.setCell ⟨b, 8, none⟩ (.slice none 0 0)) := by
  go_enter_d Tryz.func38, Tryz.ntmps38
  go_wp2
  go_end0
  exact ⟨rfl, rfl⟩

set_option maxRecDepth 100000 in
set_option maxHeartbeats 4000000 in
/-- a Typed whose type prints the name -/
theorem typed_top {b d q : Nat} {w0 : World} {x y : Value} {o : List UInt8} (hq : q < b) (hc : w0.heap[q]? = some (Obj.cells #[x, y] 40 (0, 0)))
    (hy : Prints2 b w0 d y [.iface 33 (.pointer (some ⟨q, 0, none⟩))] [] AnyLast o) (by_ : blkOf y < q)
    (w : World) (sc last : Int) (text : List UInt8) (pr : List Value) (hs : Same (Low b) w0 w) (hp : PSt b sc last text (.slice none 0 0) [] pr w) (h0 : 0 ≤ sc) (h1 : sc ≤ 1000000) (hd : pr.length + d ≤ 1000000) (hpr : ∀ u ∈ pr, NodeAt b w u ∧ q ≤ blkOf u) (hlen : text.length + o.length ≤ 140737488355328) :
    Calls Tryz.prog 37 #[.pointer (some ⟨q, 0, none⟩), .pointer (some ⟨b, 0, none⟩)] w fun e w' => e = .returned (.tuple #[]) ∧ PI b sc (lastOf last o) (text ++ o) [] pr w' ∧ Kept b w w' := by
  have hbw : b < w.heap.size := by obtain ⟨_, _, _, h⟩ := hp; exact lt_of_block h.block
  have hmf : ∀ (fn : Fn) (first cap : Array Value) (w : World), (Instr.makeFunc fn first cap).run Tryz.prog w = .ok (.func fn first cap) w := fun _ _ _ _ => rfl
  have c8 : w.cell? ⟨b, 8, none⟩ = some (.slice none 0 0) := by obtain ⟨_, _, _, h⟩ := hp; exact h.cells.2.2.2.2.2.2.2.2.1
  have f8 : w.frozen? ⟨b, 8, none⟩ = false := by obtain ⟨_, _, _, h⟩ := hp; exact free_at h.block
  have p2 := ((hp.al (.cells #[.pointer (some ⟨b, 0, none⟩)] 56)).al (.cells #[.slice none 0 0] 52)).al (.cells #[.iface 33 (.pointer (some ⟨q, 0, none⟩))] 35)
  have e8 : (((w.alloc (.cells #[.pointer (some ⟨b, 0, none⟩)] 56)).alloc (.cells #[.slice none 0 0] 52)).alloc (.cells #[.iface 33 (.pointer (some ⟨q, 0, none⟩))] 35)).cell? ⟨b, 8, none⟩ = some (.slice none 0 0) := by obtain ⟨_, _, _, h⟩ := p2; exact h.cells.2.2.2.2.2.2.2.2.1
  have g8 : (((w.alloc (.cells #[.pointer (some ⟨b, 0, none⟩)] 56)).alloc (.cells #[.slice none 0 0] 52)).alloc (.cells #[.iface 33 (.pointer (some ⟨q, 0, none⟩))] 35)).frozen? ⟨b, 8, none⟩ = false := by obtain ⟨_, _, _, h⟩ := p2; exact free_at h.block
  have k2 := (((Kept.refl b w).alloc (by omega) (.cells #[.pointer (some ⟨b, 0, none⟩)] 56)).alloc (by simp; omega) (.cells #[.slice none 0 0] 52)).alloc (by simp; omega) (.cells #[.iface 33 (.pointer (some ⟨q, 0, none⟩))] 35)
  have n0 : (((w.alloc (.cells #[.pointer (some ⟨b, 0, none⟩)] 56)).alloc (.cells #[.slice none 0 0] 52)).alloc (.cells #[.iface 33 (.pointer (some ⟨q, 0, none⟩))] 35)).heap[w.heap.size]? = some (Obj.cells #[.pointer (some ⟨b, 0, none⟩)] 56 (0, 0)) := by
    rw [Below.heap_alloc _ _ _ (by simp; omega), Below.heap_alloc _ _ _ (by simp)]
    exact heap_alloc_new w _
  have n1 : (((w.alloc (.cells #[.pointer (some ⟨b, 0, none⟩)] 56)).alloc (.cells #[.slice none 0 0] 52)).alloc (.cells #[.iface 33 (.pointer (some ⟨q, 0, none⟩))] 35)).heap[w.heap.size + 1]? = some (Obj.cells #[.slice none 0 0] 52 (0, 0)) := by
    rw [Below.heap_alloc _ _ _ (by simp)]
    have h := heap_alloc_new (w.alloc (.cells #[.pointer (some ⟨b, 0, none⟩)] 56)) (.cells #[.slice none 0 0] 52)
    simpa using h
  have p3 : PI b sc last text [.iface 33 (.pointer (some ⟨q, 0, none⟩))] pr ((((w.alloc (.cells #[.pointer (some ⟨b, 0, none⟩)] 56)).alloc (.cells #[.slice none 0 0] 52)).alloc (.cells #[.iface 33 (.pointer (some ⟨q, 0, none⟩))] 35)).setCell ⟨b, 8, none⟩ (.slice (some ⟨w.heap.size + 1 + 1, 0, none⟩) 1 1)) := by
    obtain ⟨ad, buf, pv, h⟩ := hp
    have h2 := ((h.alloc (.cells #[.pointer (some ⟨b, 0, none⟩)] 56)).alloc (.cells #[.slice none 0 0] 52)).alloc (.cells #[.iface 33 (.pointer (some ⟨q, 0, none⟩))] 35)
    have own := World.ownsRow_lit (base := b) (size := 1) (e := 35) ((w.alloc (.cells #[.pointer (some ⟨b, 0, none⟩)] 56)).alloc (.cells #[.slice none 0 0] 52)) #[.iface 33 (.pointer (some ⟨q, 0, none⟩))] 1 (by simp; omega) (by unfold maxLen; omega) rfl
    simp only [World.size_alloc] at own
    refine ⟨_, ad, buf, pv, heap_setCell_same h2.block, h2.adOk, h2.put _ _ h2.bufOwn (by decide), h2.put _ _ own (by decide), h2.put _ _ h2.pvOwn (by decide), .inr ?_⟩
    intro e
    have : w.heap.size + 1 + 1 < w.heap.size := (h.pvOwn.lt _ e.symm).2
    omega
  have k3 := Kept.setOwn k2 8 (.slice (some ⟨w.heap.size + 1 + 1, 0, none⟩) 1 1)
  have N0 := Lib.hid (show ((((w.alloc (.cells #[.pointer (some ⟨b, 0, none⟩)] 56)).alloc (.cells #[.slice none 0 0] 52)).alloc (.cells #[.iface 33 (.pointer (some ⟨q, 0, none⟩))] 35)).setCell ⟨b, 8, none⟩ (.slice (some ⟨w.heap.size + 1 + 1, 0, none⟩) 1 1)).heap[w.heap.size]? = some (Obj.cells #[.pointer (some ⟨b, 0, none⟩)] 56 (0, 0)) by rw [Below.heap_setCell _ _ _ _ (by show w.heap.size ≠ b; omega)]; exact n0)
  have N1 := Lib.hid (show ((((w.alloc (.cells #[.pointer (some ⟨b, 0, none⟩)] 56)).alloc (.cells #[.slice none 0 0] 52)).alloc (.cells #[.iface 33 (.pointer (some ⟨q, 0, none⟩))] 35)).setCell ⟨b, 8, none⟩ (.slice (some ⟨w.heap.size + 1 + 1, 0, none⟩) 1 1)).heap[w.heap.size + 1]? = some (Obj.cells #[.slice none 0 0] 52 (0, 0)) by rw [Below.heap_setCell _ _ _ _ (by show w.heap.size + 1 ≠ b; omega)]; exact n1)
  have P3 := Lib.hid p3
  have K3 := Lib.hid k3
  have HH := Lib.hid (And.intro hs (And.intro hpr (And.intro hc hy)))
  clear p2 k2 n0 n1 p3 k3 hp hs hpr
  obtain ⟨Ty, fy, qy, _, _, _, hyv, _⟩ := hy
  clear hc
  go_enter_defers Tryz.func37, Tryz.ntmps37
  go_wp2_with fail
  generalize (((w.alloc (.cells #[.pointer (some ⟨b, 0, none⟩)] 56)).alloc (.cells #[.slice none 0 0] 52)).alloc (.cells #[.iface 33 (.pointer (some ⟨q, 0, none⟩))] 35)).setCell ⟨b, 8, none⟩ (.slice (some ⟨w.heap.size + 1 + 1, 0, none⟩) 1 1) = W1 at *
  have fr : ∀ W, Kept b W1 W → W.cell? ⟨w.heap.size, 0, none⟩ = some (.pointer (some ⟨b, 0, none⟩)) ∧ W.cell? ⟨w.heap.size + 1, 0, none⟩ = some (.slice none 0 0) := fun W k =>
    ⟨cell_of_one (k.high _ _ _ _ N0.out (by omega) (by decide) (by decide)), cell_of_one (k.high _ _ _ _ N1.out (by omega) (by decide) (by decide))⟩
  have FR := Lib.hid fr
  clear N0 N1 fr c8 f8 e8 g8
  obtain ⟨d0, _⟩ := FR.out W1 (Kept.refl _ _)
  have q1 : W1.cell? ⟨q, 1, none⟩ = some y := by obtain ⟨hs, _, hc, _⟩ := HH.out; exact cell_at ((K3.out.low q hq).trans ((hs q hq).trans hc)) rfl
  go_still_tail 5, (by kernel_rfl)
  change wpList _ _ _ _ _ W1.drew
  have P4 := Lib.hid (PI.drew P3.out)
  have K4 := Lib.hid (show Kept b w W1.drew from K3.out.drew)
  have K14 := Lib.hid (show Kept b W1 W1.drew from (Kept.refl _ _).drew)
  generalize W1.drew = W4 at *
  have PX := Lib.hid (show Calls Tryz.prog 39 #[.pointer (some ⟨b, 0, none⟩), y] W4 fun e w' => e = .returned (.tuple #[]) ∧ PI b sc (lastOf last o) (text ++ o) [] pr w' ∧ Kept b W4 w' by
    obtain ⟨hs, hpr, _, hy⟩ := HH.out
    exact hy.call W4 sc last text pr (K4.out.same hs) P4.out trivial h0 h1 hd (fun u hu => ⟨(hpr u hu).1.same (fun i hi => K4.out.low i hi), Nat.lt_of_lt_of_le by_ (hpr u hu).2⟩) hlen)
  obtain ⟨d0, _⟩ := FR.out W4 K14.out
  subst hyv
  clear P3 P4 q1
  go_wp2_with fail
  refine (PX.out).mono ?_
  rintro e W5 ⟨rfl, h5, k5⟩
  have K5 := Lib.hid (K14.out.trans k5)
  have KW5 := Lib.hid (K4.out.trans k5)
  have P5 := Lib.hid h5
  obtain ⟨⟨a8, n8, c8⟩, f8⟩ := PI.cell8 h5
  clear h5 k5 PX K14 K4 d0
  obtain ⟨d0, d1⟩ := FR.out W5 K5.out
  have hd0 : decide ((0 : Int) < 0) = false := by decide
  simp only [List.length_nil] at c8
  go_wp2_with fail
  have X : Hid (PI b sc (lastOf last o) (text ++ o) [] pr (W5.setCell ⟨b, 8, none⟩ (.slice none 0 0))) := PI.bared P5.out
  have XK := Lib.hid (KW5.out.setOwn 8 (.slice none 0 0))
  clear P5 K5 KW5
  show Leaves _ _ _ _ _ _ _
  refine leaves_cons (f := 38) (args := #[.pointer (some ⟨w.heap.size + 1, 0, none⟩), .pointer (some ⟨w.heap.size, 0, none⟩)]) (by simp) (by simp [go_sem]) ?_
  refine (undo_typed .returning _ _ _ _ d0 d1 c8 f8).mono ?_
  rintro e u' w'' ⟨rfl, rfl, rfl⟩
  exact ⟨_, results_none rfl _ _ _, rfl, X.out, XK.out⟩

end Go.Proofs.YtcobcgkeojeagaaGreat
