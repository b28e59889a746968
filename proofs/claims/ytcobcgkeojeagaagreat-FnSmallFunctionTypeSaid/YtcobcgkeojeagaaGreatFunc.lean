/- Typed, FunctionType, PtrMem: how they are printed. -/
import Derived.Test.YtcobcgkeojeagaaGreatArgs
import Derived.Defers
import Derived.StillTailTactics
import Derived.Deep.Cut
import Derived.Deep.CutRange
namespace Go.Proofs.YtcobcgkeojeagaaGreat
open Go.RowKit

theorem printer_typed : Printer 33 37 := ⟨ptrTy_of (by kernel_rfl), fun _ _ => by kernel_rfl, fun _ _ => by kernel_rfl⟩
theorem printer_ft : Printer 37 47 := ⟨ptrTy_of (by kernel_rfl), fun _ _ => by kernel_rfl, fun _ _ => by kernel_rfl⟩
theorem printer_mem : Printer 41 58 := ⟨ptrTy_of (by kernel_rfl), fun _ _ => by kernel_rfl, fun _ _ => by kernel_rfl⟩

set_option maxRecDepth 100000 in
set_option maxHeartbeats 1000000 in
/-- a Typed is printed around its type by its name -/
theorem typed_inner {b d m p : Nat} {w0 : World} {x y : Value} {inn : List Value} {o : List UInt8} (hp : p < b) (hc : w0.heap[p]? = some (Obj.cells #[x, y] 40 (0, 0))) (hx : Prints AnyInner b w0 d x o) (bx : blkOf x < m) :
    BodyI b w0 d m p 134 inn AnyLast o := by
  intro w sc last text pr hs ⟨iv, h⟩ _ hd hpr hlen
  have c0 : w.cell? ⟨p, 0, none⟩ = some x := cell_at ((hs p hp).trans hc) rfl
  have P1 := Lib.hid (hx.call w sc last text iv inn pr hs h trivial hd (fun u hu => ⟨(hpr u hu).1, Nat.lt_of_lt_of_le bx (hpr u hu).2⟩) hlen)
  obtain ⟨T, f, q, _, _, _, rfl, _⟩ := hx
  clear h hs hpr hc
  go_enter Tryz.func134, Tryz.ntmps134
  go_wp2_with fail
  refine (P1.out).mono ?_
  rintro e w1 ⟨rfl, h1, k1⟩
  have X := Lib.hid (And.intro (show PI b sc (lastOf last o) (text ++ o) inn pr w1 from ⟨_, h1⟩) k1)
  clear h1 k1
  go_wp2_with fail
  go_end0
  exact ⟨rfl, X.out⟩

set_option maxRecDepth 100000 in
set_option maxHeartbeats 1000000 in
/-- a PtrMem, behind an opening parenthesis -/
theorem mem_inner_open {b d m p : Nat} {w0 : World} {x y : Value} {inn : List Value} {o : List UInt8} (hp : p < b) (hc : w0.heap[p]? = some (Obj.cells #[x, y] 43 (0, 0))) (hx : Prints AnyInner b w0 d x o) (bx : blkOf x < m) :
    BodyI b w0 d m p 59 inn (fun l => l = 40) (o ++ [58, 58, 42]) := by
  intro w sc last text pr hs ⟨iv, h⟩ hl hd hpr hlen
  subst hl
  simp only [List.length_append, List.length_cons, List.length_nil] at hlen
  have c0 : w.cell? ⟨p, 0, none⟩ = some x := cell_at ((hs p hp).trans hc) rfl
  have c7 : w.cell? ⟨b, 7, none⟩ = some (.int .u8 40) := PI.cell7 ⟨iv, h⟩
  have P1 := Lib.hid (hx.call w sc 40 text iv inn pr hs h trivial hd (fun u hu => ⟨(hpr u hu).1, Nat.lt_of_lt_of_le bx (hpr u hu).2⟩) (by omega))
  obtain ⟨T, f, q, _, _, _, rfl, _⟩ := hx
  clear h hs hpr hc
  go_enter Tryz.func59, Tryz.ntmps59
  go_wp2_with fail
  refine (P1.out).mono ?_
  rintro e w1 ⟨rfl, h1, k1⟩
  have P2 := Lib.hid (writeString_any h1 ⟨#[58, 58, 42]⟩ (by rw [List.length_append]; show _ + 3 ≤ _; omega))
  have K1 := Lib.hid k1
  clear h1 k1 P1
  go_wp2_with fail
  refine (P2.out).mono ?_
  rintro e w2 ⟨rfl, h2, k2⟩
  rw [lastOf_append, List.append_assoc] at h2
  have X := Lib.hid (And.intro (show PI b sc (lastOf 40 (o ++ [58, 58, 42])) (text ++ (o ++ [58, 58, 42])) inn pr w2 from ⟨_, h2⟩) (K1.out.trans k2))
  clear h2 k2
  go_wp2_with fail
  go_end0
  exact ⟨rfl, X.out⟩

set_option maxRecDepth 100000 in
set_option maxHeartbeats 1000000 in
/-- a PtrMem, behind anything else -/
theorem mem_inner_else {b d m p : Nat} {w0 : World} {x y : Value} {inn : List Value} {o : List UInt8} (hp : p < b) (hc : w0.heap[p]? = some (Obj.cells #[x, y] 43 (0, 0))) (hx : Prints AnyInner b w0 d x o) (bx : blkOf x < m) :
    BodyI b w0 d m p 59 inn (fun l => l ≠ 40) ([32] ++ o ++ [58, 58, 42]) := by
  intro w sc last text pr hs ⟨iv, h⟩ hl hd hpr hlen
  simp only [List.length_append, List.length_cons, List.length_nil] at hlen
  have hne : (last == 40) = false := beq_eq_false_iff_ne.2 hl
  have c7 : w.cell? ⟨b, 7, none⟩ = some (.int .u8 last) := PI.cell7 ⟨iv, h⟩
  have W1 := Lib.hid (writeByte_any h 32 (by omega))
  have HH := Lib.hid (And.intro hs (And.intro hpr (And.intro hx hc)))
  obtain ⟨Tx, qx, hxv⟩ : ∃ T q, x = .iface T (.pointer (some ⟨q, 0, none⟩)) := by obtain ⟨T, f, q, _, _, _, hv, _⟩ := hx; exact ⟨T, q, hv⟩
  clear h hs hpr hc hl hx
  go_enter Tryz.func59, Tryz.ntmps59
  go_wp2_with fail
  refine (W1.out).mono ?_
  rintro e w0' ⟨rfl, h0, k0⟩
  obtain ⟨hs, hpr, hx, hc⟩ := HH.out
  have c0 : w0'.cell? ⟨p, 0, none⟩ = some x := cell_at ((k0.same hs p hp).trans hc) rfl
  have P1 := Lib.hid (hx.call w0' sc _ _ iv inn pr (k0.same hs) h0 trivial hd (fun u hu => ⟨(hpr u hu).1.same (fun i hi => k0.low i hi), Nat.lt_of_lt_of_le bx (hpr u hu).2⟩) (by simp only [List.length_append, List.length_cons, List.length_nil]; omega))
  have K0 := Lib.hid k0
  rw [hxv] at c0 P1
  clear hs hpr hx hc h0 k0 W1 HH
  go_wp2_with fail
  refine (P1.out).mono ?_
  rintro e w1 ⟨rfl, h1, k1⟩
  have P2 := Lib.hid (writeString_any h1 ⟨#[58, 58, 42]⟩ (by simp only [List.length_append, List.length_cons, List.length_nil]; show _ + 3 ≤ _; omega))
  have K1 := Lib.hid (K0.out.trans k1)
  clear h1 k1 P1 K0
  go_wp2_with fail
  refine (P2.out).mono ?_
  rintro e w2 ⟨rfl, h2, k2⟩
  have h3 : PI b sc (lastOf last ([32] ++ o ++ [58, 58, 42])) (text ++ ([32] ++ o ++ [58, 58, 42])) inn pr w2 := by
    have e1 : lastOf last ([32] ++ o ++ [58, 58, 42]) = lastOf (lastOf (UInt8.toNat 32 : Int) o) [58, 58, 42] := by rw [← lastOf_append, ← lastOf_append]; rfl
    rw [e1]
    refine ⟨iv, ?_⟩
    have e2 : text ++ ([32] ++ o ++ [58, 58, 42]) = text ++ [32] ++ o ++ [58, 58, 42] := by simp
    rw [e2]
    exact h2
  have X := Lib.hid (And.intro h3 (K1.out.trans k2))
  clear h2 k2 h3
  go_wp2_with fail
  go_end0
  exact ⟨rfl, X.out⟩

set_option maxRecDepth 100000 in
set_option maxHeartbeats 1000000 in
/-- a function without what it returns -/
theorem body_ft_nil {b d q : Nat} {w0 : World} {sv : Value} {inn inn' : List Value} {lp : Int → Prop} {o : List UInt8} (hq : q < b) (hc : w0.heap[q]? = some (Obj.cells #[.nilIface, sv, .bool false] 63 (0, 0)))
    (ha : Body2 b w0 d q 48 inn inn' lp o) : Body2 b w0 d q 47 inn inn' lp o := by
  intro w sc last text pr hs hp hl h0 h1 hd hpr hlen
  have c0 : w.cell? ⟨q, 0, none⟩ = some .nilIface := cell_at ((hs q hq).trans hc) rfl
  have c2 : w.cell? ⟨q, 2, none⟩ = some (.bool false) := cell_at ((hs q hq).trans hc) rfl
  have HA := Lib.hid (ha w sc last text pr hs hp hl h0 h1 hd hpr hlen)
  have hnn : ∀ W : World, (binOp .neq 35 .nilIface .nilIface).run Tryz.prog W = .ok (.bool false) W := fun _ => by kernel_rfl
  clear hs hp hpr hc ha
  go_enter Tryz.func47, Tryz.ntmps47
  go_wp2_with fail
  refine (HA.out).mono ?_
  rintro e w1 ⟨rfl, h1, k1⟩
  have X := Lib.hid (And.intro h1 k1)
  clear h1 k1
  go_wp2_with fail
  go_end0
  exact ⟨rfl, X.out⟩

set_option maxRecDepth 100000 in
set_option maxHeartbeats 2000000 in
/-- a function with what it returns -/
theorem body_ft_ret {b d q : Nat} {w0 : World} {x sv : Value} {inn inn' : List Value} {o1 o2 : List UInt8} (hq : q < b) (hc : w0.heap[q]? = some (Obj.cells #[x, sv, .bool false] 63 (0, 0)))
    (hx : Prints2 b w0 d x (inn ++ [.iface 37 (.pointer (some ⟨q, 0, none⟩))]) (inn ++ [.iface 37 (.pointer (some ⟨q, 0, none⟩))]) AnyLast o1) (bx : blkOf x < q) (hn : inn.length ≤ 1000000)
    (ha : Body2 b w0 d q 48 inn inn' (fun l => l = 32) o2) : Body2 b w0 d q 47 inn inn' AnyLast (o1 ++ [32] ++ o2) := by
  intro w sc last text pr hs hp _ h0 h1 hd hpr hlen
  have c0 : w.cell? ⟨q, 0, none⟩ = some x := cell_at ((hs q hq).trans hc) rfl
  have c2 : w.cell? ⟨q, 2, none⟩ = some (.bool false) := cell_at ((hs q hq).trans hc) rfl
  obtain ⟨iv, ad, buf, pv, hp⟩ := hp
  rw [List.length_append, List.length_append, List.length_cons, List.length_nil] at hlen
  have hbl := lt_of_block hp.block
  obtain ⟨iv2, w2, hrun, p2, k2, d8, f8, g2, n2, hiv2⟩ := inner_push hp hn (.iface 37 (.pointer (some ⟨q, 0, none⟩))) rfl
  have c8 := hp.cells.2.2.2.2.2.2.2.2.1
  have HR := Lib.hid hrun
  have hs2 := k2.same hs
  have hpr2 : ∀ u ∈ pr, NodeAt b (w2.setCell ⟨b, 8, none⟩ iv2) u ∧ q ≤ blkOf u := fun u hu => ⟨(hpr u hu).1.same (fun i hi => k2.low i hi), (hpr u hu).2⟩
  have PX := Lib.hid (hx.call _ sc last text pr hs2 ⟨_, _, _, _, p2⟩ trivial h0 h1 hd (fun u hu => ⟨(hpr2 u hu).1, Nat.lt_of_lt_of_le bx (hpr2 u hu).2⟩) (by omega))
  have HH := Lib.hid (And.intro hs2 (And.intro hpr2 (And.intro k2 ha)))
  obtain ⟨pa, pc, hivl, _⟩ := (SliceOf.owned (I := fun _ => True) hp.ivOwn (fun _ _ _ => trivial)).lay
  obtain ⟨Tx, fx, qx, _, _, _, hxv, _⟩ := hx
  subst hxv
  have hnn : ∀ W : World, (binOp .neq 35 (.iface Tx (.pointer (some ⟨qx, 0, none⟩))) .nilIface).run Tryz.prog W = .ok (.bool true) W := fun _ => by kernel_rfl
  subst hivl
  subst hiv2
  clear hp p2 k2 hs hs2 hpr hpr2 hrun hc ha
  go_enter Tryz.func47, Tryz.ntmps47
  go_wp2_with (at_builtin; refine wpList_append_run rfl _ _ _ _ rfl _ _ _ _ rfl rfl HR.out ?_)
  refine (PX.out).mono ?_
  rintro e w3 ⟨rfl, ⟨iv3, ad3, buf3, pv3, p3⟩, k3⟩
  have hle : ((inn.length : Int) + 1 == 0) = false := beq_eq_false_iff_ne.2 (by omega)
  have c8 := p3.cells.2.2.2.2.2.2.2.2.1
  have f8 : w3.frozen? ⟨b, 8, none⟩ = false := free_at p3.block
  obtain ⟨g3, n3, rfl, _, _⟩ := p3.ivOwn.form (by simp)
  have hn3 : inn.length + 1 ≤ n3 := by
    rcases p3.ivOwn.2 with ⟨e, _⟩ | ⟨g', cap', cur, e, _, _, hnc, _⟩
    · cases e
    · cases e; simpa using hnc
  have pop := Lib.hid (inner_pop (p3.drewN 1))
  have K3 := Lib.hid (k3.drew.setOwn 8 (.slice (some ⟨g3, 0, none⟩) inn.length n3))
  simp only [List.length_append, List.length_cons, List.length_nil, Nat.zero_add] at c8
  clear k3 p3 PX HR d8
  go_wp2_with fail
  go_region
  obtain ⟨iv4, h4⟩ := pop.out
  have W5 := Lib.hid (writeByte_any h4 32 (by rw [List.length_append]; omega))
  clear h4 c8 f8
  go_wp2_with fail
  refine (W5.out).mono ?_
  rintro e w5 ⟨rfl, h5, k5⟩
  obtain ⟨hs2, hpr2, k2, ha⟩ := HH.out
  have k35 := K3.out.trans k5
  have A6 := Lib.hid (ha w5 sc _ _ pr (k35.same hs2) ⟨_, h5⟩ rfl h0 h1 hd (fun u hu => ⟨(hpr2 u hu).1.same (fun i hi => k35.low i hi), (hpr2 u hu).2⟩) (by simp only [List.length_append, List.length_cons, List.length_nil]; omega))
  have K5 := Lib.hid (k2.trans k35)
  clear hs2 hpr2 k2 ha h5 k5 k35 W5 pop HH K3
  go_wp2_with fail
  refine (A6.out).mono ?_
  rintro e w6 ⟨rfl, h6, k6⟩
  have h7 : PI b sc (lastOf last (o1 ++ [32] ++ o2)) (text ++ (o1 ++ [32] ++ o2)) inn' pr w6 := by
    have e1 : lastOf last (o1 ++ [32] ++ o2) = lastOf (UInt8.toNat 32 : Int) o2 := by rw [← lastOf_append, ← lastOf_append]; rfl
    have e2 : text ++ (o1 ++ [32] ++ o2) = text ++ o1 ++ [32] ++ o2 := by simp
    rw [e1, e2]
    exact h6
  have X := Lib.hid (And.intro h7 (K5.out.trans k6))
  clear h6 k6 h7
  go_wp2_with fail
  go_end0
  exact ⟨rfl, X.out⟩

end Go.Proofs.YtcobcgkeojeagaaGreat
