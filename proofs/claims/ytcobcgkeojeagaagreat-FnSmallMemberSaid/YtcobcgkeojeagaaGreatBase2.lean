/- Builtin types, pointers and references. -/
import Derived.Test.YtcobcgkeojeagaaGreatInner
namespace Go.Proofs.YtcobcgkeojeagaaGreat
open Go.RowKit

theorem printer_builtin : Printer 64 66 := ⟨ptrTy_of (by kernel_rfl), fun _ _ => by kernel_rfl, fun _ _ => by kernel_rfl⟩

set_option maxRecDepth 100000 in
set_option maxHeartbeats 1000000 in
theorem body_builtin (G : Value → List Value → Prop) {b q : Nat} {w0 : World} {s : ByteArray} (hq : q < b) (hc : w0.heap[q]? = some (Obj.cells #[.string s] 65 (0, 0))) :
    Body G b w0 0 q 66 s.data.toList := by
  intro w sc last text iv inn pr hs h _ _ _ hlen
  have c0 : w.cell? ⟨q, 0, none⟩ = some (.string s) := cell_at ((hs q hq).trans hc) rfl
  have c2 : w.cell? ⟨b, 2, none⟩ = some (.bool false) := by
    obtain ⟨_, _, _, h'⟩ := h
    exact h'.cells.2.2.1
  have hss : s.data.toList.length = s.size := by rw [Array.length_toList]; rfl
  have HW := Lib.hid (writeString_any h s (by omega))
  clear h hs hc hss
  go_enter Tryz.func66, Tryz.ntmps66
  go_wp2_with fail
  refine (HW.out).mono ?_
  rintro e w1 ⟨rfl, h1, k1⟩
  have X := Lib.hid (And.intro h1 k1)
  clear h1 k1
  go_wp2_with fail
  go_end0
  exact ⟨rfl, X.out⟩

set_option maxRecDepth 100000 in
set_option maxHeartbeats 2000000 in
theorem printBase_any {b d q : Nat} {w0 : World} {T : TypeId} {fi : FuncId} {x : Value} {inn : List Value} {o1 o2 : List UInt8} (it : InnerTy T fi) (hx : Prints2 b w0 d x (inn ++ [.iface T (.pointer (some ⟨q, 0, none⟩))]) (inn ++ [.iface T (.pointer (some ⟨q, 0, none⟩))]) AnyLast o1)
    (bx : blkOf x < q) (hi : Body2 b w0 d q fi (inn ++ [.iface T (.pointer (some ⟨q, 0, none⟩))]) (inn ++ [.iface T (.pointer (some ⟨q, 0, none⟩))]) AnyLast o2)
    (w : World) (sc last : Int) (text : List UInt8) (pr : List Value) (hs : Same (Low b) w0 w) (hp : PI b sc last text inn pr w) (h0 : 0 ≤ sc) (h1 : sc ≤ 1000000) (hd : pr.length + d ≤ 1000000) (hn : inn.length ≤ 1000000)
    (hpr : ∀ u ∈ pr, NodeAt b w u ∧ q ≤ blkOf u) (hlen : text.length + (o1 ++ o2).length ≤ 140737488355328) :
    Calls Tryz.prog 72 #[.pointer (some ⟨b, 0, none⟩), .iface T (.pointer (some ⟨q, 0, none⟩)), x] w fun e w' => e = .returned (.tuple #[]) ∧ PI b sc (lastOf last (o1 ++ o2)) (text ++ (o1 ++ o2)) inn pr w' ∧ Kept b w w' := by
  obtain ⟨iv, ad, buf, pv, hp⟩ := hp
  rw [List.length_append] at hlen
  have hbl := lt_of_block hp.block
  obtain ⟨iv2, w2, hrun, p2, k2, d8, f8, g2, n2, hiv2⟩ := inner_push hp hn (.iface T (.pointer (some ⟨q, 0, none⟩))) rfl
  have c8 := hp.cells.2.2.2.2.2.2.2.2.1
  have HR := Lib.hid hrun
  have hs2 := k2.same hs
  have hpr2 : ∀ u ∈ pr, NodeAt b (w2.setCell ⟨b, 8, none⟩ iv2) u ∧ q ≤ blkOf u := fun u hu => ⟨(hpr u hu).1.same (fun i hi => k2.low i hi), (hpr u hu).2⟩
  have PX := Lib.hid (hx.call _ sc last text pr hs2 ⟨_, _, _, _, p2⟩ trivial h0 h1 hd (fun u hu => ⟨(hpr2 u hu).1, Nat.lt_of_lt_of_le bx (hpr2 u hu).2⟩) (by omega))
  have HH := Lib.hid (And.intro hs2 (And.intro hpr2 (And.intro k2 (And.intro hi it))))
  obtain ⟨pa, pc, hivl, _⟩ := (SliceOf.owned (I := fun _ => True) hp.ivOwn (fun _ _ _ => trivial)).lay
  subst hivl
  subst hiv2
  clear hp p2 k2 hs hs2 hpr hpr2 hi hrun hx
  go_enter Tryz.func72, Tryz.ntmps72
  go_wp2_with (at_builtin; refine wpList_append_run rfl _ _ _ _ rfl _ _ _ _ rfl rfl HR.out ?_)
  refine (PX.out).mono ?_
  rintro e w3 ⟨rfl, ⟨iv3, h3⟩, k3⟩
  obtain ⟨hs2, hpr2, k2, hi, it⟩ := HH.out
  have k23 := k2.trans k3
  have hs3 := k3.same hs2
  have PI2 := Lib.hid (hi w3 sc _ _ pr hs3 ⟨iv3, h3⟩ trivial h0 h1 hd (fun u hu => ⟨(hpr2 u hu).1.same (fun i hi => k3.low i hi), (hpr2 u hu).2⟩) (by rw [List.length_append]; omega))
  obtain ⟨ad3, buf3, pv3, p3⟩ := h3
  have c8 := p3.cells.2.2.2.2.2.2.2.2.1
  obtain ⟨g3, n3, rfl, _, _⟩ := p3.ivOwn.form (by simp)
  have has := it.asrt
  have K23 := Lib.hid k23
  have IT := Lib.hid it
  clear hs2 hpr2 k2 k3 hi it p3 hs3 k23 HH PX HR d8 f8
  simp only [List.length_append, List.length_cons, List.length_nil, Nat.zero_add] at c8
  go_wp2_with fail
  have HM : ∀ (nm : String) (W' : World), nm = iname → (method 263 T (.pointer (some ⟨q, 0, none⟩)) nm).run Tryz.prog W' = .ok (fi, .pointer (some ⟨q, 0, none⟩)) W' := fun nm W' e => e ▸ IT.out.m q W'
  rw [HM]
  rotate_left
  kernel_rfl
  simp only [Result.andThen]
  rw [IT.out.call]
  rw [Oper.upon_enter]
  refine (PI2.out).mono ?_
  rintro e w4 ⟨rfl, ⟨iv4, ad4, buf4, pv4, h4⟩, k4⟩
  rw [lastOf_append, List.append_assoc] at h4
  have K4 := Lib.hid (K23.out.trans k4)
  obtain ⟨g4, n4, rfl, _, _⟩ := h4.ivOwn.form (by simp)
  have hn4 : inn.length + 1 ≤ n4 := by
    rcases h4.ivOwn.2 with ⟨e, _⟩ | ⟨g', cap', cur, e, _, _, hnc, _⟩
    · cases e
    · cases e; simpa using hnc
  have e8 := h4.cells.2.2.2.2.2.2.2.2.1
  have f8 : w4.frozen? ⟨b, 8, none⟩ = false := free_at h4.block
  simp only [List.length_append, List.length_cons, List.length_nil, Nat.zero_add] at e8
  have H4 := Lib.hid h4
  clear h4 k4 PI2 K23 HM c8
  go_wp2_with fail
  go_region
  go_end0
  refine ⟨rfl, ?_, (K4.out.drew).setOwn _ _⟩
  have H5 := inner_pop (H4.out.drewN 1)
  exact H5

theorem inner_star (b : Nat) (w0 : World) (q : Nat) (inn : List Value) : Body2 b w0 0 q 71 inn inn AnyLast [42] := by
  intro w sc last text pr hs ⟨iv, h⟩ _ _ _ _ _ hlen
  have HW := Lib.hid (writeString_any h ⟨#[42]⟩ hlen)
  clear h hs
  go_enter Tryz.func71, Tryz.ntmps71
  go_wp2_with fail
  refine (HW.out).mono ?_
  rintro e w1 ⟨rfl, h1, k1⟩
  have X := Lib.hid (And.intro (show PI b sc (lastOf last [42]) (text ++ [42]) inn pr w1 from ⟨_, h1⟩) k1)
  clear h1 k1
  go_wp2_with fail
  go_end0
  exact ⟨rfl, X.out⟩

end Go.Proofs.YtcobcgkeojeagaaGreat
