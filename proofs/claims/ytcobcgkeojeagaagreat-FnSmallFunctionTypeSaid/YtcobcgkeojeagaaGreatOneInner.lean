/- printOneInner, printInner, startScope, endScope. -/
import Derived.Test.YtcobcgkeojeagaaGreatPiece
namespace Go.Proofs.YtcobcgkeojeagaaGreat
open Go.RowKit

/-- an element that is printed around others, and is no method with qualifiers -/
structure InnerOf (T : TypeId) (fi : FuncId) : Prop where
  as2 : ∀ (a : Addr) (w : World), (Instr.typeAssert (.iface T (.pointer (some a))) 35 116 true).run Tryz.prog w = .ok (.tuple #[.iface T (.pointer (some a)), .bool true]) w
  noM : ∀ (a : Addr) (w : World), (Instr.typeAssert (.iface T (.pointer (some a))) 35 113 true).run Tryz.prog w = .ok (.tuple #[.pointer none, .bool false]) w
  m : ∀ (q : Nat) (W : World), (method 263 T (.pointer (some ⟨q, 0, none⟩)) iname).run Tryz.prog W = .ok (fi, .pointer (some ⟨q, 0, none⟩)) W
  call : ∀ (args : Array Value) (W : World), (callFunc fi args).run Tryz.prog W = .ok (.enter fi args) W

theorem innerOf_typed : InnerOf 33 134 := ⟨fun _ _ => by kernel_rfl, fun _ _ => by kernel_rfl, fun _ _ => by kernel_rfl, fun _ _ => by kernel_rfl⟩
theorem innerOf_mem : InnerOf 41 59 := ⟨fun _ _ => by kernel_rfl, fun _ _ => by kernel_rfl, fun _ _ => by kernel_rfl, fun _ _ => by kernel_rfl⟩

set_option maxRecDepth 100000 in
set_option maxHeartbeats 1000000 in
theorem startScope_any {b : Nat} {sc last : Int} {text : List UInt8} {iv : Value} {inn pr : List Value} {w : World} (h : PSt b sc last text iv inn pr w) (c : UInt8) (h0 : 0 ≤ sc) (h1 : sc ≤ 2000000) (hlen : text.length + 1 ≤ 140737488355328) :
    Calls Tryz.prog 49 #[.pointer (some ⟨b, 0, none⟩), .int .u8 c.toNat] w fun e w' => e = .returned (.tuple #[]) ∧ PSt b (sc + 1) c.toNat (text ++ [c]) iv inn pr w' ∧ Kept b w w' := by
  have c4 : w.cell? ⟨b, 4, none⟩ = some (.int .i64 sc) := by obtain ⟨_, _, _, h⟩ := h; exact h.cells.2.2.2.2.1
  have f4 : w.frozen? ⟨b, 4, none⟩ = false := by obtain ⟨_, _, _, h⟩ := h; exact free_at h.block
  have p1 : PSt b (sc + 1) last text iv inn pr (w.setCell ⟨b, 4, none⟩ (.int .i64 (sc + 1))) := by
    obtain ⟨ad, buf, pv, h⟩ := h
    exact ⟨ad, buf, pv, heap_setCell_same h.block, h.adOk, h.put _ _ h.bufOwn (by decide), h.put _ _ h.ivOwn (by decide), h.put _ _ h.pvOwn (by decide), h.apart⟩
  have HW := Lib.hid (writeByte_any p1 c hlen)
  have HK := Lib.hid ((Kept.refl b w).setOwn 4 (.int .i64 (sc + 1)))
  clear h p1
  generalize hc : (c.toNat : Int) = n at *
  clear hc
  go_enter Tryz.func49, Tryz.ntmps49
  go_wp2_with fail
  refine (HW.out).mono ?_
  rintro e w1 ⟨rfl, h1, k1⟩
  have X := Lib.hid (And.intro h1 (HK.out.trans k1))
  clear h1 k1
  go_wp2_with fail
  go_end0
  exact ⟨rfl, X.out⟩

set_option maxRecDepth 100000 in
set_option maxHeartbeats 1000000 in
theorem endScope_any {b : Nat} {sc last : Int} {text : List UInt8} {iv : Value} {inn pr : List Value} {w : World} (h : PSt b (sc + 1) last text iv inn pr w) (c : UInt8) (h0 : 0 ≤ sc) (h1 : sc ≤ 2000000) (hlen : text.length + 1 ≤ 140737488355328) :
    Calls Tryz.prog 51 #[.pointer (some ⟨b, 0, none⟩), .int .u8 c.toNat] w fun e w' => e = .returned (.tuple #[]) ∧ PSt b sc c.toNat (text ++ [c]) iv inn pr w' ∧ Kept b w w' := by
  have c4 : w.cell? ⟨b, 4, none⟩ = some (.int .i64 (sc + 1)) := by obtain ⟨_, _, _, h⟩ := h; exact h.cells.2.2.2.2.1
  have f4 : w.frozen? ⟨b, 4, none⟩ = false := by obtain ⟨_, _, _, h⟩ := h; exact free_at h.block
  have p1 : PSt b sc last text iv inn pr (w.setCell ⟨b, 4, none⟩ (.int .i64 sc)) := by
    obtain ⟨ad, buf, pv, h⟩ := h
    exact ⟨ad, buf, pv, heap_setCell_same h.block, h.adOk, h.put _ _ h.bufOwn (by decide), h.put _ _ h.ivOwn (by decide), h.put _ _ h.pvOwn (by decide), h.apart⟩
  have e1 : sc + 1 - 1 = sc := by omega
  have HW := Lib.hid (writeByte_any p1 c hlen)
  have HK := Lib.hid ((Kept.refl b w).setOwn 4 (.int .i64 sc))
  clear h p1
  generalize hc : (c.toNat : Int) = n at *
  clear hc
  go_enter Tryz.func51, Tryz.ntmps51
  go_wp2_with fail
  refine (HW.out).mono ?_
  rintro e w1 ⟨rfl, h1, k1⟩
  have X := Lib.hid (And.intro h1 (HK.out.trans k1))
  clear h1 k1
  go_wp2_with fail
  go_end0
  exact ⟨rfl, X.out⟩

/-- printed around others, with these elements still to come: the method appends the bytes o -/
def BodyI (b : Nat) (w0 : World) (d m q : Nat) (f : FuncId) (inn : List Value) (lp : Int → Prop) (o : List UInt8) : Prop :=
  ∀ (w : World) (sc last : Int) (text : List UInt8) (pr : List Value), Same (Low b) w0 w → PI b sc last text inn pr w → lp last → pr.length + d ≤ 1000000 →
    (∀ u ∈ pr, NodeAt b w u ∧ m ≤ blkOf u) → text.length + o.length ≤ 140737488355328 →
    Calls Tryz.prog f #[.pointer (some ⟨q, 0, none⟩), .pointer (some ⟨b, 0, none⟩)] w fun e w' => e = .returned (.tuple #[]) ∧ PI b sc (lastOf last o) (text ++ o) inn pr w' ∧ Kept b w w'

set_option maxRecDepth 100000 in
set_option maxHeartbeats 2000000 in
/-- the last element that is still to be printed around is printed; sv: no place for what is kept, or any -/
theorem printOneInner_any {b d m q : Nat} {w0 : World} {T : TypeId} {fi : FuncId} {inn : List Value} {lp : Int → Prop} {o : List UInt8} (it : InnerOf T fi) (hi : BodyI b w0 d m q fi inn lp o) (sp : Option Addr)
    (w : World) (sc last : Int) (text : List UInt8) (pr : List Value) (hs : Same (Low b) w0 w) (hp : PI b sc last text (inn ++ [.iface T (.pointer (some ⟨q, 0, none⟩))]) pr w) (hl : lp last) (hd : pr.length + d ≤ 1000000) (hnn : inn.length ≤ 1000000)
    (hpr : ∀ u ∈ pr, NodeAt b w u ∧ m ≤ blkOf u) (hlen : text.length + o.length ≤ 140737488355328) :
    Calls Tryz.prog 54 #[.pointer (some ⟨b, 0, none⟩), .pointer sp] w fun e w' => e = .returned (.tuple #[]) ∧ PI b sc (lastOf last o) (text ++ o) inn pr w' ∧ Kept b w w' := by
  obtain ⟨iv, ad, buf, pv, hp⟩ := hp
  obtain ⟨g, n, hivl, _, _⟩ := hp.ivOwn.form (by simp)
  subst hivl
  have hn : inn.length + 1 ≤ n := by
    rcases hp.ivOwn.2 with ⟨e, _⟩ | ⟨g', cap', cur, e, _, _, hnc, _⟩
    · cases e
    · cases e; simpa using hnc
  have c8 := hp.cells.2.2.2.2.2.2.2.2.1
  have f8 : w.frozen? ⟨b, 8, none⟩ = false := free_at hp.block
  have hel : w.cell? ⟨g, inn.length, none⟩ = some (.iface T (.pointer (some ⟨q, 0, none⟩))) := by
    have h := hp.ivOwn.cells (g := g) rfl inn.length (.iface T (.pointer (some ⟨q, 0, none⟩))) (by simp)
    have e : (⟨g, 0, none⟩ : Addr).add inn.length = ⟨g, inn.length, none⟩ := by unfold Addr.add; split <;> simp_all
    rw [e] at h
    exact h
  have e0 : ((inn.length : Int) + 1 == 0) = false := beq_eq_false_iff_ne.2 (by omega)
  have k2 := (Kept.refl b w).setOwn 8 (.slice (some ⟨g, 0, none⟩) inn.length n)
  have HI := Lib.hid (hi _ sc last text pr (k2.same hs) (inner_pop hp) hl hd (fun u hu => ⟨(hpr u hu).1.same (fun i hi => k2.low i hi), (hpr u hu).2⟩) hlen)
  have K2 := Lib.hid k2
  have has := it.as2
  have hno := it.noM
  have IT := Lib.hid it
  simp only [List.length_append, List.length_cons, List.length_nil, Nat.zero_add] at c8
  clear hp hs hpr hi it k2
  cases sp with
  | none =>
    go_enter Tryz.func54, Tryz.ntmps54
    go_wp2_with fail
    have HM : ∀ (nm : String) (W' : World), nm = iname → (method 263 T (.pointer (some ⟨q, 0, none⟩)) nm).run Tryz.prog W' = .ok (fi, .pointer (some ⟨q, 0, none⟩)) W' := fun nm W' e => e ▸ IT.out.m q W'
    rw [HM]
    rotate_left
    kernel_rfl
    simp only [Result.andThen]
    rw [IT.out.call]
    rw [Oper.upon_enter]
    refine (HI.out).mono ?_
    rintro e w4 ⟨rfl, h4, k4⟩
    have X := Lib.hid (And.intro h4 (K2.out.trans k4))
    clear h4 k4 HM
    go_wp2_with fail
    go_end0
    exact ⟨rfl, X.out⟩
  | some sb =>
    go_enter Tryz.func54, Tryz.ntmps54
    go_wp2_with fail
    have HM : ∀ (nm : String) (W' : World), nm = iname → (method 263 T (.pointer (some ⟨q, 0, none⟩)) nm).run Tryz.prog W' = .ok (fi, .pointer (some ⟨q, 0, none⟩)) W' := fun nm W' e => e ▸ IT.out.m q W'
    rw [HM]
    rotate_left
    kernel_rfl
    simp only [Result.andThen]
    rw [IT.out.call]
    rw [Oper.upon_enter]
    refine (HI.out).mono ?_
    rintro e w4 ⟨rfl, h4, k4⟩
    have X := Lib.hid (And.intro h4 (K2.out.trans k4))
    clear h4 k4 HM
    go_wp2_with fail
    go_end0
    exact ⟨rfl, X.out⟩

theorem PI.alloc {b : Nat} {sc last : Int} {text : List UInt8} {inn pr : List Value} {w : World} (h : PI b sc last text inn pr w) (o : Obj) : PI b sc last text inn pr (w.alloc o) := by
  obtain ⟨iv, ad, buf, pv, h⟩ := h
  exact ⟨iv, ad, buf, pv, h.alloc o⟩

set_option maxRecDepth 100000 in
set_option maxHeartbeats 1000000 in
/-- nothing is to be printed around -/
theorem printInner_nil {b : Nat} (p : Bool) (w : World) (sc last : Int) (text : List UInt8) (pr : List Value) (hp : PI b sc last text [] pr w) :
    Calls Tryz.prog 50 #[.pointer (some ⟨b, 0, none⟩), .bool p] w fun e w' => e = .returned (.slice none 0 0) ∧ PI b sc last text [] pr w' ∧ Kept b w w' := by
  have hp2 := hp.alloc (.cells #[.slice none 0 0] 52)
  have hb : b < w.heap.size := by obtain ⟨_, _, _, _, h⟩ := hp; exact lt_of_block h.block
  have hK := (Kept.refl b w).alloc (by omega) (.cells #[.slice none 0 0] 52)
  have X := Lib.hid (And.intro hp2 hK)
  obtain ⟨iv, ad, buf, pv, h⟩ := hp2
  have c8 := h.cells.2.2.2.2.2.2.2.2.1
  obtain ⟨a, c, hv, _⟩ := (SliceOf.owned (I := fun _ => True) h.ivOwn (fun _ _ _ => trivial)).lay
  subst hv
  have hd0 : decide ((0 : Int) < 0) = false := by decide
  simp only [List.length_nil] at c8
  clear hp h hK
  cases p with
  | true =>
    go_enter Tryz.func50, Tryz.ntmps50
    go_wp2_with fail
    go_loopg [] 0 (fun k wr => w.alloc (.cells #[.slice none 0 0] 52) = wr)
    case atStart => rfl
    case round =>
      subst hrel
      go_wp2_with fail
      go_ret
      exact ⟨rfl, X.out⟩
  | false =>
    go_enter Tryz.func50, Tryz.ntmps50
    go_wp2_with fail
    go_loopg [] 0 (fun k wr => w.alloc (.cells #[.slice none 0 0] 52) = wr)
    case atStart => rfl
    case round =>
      subst hrel
      go_wp2_with fail
      go_ret
      exact ⟨rfl, X.out⟩

set_option maxRecDepth 100000 in
set_option maxHeartbeats 1000000 in
/-- one element is to be printed around -/
theorem printInner_one {b d m q : Nat} {w0 : World} {T : TypeId} {fi : FuncId} {lp : Int → Prop} {o : List UInt8} (it : InnerOf T fi) (hi : BodyI b w0 d m q fi [] lp o)
    (w : World) (sc last : Int) (text : List UInt8) (pr : List Value) (hs : Same (Low b) w0 w) (hp : PI b sc last text [.iface T (.pointer (some ⟨q, 0, none⟩))] pr w) (hl : lp last) (hd : pr.length + d ≤ 1000000)
    (hpr : ∀ u ∈ pr, NodeAt b w u ∧ m ≤ blkOf u) (hlen : text.length + o.length ≤ 140737488355328) :
    Calls Tryz.prog 50 #[.pointer (some ⟨b, 0, none⟩), .bool true] w fun e w' => e = .returned (.slice none 0 0) ∧ PI b sc (lastOf last o) (text ++ o) [] pr w' ∧ Kept b w w' := by
  have hp2 := hp.alloc (.cells #[.slice none 0 0] 52)
  have hb : b < w.heap.size := by obtain ⟨_, _, _, _, h⟩ := hp; exact lt_of_block h.block
  have hK := (Kept.refl b w).alloc (by omega) (.cells #[.slice none 0 0] 52)
  have HC := Lib.hid (printOneInner_any (inn := []) it hi (some ⟨w.heap.size, 0, none⟩) _ sc last text pr (hK.same hs) hp2 hl hd (by simp) (fun u hu => ⟨(hpr u hu).1.same (fun i hi => hK.low i hi), (hpr u hu).2⟩) hlen)
  have HP := Lib.hid hp2
  have HK := Lib.hid hK
  have HN := Lib.hid (heap_alloc_new w (.cells #[.slice none 0 0] 52))
  clear hp hp2 hs hi it hpr hK
  go_enter Tryz.func50, Tryz.ntmps50
  go_wp2_with fail
  go_loopg [] 1 (fun k wr => (k = 1 ∧ w.alloc (.cells #[.slice none 0 0] 52) = wr) ∨ (k = 0 ∧ Hid (PI b sc (lastOf last o) (text ++ o) [] pr wr) ∧ Hid (Kept b (w.alloc (.cells #[.slice none 0 0] 52)) wr)))
  case atStart => exact .inl ⟨rfl, rfl⟩
  case round =>
    rcases hrel with ⟨rfl, rfl⟩ | ⟨rfl, hp3, hk3⟩
    · obtain ⟨iv, ad, buf, pv, h⟩ := HP.out
      have c8 := h.cells.2.2.2.2.2.2.2.2.1
      obtain ⟨g, n, rfl, _, _⟩ := h.ivOwn.form (by simp)
      simp only [List.length_cons, List.length_nil] at c8
      have hd1 : decide ((0 : Int) < 1) = true := by decide
      clear h
      go_wp2_with fail
      refine (HC.out).mono ?_
      rintro e w3 ⟨rfl, h3, k3⟩
      have P3 := Lib.hid h3
      have K3 := Lib.hid k3
      clear h3 k3 c8
      go_wp2_with fail
      go_roundg 0
      case measure => omega
      case rel => exact .inr ⟨rfl, P3.out, K3.out⟩
    · obtain ⟨iv, ad, buf, pv, h⟩ := hp3.out
      have c8 := h.cells.2.2.2.2.2.2.2.2.1
      obtain ⟨a, c, hv, _⟩ := (SliceOf.owned (I := fun _ => True) h.ivOwn (fun _ _ _ => trivial)).lay
      subst hv
      simp only [List.length_nil] at c8
      have hd0 : decide ((0 : Int) < 0) = false := by decide
      have cs : wr.cell? ⟨w.heap.size, 0, none⟩ = some (.slice none 0 0) := cell_of_one (hk3.out.high _ _ _ _ HN.out (by omega) (by decide) (by decide))
      have XK := Lib.hid (HK.out.trans hk3.out)
      clear h
      go_wp2_with fail
      go_ret
      exact ⟨rfl, hp3.out, XK.out⟩

end Go.Proofs.YtcobcgkeojeagaaGreat
