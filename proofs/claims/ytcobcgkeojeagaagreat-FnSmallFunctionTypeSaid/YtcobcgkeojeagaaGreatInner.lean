/- Types: what is still to be printed around them is pushed and popped. -/
import Derived.Test.YtcobcgkeojeagaaGreatTrees
namespace Go.Proofs.YtcobcgkeojeagaaGreat
open Go.RowKit

/-- the state, whatever slice holds what is still to be printed around -/
def PI (b : Nat) (sc last : Int) (text : List UInt8) (inn pr : List Value) (w : World) : Prop := ∃ iv, PSt b sc last text iv inn pr w

/-- an element is put on the list of what is to be printed around -/
theorem inner_push {b : Nat} {sc last : Int} {text : List UInt8} {iv : Value} {inn pr : List Value} {w : World} {ad : Option Addr} {buf pv : Value} (h : PS b sc last text iv inn pr w ad buf pv) (hn : inn.length ≤ 1000000) (a : Value) (ha : a.oneCell' = true) :
    ∃ iv' w', (Builtin.append_ #[52, 52] 52 #[iv, .slice (some ⟨w.heap.size, 0, none⟩) 1 1]).run Tryz.prog (w.alloc (.cells #[a] 35)) = .ok iv' w' ∧
      PS b sc last text iv' (inn ++ [a]) pr (w'.setCell ⟨b, 8, none⟩ iv') ad buf pv ∧ Kept b w (w'.setCell ⟨b, 8, none⟩ iv') ∧ w'.cell? ⟨b, 8, none⟩ = some iv ∧ w'.frozen? ⟨b, 8, none⟩ = false ∧
      ∃ g n, iv' = .slice (some ⟨g, 0, none⟩) (inn.length + 1) n := by
  obtain ⟨i0, hi, hz0, hz1, hz2⟩ := info_parts infoAST
  have h2 := h.alloc (.cells #[a] 35)
  have hbs := lt_of_block h.block
  obtain ⟨g, cap, w2, hrun, hown, hg, hat, _⟩ := run_append_lies (P := Tryz.prog) (w.alloc (.cells #[a] 35)) 52 52 b 35 i0 .nilIface 1 16 Tryz.underlying52 hi hz0 hz1 hz2 rfl (by decide) iv inn.length inn h2.ivOwn
    ⟨w.heap.size, 0, none⟩ 1 1 [a] rfl (World.news_of_block (cs := #[a]) (heap_alloc_new w _)) (fun u hu => by simp at hu; subst hu; exact ha) (by decide) (by simp [maxLen]; omega) (by omega) (by simp; omega) (w.heap.size + 1) (by simp)
  have hb : w2.heap[b]? = some (Obj.cells (psCells sc ad buf last iv pv) 54 (0, 0)) := by
    rw [hg.block b (by simp; omega) (ne_ownBlock h2.ivOwn h2.block (by decide))]
    exact h2.block
  have put : ∀ {e : TypeId} {v : Value} {n : Nat} {xs : List Value}, w2.ownsRow b e 1 v n xs → 54 ≠ e → (w2.setCell ⟨b, 8, none⟩ (.slice (some ⟨g, 0, none⟩) (inn.length + 1) cap)).ownsRow b e 1 v n xs := fun ho he =>
    ownsRow_setCell_other ho (a := ⟨b, 8, none⟩) (Ne.symm (ne_ownBlock ho hb he)) _
  have hbuf : w2.ownsRow b 5 1 buf text.length (Lib.byteCells text) := by
    refine h2.bufOwn.kept hg ?_
    rcases h2.bufOwn.2 with ⟨rfl, _⟩ | ⟨g, cap, cur, rfl, _, hgg, _⟩
    · exact .inl rfl
    · exact .inr (ne_ownBlock h2.ivOwn hgg (by decide))
  have hpv : w2.ownsRow b 35 1 pv pr.length pr := by
    refine h2.pvOwn.kept hg ?_
    rcases h.apart with h3 | h3
    · cases hp : pv.ownBlock with
      | none => exact .inl rfl
      | some g => exact .inr (by rw [h3]; simp)
    · exact .inr (Ne.symm h3)
  refine ⟨_, w2, hrun, ⟨heap_setCell_same hb, h.adOk, put hbuf (by decide), ?_, put hpv (by decide), ?_⟩, ?_, cell_at hb rfl, free_at hb, g, cap, rfl⟩
  · have := put hown (by decide)
    simpa using this
  · refine .inr ?_
    rcases hat with h4 | h4
    · rcases h.apart with h3 | h3
      · rw [h3] at h4; cases h4
      · intro e
        exact h3 (h4.trans e)
    · intro e
      have := (h.pvOwn.lt g e.symm).2
      omega
  · exact (((Kept.refl b w).alloc (by omega) (.cells #[a] 35)).grown hg (by simp; omega) h2.ivOwn (.inr rfl)).setOwn _ _

/-- .. and taken off it -/
theorem inner_pop {b : Nat} {sc last : Int} {text : List UInt8} {inn pr : List Value} {a : Value} {w : World} {ad : Option Addr} {buf pv : Value} {g n : Nat}
    (h : PS b sc last text (.slice (some ⟨g, 0, none⟩) (inn ++ [a]).length n) (inn ++ [a]) pr w ad buf pv) :
    PI b sc last text inn pr (w.setCell ⟨b, 8, none⟩ (.slice (some ⟨g, 0, none⟩) inn.length n)) := by
  refine ⟨_, ad, buf, pv, heap_setCell_same (w := w) h.block, h.adOk, ?_, ?_, ?_, ?_⟩
  · exact ownsRow_setCell_other h.bufOwn (a := ⟨b, 8, none⟩) (Ne.symm (ne_ownBlock h.bufOwn h.block (by decide))) _
  · have h1 : w.ownsRow b 35 1 (.slice (some ⟨g, 0, none⟩) (inn.length + 1) n) (inn.length + 1) (inn ++ [a]) := by simpa using h.ivOwn
    exact ownsRow_setCell_other (ownsRow_pop (by simp) h1) (a := ⟨b, 8, none⟩) (Ne.symm (ne_ownBlock h.ivOwn h.block (by decide))) _
  · exact ownsRow_setCell_other h.pvOwn (a := ⟨b, 8, none⟩) (Ne.symm (ne_ownBlock h.pvOwn h.block (by decide))) _
  · exact h.apart

theorem PI.drew {b : Nat} {sc last : Int} {text : List UInt8} {inn pr : List Value} {w : World} (h : PI b sc last text inn pr w) : PI b sc last text inn pr w.drew := by
  obtain ⟨iv, ad, buf, pv, h⟩ := h
  exact ⟨iv, ad, buf, pv, h.drewN 1⟩

/-- with these elements to be printed around, of which those stay: the method appends the bytes o (lp: of the last byte that was written) -/
def Body2 (b : Nat) (w0 : World) (d q : Nat) (f : FuncId) (inn inn' : List Value) (lp : Int → Prop) (o : List UInt8) : Prop :=
  ∀ (w : World) (sc last : Int) (text : List UInt8) (pr : List Value), Same (Low b) w0 w → PI b sc last text inn pr w → lp last → 0 ≤ sc → sc ≤ 1000000 → pr.length + d ≤ 1000000 →
    (∀ u ∈ pr, NodeAt b w u ∧ q ≤ blkOf u) → text.length + o.length ≤ 140737488355328 →
    Calls Tryz.prog f #[.pointer (some ⟨q, 0, none⟩), .pointer (some ⟨b, 0, none⟩)] w fun e w' => e = .returned (.tuple #[]) ∧ PI b sc (lastOf last o) (text ++ o) inn' pr w' ∧ Kept b w w'

def Prints2 (b : Nat) (w0 : World) (d : Nat) (v : Value) (inn inn' : List Value) (lp : Int → Prop) (o : List UInt8) : Prop :=
  ∃ T f q cs t d', v = .iface T (.pointer (some ⟨q, 0, none⟩)) ∧ Printer T f ∧ w0.heap[q]? = some (Obj.cells cs t (0, 0)) ∧ q < b ∧ d = d' + 1 ∧ Body2 b w0 d' q f inn inn' lp o

def AnyLast (_ : Int) : Prop := True

theorem Body.two {b : Nat} {w0 : World} {d q : Nat} {f : FuncId} {o : List UInt8} (h : Body AnyInner b w0 d q f o) (inn : List Value) (lp : Int → Prop) : Body2 b w0 d q f inn inn lp o := by
  intro w sc last text pr hs ⟨iv, hp⟩ _ _ _ hd hpr hlen
  refine (h w sc last text iv inn pr hs hp trivial hd hpr hlen).mono ?_
  rintro e w' ⟨rfl, h1, k1⟩
  exact ⟨rfl, ⟨iv, h1⟩, k1⟩

theorem Prints.two {b : Nat} {w0 : World} {d : Nat} {v : Value} {o : List UInt8} (h : Prints AnyInner b w0 d v o) (inn : List Value) (lp : Int → Prop) : Prints2 b w0 d v inn inn lp o := by
  obtain ⟨T, f, q, cs, t, d', hv, pf, hc, hq, hd, hb⟩ := h
  exact ⟨T, f, q, cs, t, d', hv, pf, hc, hq, hd, hb.two inn lp⟩

theorem Prints2.node {b : Nat} {w0 : World} {d : Nat} {v : Value} {inn inn' : List Value} {lp : Int → Prop} {o : List UInt8} (h : Prints2 b w0 d v inn inn' lp o) : NodeAt b w0 v := by
  obtain ⟨T, f, q, cs, t, d', rfl, pf, hc, hq, _⟩ := h
  exact ⟨⟨T, q, cs, t, rfl, pf.ptr, hc⟩, hq⟩

/-- print, called with such an element -/
theorem Prints2.call {b : Nat} {w0 : World} {d : Nat} {v : Value} {inn inn' : List Value} {lp : Int → Prop} {o : List UInt8} (h : Prints2 b w0 d v inn inn' lp o) (w : World) (sc last : Int) (text : List UInt8) (pr : List Value) (hs : Same (Low b) w0 w)
    (hp : PI b sc last text inn pr w) (hl : lp last) (h0 : 0 ≤ sc) (h1 : sc ≤ 1000000) (hd : pr.length + d ≤ 1000000) (hpr : ∀ u ∈ pr, NodeAt b w u ∧ blkOf v < blkOf u) (hlen : text.length + o.length ≤ 140737488355328) :
    Calls Tryz.prog 39 #[.pointer (some ⟨b, 0, none⟩), v] w fun e w' => e = .returned (.tuple #[]) ∧ PI b sc (lastOf last o) (text ++ o) inn' pr w' ∧ Kept b w w' := by
  have hn := h.node
  obtain ⟨iv, hp⟩ := hp
  obtain ⟨T, f, q, cs, t, d', rfl, pf, hc, hq, rfl, hb⟩ := h
  refine (print_any pf q (fun sc' last' text' _ inn2 => sc' = sc ∧ last' = lastOf last o ∧ text' = text ++ o ∧ inn2 = inn') hp (by omega) (hn.same hs).1 (fun u hu => ⟨(hpr u hu).1.1, fun e => by have := (hpr u hu).2; rw [e] at this; omega⟩) ?_).mono ?_
  · intro w1 h1' k1
    have hs1 := k1.same hs
    refine (hb w1 sc last text _ hs1 ⟨iv, h1'⟩ hl h0 h1 (by simp; omega) (fun u hu => ?_) hlen).mono ?_
    · rcases List.mem_append.1 hu with hu | hu
      · exact ⟨(hpr u hu).1.same (fun i hi => k1.low i hi), Nat.le_of_lt (hpr u hu).2⟩
      · simp at hu
        subst hu
        exact ⟨hn.same hs1, Nat.le_refl _⟩
    · rintro e w2 ⟨rfl, ⟨iv2, h2⟩, k2⟩
      exact ⟨rfl, ⟨_, _, _, _, _, ⟨rfl, rfl, rfl, rfl⟩, h2⟩, k2⟩
  · rintro e w' ⟨rfl, ⟨_, _, _, iv2, _, ⟨rfl, rfl, rfl, rfl⟩, h2⟩, k2⟩
    exact ⟨rfl, ⟨iv2, h2⟩, k2⟩

set_option maxRecDepth 100000 in
set_option maxHeartbeats 2000000 in
/-- ASTToString without options -/
theorem toString_two {w : World} {d : Nat} {v : Value} {inn' : List Value} {lp : Int → Prop} {o : List UInt8} (h : Prints2 w.heap.size w d v [] inn' lp o) (hl : lp 0) (hd : d ≤ 1000000) (hlen : o.length ≤ 140737488355328) :
    Calls Tryz.prog 13 #[v, .slice none 0 0] w fun e w' => e = .returned (.string ⟨o.toArray⟩) ∧ Below w.heap.size w w' := by
  obtain ⟨T, f, q, cs, t, d', rfl, pf, hc, hq, rfl, hb⟩ := h
  have HBd := Lib.hid hb
  clear hb hc
  go_enter Tryz.func13, Tryz.ntmps13
  go_wp2_with fail
  go_loopg [5, 6, 7, 8, 15] 0 (fun k x5 x6 x7 x8 i wr => w = wr ∧ i = .int .i64 0 ∧ x5 = .bool true ∧ x6 = .bool true ∧ x7 = .bool false ∧ x8 = .int .i64 0)
  case atStart => exact ⟨rfl, rfl, rfl, rfl, rfl, rfl⟩
  case round =>
    obtain ⟨rfl, rfl, rfl, rfl, rfl, rfl⟩ := hrel
    have hd0 : decide ((0 : Int) < 0) = false := by decide
    go_wp2_with fail
    have HM : ∀ (nm : String) (W' : World), nm = mname → (method 263 T (.pointer (some ⟨q, 0, none⟩)) nm).run Tryz.prog W' = .ok (f, .pointer (some ⟨q, 0, none⟩)) W' := fun nm W' e => e ▸ pf.m q W'
    rw [HM]
    rotate_left
    kernel_rfl
    simp only [Result.andThen]
    rw [pf.call]
    rw [Oper.upon_enter]
    have p0 : PSt w.heap.size 1 0 [] (.slice none 0 0) [] [] (w.alloc (.cells (psCells 1 none (.slice none 0 0) 0 (.slice none 0 0) (.slice none 0 0)) 54)) :=
      ⟨none, .slice none 0 0, .slice none 0 0, heap_alloc_new w _, .inl rfl, World.ownsRow_nil _ _ _ _, World.ownsRow_nil _ _ _ _, World.ownsRow_nil _ _ _ _, .inl rfl⟩
    have hcall := HBd.out _ 1 0 [] [] (fun i hi => Below.heap_alloc w _ i hi) ⟨_, p0⟩ hl (by decide) (by decide) (by simp; omega) (fun u hu => by cases hu) (by simpa using hlen)
    have HC := Lib.hid hcall
    clear hcall p0 HM
    refine (HC.out).mono ?_
    rintro e w1 ⟨rfl, ⟨iv1, h1⟩, k1⟩
    have HS := Lib.hid (bString_any h1 (by simpa using hlen))
    have HK := Lib.hid ((((Below.refl w.heap.size w).alloc (Nat.le_refl _) _).trans k1.below))
    clear h1 k1 HC HBd
    go_wp2_with fail
    refine (HS.out).mono ?_
    rintro e w2 ⟨rfl, b2⟩
    have HX := Lib.hid (HK.out.trans b2)
    clear b2 HS HK
    go_wp2_with fail
    go_ret
    exact ⟨rfl, HX.out⟩

/-- the name of the method that prints around -/
noncomputable def iname : String := ((Tryz.prog.methodsAt 116).toList.getD 0 default).1

/-- an element that is printed around others -/
structure InnerTy (T : TypeId) (fi : FuncId) : Prop where
  asrt : ∀ (a : Addr) (w : World), (Instr.typeAssert (.iface T (.pointer (some a))) 35 116 false).run Tryz.prog w = .ok (.iface T (.pointer (some a))) w
  m : ∀ (q : Nat) (W : World), (method 263 T (.pointer (some ⟨q, 0, none⟩)) iname).run Tryz.prog W = .ok (fi, .pointer (some ⟨q, 0, none⟩)) W
  call : ∀ (args : Array Value) (W : World), (callFunc fi args).run Tryz.prog W = .ok (.enter fi args) W

theorem inner_pointer : InnerTy 91 71 := ⟨fun _ _ => by kernel_rfl, fun _ _ => by kernel_rfl, fun _ _ => by kernel_rfl⟩

end Go.Proofs.YtcobcgkeojeagaaGreat
