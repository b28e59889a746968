/- The printer's print: it marks the element as being printed, prints it, and takes the mark away. -/
import Derived.Test.YtcobcgkeojeagaaGreatPsWrite
import Derived.Test.YtcobcgkeojeagaaGreatNames
import Derived.LaidEql
import Derived.BigQuiet
import Derived.Deep.QuietTactic
import Derived.WalkSmall
import Derived.Deep.AppendLies
namespace Go.Proofs.YtcobcgkeojeagaaGreat
open Go.RowKit

/-- the name of the method that prints, off the program's own table -/
noncomputable def mname : String := ((Tryz.prog.methodsAt 35).toList.getD 2 default).1

/-- a pointer type whose pointers are held against each other by their addresses -/
def PtrTy (T : TypeId) : Prop := ∃ te i j, Tryz.prog.underlying T = some (.pointer te) ∧ Tryz.prog.info? T = some i ∧ i.comparable = true ∧ Tryz.prog.info? te = some j ∧ j.size ≠ 0

/-- an element of a tree that lies in w -/
def IsNode (w : World) (v : Value) : Prop := ∃ T q cs t, v = .iface T (.pointer (some ⟨q, 0, none⟩)) ∧ PtrTy T ∧ w.heap[q]? = some (Obj.cells cs t (0, 0))

noncomputable def ptrTyB (T : TypeId) : Bool := match Tryz.prog.underlying T, Tryz.prog.info? T with
  | some (.pointer te), some i => i.comparable && (match Tryz.prog.info? te with
    | some j => decide (j.size ≠ 0)
    | none => false)
  | _, _ => false

theorem ptrTy_of {T : TypeId} (h : ptrTyB T = true) : PtrTy T := by
  unfold ptrTyB at h
  split at h
  · rename_i te i h1 h2
    rw [Bool.and_eq_true] at h
    obtain ⟨h3, h4⟩ := h
    split at h4
    · rename_i j h5
      exact ⟨te, i, j, h1, h2, h3, h5, by simpa using h4⟩
    · cases h4
  · cases h

theorem ptrTy_name : PtrTy 58 := ptrTy_of (by kernel_rfl)

theorem run_eql_nodes {w : World} {u v : Value} (hu : IsNode w u) (hv : IsNode w v) (hne : u ≠ v) : (binOp .eql 35 u v).run Tryz.prog w = .ok (.bool false) w := by
  obtain ⟨T, q, cs, t, rfl, ⟨te, i, j, h1, h2, h3, h4, h5⟩, hq⟩ := hu
  obtain ⟨T', q', cs', t', rfl, _, hq'⟩ := hv
  by_cases hT : T = T'
  · subst hT
    have hqq : (⟨q, 0, none⟩ : Addr) ≠ ⟨q', 0, none⟩ := fun e => hne (by rw [e])
    exact run_eql_iface_ptr_other (P := Tryz.prog) w Tryz.underlying35 h1 h2 h3 h4 h5 hqq hq hq'
  · simp only [binOp]
    have h : ∀ d : Nat, (Op.equalIn (d + 1) 35 (.iface T (.pointer (some ⟨q, 0, none⟩))) (.iface T' (.pointer (some ⟨q', 0, none⟩)))).run Tryz.prog w = .ok false w := fun d => by
      simp [Op.equalIn, run_underlying Tryz.underlying35, hT]
    simp [Op.equal, Op.maxDepth, h 9999]

theorem PS.drewN {b : Nat} {sc last : Int} {text : List UInt8} {iv : Value} {inn pr : List Value} {w : World} {ad : Option Addr} {buf pv : Value} (h : PS b sc last text iv inn pr w ad buf pv) (n : Nat) : PS b sc last text iv inn pr (w.drewN n) ad buf pv :=
  ⟨h.block, h.adOk, h.bufOwn, h.ivOwn, h.pvOwn, h.apart⟩
theorem Kept.drewN {b : Nat} {u w : World} (h : Kept b u w) (n : Nat) : Kept b u (w.drewN n) := ⟨h.os, h.tape, h.output, h.size, h.low, h.high⟩
theorem IsNode.kept {w w' : World} {v : Value} (h : IsNode w v) (hb : Same (fun i => i = blkOf v) w w') : IsNode w' v := by
  obtain ⟨T, q, cs, t, rfl, hT, hc⟩ := h
  exact ⟨T, q, cs, t, rfl, hT, by rw [hb q rfl]; exact hc⟩

/-- what the state is behind a print: its new parts are such as Q says -/
def Ends (b : Nat) (Q : Int → Int → List UInt8 → Value → List Value → Prop) (pr : List Value) (w : World) : Prop :=
  ∃ sc last text iv inn, Q sc last text iv inn ∧ PSt b sc last text iv inn pr w

structure Printer (T : TypeId) (f : FuncId) : Prop where
  ptr : PtrTy T
  m : ∀ (q : Nat) (W : World), (method 263 T (.pointer (some ⟨q, 0, none⟩)) mname).run Tryz.prog W = .ok (f, .pointer (some ⟨q, 0, none⟩)) W
  call : ∀ (args : Array Value) (W : World), (callFunc f args).run Tryz.prog W = .ok (.enter f args) W

theorem printer_name : Printer 58 63 := ⟨ptrTy_name, fun _ _ => by kernel_rfl, fun _ _ => by kernel_rfl⟩

/-- the element is put on the list of those being printed: the append, and the state behind the store -/
theorem print_push {b : Nat} {sc last : Int} {text : List UInt8} {iv : Value} {inn pr : List Value} {w : World} {ad : Option Addr} {buf pv : Value} (h : PS b sc last text iv inn pr w ad buf pv) (hn : pr.length ≤ 1000000) (a : Value) (ha : a.oneCell' = true) :
    ∃ pv' w', (Builtin.append_ #[52, 52] 52 #[pv, .slice (some ⟨w.heap.size, 0, none⟩) 1 1]).run Tryz.prog (w.alloc (.cells #[a] 35)) = .ok pv' w' ∧
      PS b sc last text iv inn (pr ++ [a]) (w'.setCell ⟨b, 9, none⟩ pv') ad buf pv' ∧ Kept b w (w'.setCell ⟨b, 9, none⟩ pv') ∧ w'.cell? ⟨b, 9, none⟩ = some pv ∧ w'.frozen? ⟨b, 9, none⟩ = false ∧
      ∃ g n, pv' = .slice (some ⟨g, 0, none⟩) (pr.length + 1) n := by
  obtain ⟨i0, hi, hz0, hz1, hz2⟩ := info_parts infoAST
  have h2 := h.alloc (.cells #[a] 35)
  have hbs := lt_of_block h.block
  obtain ⟨g, cap, w2, hrun, hown, hg, hat, _⟩ := run_append_lies (P := Tryz.prog) (w.alloc (.cells #[a] 35)) 52 52 b 35 i0 .nilIface 1 16 Tryz.underlying52 hi hz0 hz1 hz2 rfl (by decide) pv pr.length pr h2.pvOwn
    ⟨w.heap.size, 0, none⟩ 1 1 [a] rfl (World.news_of_block (cs := #[a]) (heap_alloc_new w _)) (fun u hu => by simp at hu; subst hu; exact ha) (by decide) (by simp [maxLen]; omega) (by omega) (by simp; omega) (w.heap.size + 1) (by simp)
  have hb : w2.heap[b]? = some (Obj.cells (psCells sc ad buf last iv pv) 54 (0, 0)) := by
    rw [hg.block b (by simp; omega) (ne_ownBlock h2.pvOwn h2.block (by decide))]
    exact h2.block
  have put : ∀ {e : TypeId} {v : Value} {n : Nat} {xs : List Value}, w2.ownsRow b e 1 v n xs → 54 ≠ e → (w2.setCell ⟨b, 9, none⟩ (.slice (some ⟨g, 0, none⟩) (pr.length + 1) cap)).ownsRow b e 1 v n xs := fun ho he =>
    ownsRow_setCell_other ho (a := ⟨b, 9, none⟩) (Ne.symm (ne_ownBlock ho hb he)) _
  have hbuf : w2.ownsRow b 5 1 buf text.length (Lib.byteCells text) := by
    refine h2.bufOwn.kept hg ?_
    rcases h2.bufOwn.2 with ⟨rfl, _⟩ | ⟨g, cap, cur, rfl, _, hgg, _⟩
    · exact .inl rfl
    · exact .inr (ne_ownBlock h2.pvOwn hgg (by decide))
  have hiv : w2.ownsRow b 35 1 iv inn.length inn := h2.ivOwn.kept hg h.apart
  refine ⟨_, w2, hrun, ⟨heap_setCell_same hb, h.adOk, put hbuf (by decide), put hiv (by decide), ?_, ?_⟩, ?_, cell_at hb rfl, free_at hb, g, cap, rfl⟩
  · have := put hown (by decide)
    simpa using this
  · rcases h.apart with h3 | h3
    · exact .inl h3
    · refine .inr ?_
      rcases hat with h4 | h4
      · intro e
        exact h3 (e.trans h4.symm)
      · intro e
        have := (h.ivOwn.lt g e).2
        omega
  · exact (((Kept.refl b w).alloc (by omega) (.cells #[a] 35)).grown hg (by simp; omega) h2.pvOwn (.inr rfl)).setOwn _ _

/-- .. and taken off it -/
theorem print_pop {b : Nat} {Q : Int → Int → List UInt8 → Value → List Value → Prop} {sc last : Int} {text : List UInt8} {iv : Value} {inn pr : List Value} {a : Value} {w : World} {ad : Option Addr} {buf : Value} {g n : Nat}
    (h : PS b sc last text iv inn (pr ++ [a]) w ad buf (.slice (some ⟨g, 0, none⟩) (pr ++ [a]).length n)) (hQ : Q sc last text iv inn) :
    Ends b Q pr (w.drew.setCell ⟨b, 9, none⟩ (.slice (some ⟨g, 0, none⟩) pr.length n)) := by
  refine ⟨sc, last, text, iv, inn, hQ, ad, buf, _, heap_setCell_same (w := w.drew) h.block, h.adOk, ?_, ?_, ?_, ?_⟩
  · exact ownsRow_setCell_other h.bufOwn.drew (a := ⟨b, 9, none⟩) (Ne.symm (ne_ownBlock h.bufOwn h.block (by decide))) _
  · exact ownsRow_setCell_other h.ivOwn.drew (a := ⟨b, 9, none⟩) (Ne.symm (ne_ownBlock h.ivOwn h.block (by decide))) _
  · have h1 : w.drew.ownsRow b 35 1 (.slice (some ⟨g, 0, none⟩) (pr.length + 1) n) (pr.length + 1) (pr ++ [a]) := by simpa using h.pvOwn.drew
    exact ownsRow_setCell_other (ownsRow_pop (by simp) h1) (a := ⟨b, 9, none⟩) (Ne.symm (ne_ownBlock h.pvOwn h.block (by decide))) _
  · exact h.apart

set_option maxRecDepth 100000 in
set_option maxHeartbeats 2000000 in
theorem print_any {b : Nat} {sc last : Int} {text : List UInt8} {iv : Value} {inn pr : List Value} {w : World} {T : TypeId} {f : FuncId} (pf : Printer T f) (q : Nat) (Q : Int → Int → List UInt8 → Value → List Value → Prop)
    (h : PSt b sc last text iv inn pr w) (hn : pr.length ≤ 1000000) (ha : IsNode w (.iface T (.pointer (some ⟨q, 0, none⟩)))) (hpr : ∀ u ∈ pr, IsNode w u ∧ u ≠ .iface T (.pointer (some ⟨q, 0, none⟩)))
    (call : ∀ w1, PSt b sc last text iv inn (pr ++ [.iface T (.pointer (some ⟨q, 0, none⟩))]) w1 → Kept b w w1 →
      Calls Tryz.prog f #[.pointer (some ⟨q, 0, none⟩), .pointer (some ⟨b, 0, none⟩)] w1 fun e w2 => e = .returned (.tuple #[]) ∧ Ends b Q (pr ++ [.iface T (.pointer (some ⟨q, 0, none⟩))]) w2 ∧ Kept b w1 w2) :
    Calls Tryz.prog 39 #[.pointer (some ⟨b, 0, none⟩), .iface T (.pointer (some ⟨q, 0, none⟩))] w fun e w' => e = .returned (.tuple #[]) ∧ Ends b Q pr w' ∧ Kept b w w' := by
  obtain ⟨ad, buf, pv, h⟩ := h
  have c3 := h.cells.2.2.2.1
  have c9 := h.cells.2.2.2.2.2.2.2.2.2
  obtain ⟨pa, pc, rfl, hpl, hpc, hpx⟩ := (SliceOf.owned (I := fun _ => True) h.pvOwn (fun _ _ _ => trivial)).lay
  have H := Lib.hid h
  have HP := Lib.hid hpx
  have HA := Lib.hid ha
  have HPR := Lib.hid hpr
  have HC := Lib.hid call
  have hd : decide ((0 : Int) < 0) = false := by decide
  clear h ha hpr call hpx hpl
  go_enter Tryz.func39, Tryz.ntmps39
  go_wp2_with fail
  go_quiet (fail)
  have K0 := Lib.hid ((Kept.refl b w).drewN nq)
  have H0 := H.out.drewN nq
  have HA0 := Lib.hid (show IsNode (w.drewN nq) _ from HA.out)
  have HPR0 := Lib.hid (show ∀ u ∈ pr, IsNode (w.drewN nq) u ∧ u ≠ .iface T (.pointer (some ⟨q, 0, none⟩)) from HPR.out)
  have HP0 := Lib.hid (show pr = [] ∨ ∃ b off, pa = some ⟨b, off, none⟩ ∧ True ∧ ∀ i u, pr[i]? = some u → (w.drewN nq).cell? ⟨b, off + i, none⟩ = some u from HP.out)
  clear c3 c9 H HA HPR HP hd
  generalize w.drewN nq = W at *
  have c9 := H0.cells.2.2.2.2.2.2.2.2.2
  have H := Lib.hid H0
  clear H0
  go_wp2_with fail
  clear c9
  go_loopg [28] (pr.length) (fun k i wr => W = wr ∧ ∃ j : Nat, j + k = pr.length ∧ i = .int .i64 j)
  case atStart => exact ⟨rfl, 0, by omega, rfl⟩
  case round =>
    obtain ⟨rfl, j, hj, rfl⟩ := hrel
    by_cases hlt : j < pr.length
    · rcases HP0.out with hnil | ⟨pb, off, rfl, _, hcell⟩
      · rw [hnil] at hlt; simp at hlt
      have hu : pr[j]? = some pr[j] := List.getElem?_eq_getElem hlt
      have hc := hcell j _ hu
      obtain ⟨hn1, hn2⟩ := HPR0.out pr[j] (List.getElem_mem hlt)
      have heq := run_eql_nodes hn1 HA0.out hn2
      obtain ⟨T', q', cs', t', hv', _⟩ := hn1
      rw [hv'] at hc heq
      have HV := Lib.hid hv'
      clear hcell hu hn2 hv'
      go_wp2_with fail
      go_roundg (gk - 1)
      case measure => omega
      case rel => exact ⟨rfl, j + 1, by omega, by go_num⟩
    · have hge : pr.length ≤ j := by omega
      have h1 := H.out
      have c9 := h1.cells.2.2.2.2.2.2.2.2.2
      have hbl := lt_of_block h1.block
      obtain ⟨i0, hi, hz0, hz1, hz2⟩ := info_parts infoAST
      obtain ⟨pv2, w2, hrun, p2, k2, d9, f9, g2, n2, hpv2⟩ := print_push h1 hn (.iface T (.pointer (some ⟨q, 0, none⟩))) rfl
      subst hpv2
      clear hi hz0 hz1 hz2 h1
      have HR := Lib.hid hrun
      have HCC := Lib.hid (HC.out _ ⟨_, _, _, p2⟩ (K0.out.trans k2))
      have HK := Lib.hid (K0.out.trans k2)
      clear hrun p2 k2
      go_wp2_with (at_builtin; refine wpList_append_run rfl _ _ _ _ rfl _ _ _ _ rfl rfl HR.out ?_)
      have HM : ∀ (nm : String) (W' : World), nm = mname → (method 263 T (.pointer (some ⟨q, 0, none⟩)) nm).run Tryz.prog W' = .ok (f, .pointer (some ⟨q, 0, none⟩)) W' := fun nm W' e => e ▸ pf.m q W'
      rw [HM]
      rotate_left
      kernel_rfl
      simp only [Result.andThen]
      rw [pf.call]
      rw [Oper.upon_enter]
      refine (HCC.out).mono ?_
      rintro e w3 ⟨rfl, hE, k3⟩
      obtain ⟨sc3, last3, text3, iv3, inn3, hQ, ad3, buf3, pv3, h3⟩ := hE
      have HK3 := Lib.hid (HK.out.trans k3)
      obtain ⟨g3, n3, rfl, _, _⟩ := h3.pvOwn.form (by simp)
      have hn3 : pr.length + 1 ≤ n3 := by
        rcases h3.pvOwn.2 with ⟨e, _⟩ | ⟨g', cap', cur, e, _, _, hnc, _⟩
        · cases e
        · cases e; simpa using hnc
      have e9 := h3.cells.2.2.2.2.2.2.2.2.2
      have f3 : w3.frozen? ⟨b, 9, none⟩ = false := free_at h3.block
      simp only [List.length_append, List.length_cons, List.length_nil, Nat.zero_add] at e9
      have H3 := Lib.hid h3
      have HQ := Lib.hid hQ
      clear hQ h3 k3 HCC HK HM d9 f9 c9 HR
      go_wp2_with fail
      go_region
      go_end0
      exact ⟨rfl, print_pop H3.out HQ.out, (HK3.out.drew).setOwn _ _⟩
end Go.Proofs.YtcobcgkeojeagaaGreat
