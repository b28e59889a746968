/- Template.print, where nothing is to be printed around it. -/
import Derived.Test.YtcobcgkeojeagaaPList
import Derived.Defers
import Derived.StillTailTactics
import Derived.Deep.Cut
import Derived.Deep.CutRange
namespace Go.Proofs.Ytcobcgkeojeagaa
open Go.RowKit

def spc (l c : Int) : List UInt8 := if l = c then [32] else []

/-- a name with its arguments -/
def tcOut (o1 args : List UInt8) : List UInt8 := (o1 ++ spc (lastOf 0 o1) 60) ++ [60] ++ (args ++ spc (lastOf 60 args) 62) ++ [62]

theorem lastOf_ne {o : List UInt8} (h : o ≠ []) (l m : Int) : lastOf l o = lastOf m o := by
  unfold lastOf
  cases e : o.getLast? with
  | none => exact absurd (List.getLast?_eq_none_iff.1 e) h
  | some c => rfl

/-- nothing is laid where nothing lay -/
theorem PSt.bare {b : Nat} {sc last : Int} {text : List UInt8} {pr : List Value} {w : World} (h : PSt b sc last text (.slice none 0 0) [] pr w) : PSt b sc last text (.slice none 0 0) [] pr (w.setCell ⟨b, 8, none⟩ (.slice none 0 0)) := by
  obtain ⟨ad, buf, pv, h⟩ := h
  exact ⟨ad, buf, pv, heap_setCell_same h.block, h.adOk, h.put _ _ h.bufOwn (by decide), World.ownsRow_nil _ _ _ _, h.put _ _ h.pvOwn (by decide), .inl rfl⟩

theorem PSt.scope {b : Nat} {sc last : Int} {text : List UInt8} {iv : Value} {inn pr : List Value} {w : World} (h : PSt b sc last text iv inn pr w) (s2 : Int) : PSt b s2 last text iv inn pr (w.setCell ⟨b, 4, none⟩ (.int .i64 s2)) := by
  obtain ⟨ad, buf, pv, h⟩ := h
  exact ⟨ad, buf, pv, heap_setCell_same h.block, h.adOk, h.put _ _ h.bufOwn (by decide), h.put _ _ h.ivOwn (by decide), h.put _ _ h.pvOwn (by decide), h.apart⟩

theorem PSt.alloc {b : Nat} {sc last : Int} {text : List UInt8} {iv : Value} {inn pr : List Value} {w : World} (h : PSt b sc last text iv inn pr w) (o : Obj) : PSt b sc last text iv inn pr (w.alloc o) := by
  obtain ⟨ad, buf, pv, h⟩ := h
  exact ⟨ad, buf, pv, h.alloc o⟩

theorem PSt.drew {b : Nat} {sc last : Int} {text : List UInt8} {iv : Value} {inn pr : List Value} {w : World} (h : PSt b sc last text iv inn pr w) : PSt b sc last text iv inn pr w.drew := by
  obtain ⟨ad, buf, pv, h⟩ := h
  exact ⟨ad, buf, pv, h.drewN 1⟩

/-- the deferred function -/
theorem undo {b n0 n1 : Nat} (u : FrameMode) (w : World) (h0 : w.cell? ⟨n0, 0, none⟩ = some (.pointer (some ⟨b, 0, none⟩))) (h1 : w.cell? ⟨n1, 0, none⟩ = some (.slice none 0 0)) (c8 : w.cell? ⟨b, 8, none⟩ = some (.slice none 0 0)) (f8 : w.frozen? ⟨b, 8, none⟩ = false) :
    CallsD Try.prog 88 #[.pointer (some ⟨n1, 0, none⟩), .pointer (some ⟨n0, 0, none⟩)] u w fun e u' w' => u' = u ∧ (e = .returned (.tuple #[]) ∧ w' = w.setCell ⟨b, 8, none⟩ (.slice none 0 0)) := by
  go_enter_d Try.func88, Try.ntmps88
  go_wp2
  go_end0
  exact ⟨rfl, rfl⟩

set_option maxRecDepth 100000 in
set_option maxHeartbeats 4000000 in
theorem body_tmpl {b q d : Nat} {w0 : World} {x sv : Value} {its : List Item} {o1 : List UInt8} (hq : q < b) (hc : w0.heap[q]? = some (Obj.cells #[x, sv] 64 (0, 0)))
    (hx : Prints Bare b w0 d x o1) (ho : o1 ≠ []) (bx : blkOf x < q) (hits : ∀ it ∈ its, Empt b w0 it.v it.e ∧ (it.e = false → Prints Bare b w0 d it.v it.o) ∧ ∃ T q, it.v = .iface T (.pointer (some ⟨q, 0, none⟩)))
    (hb : ∀ it ∈ its, it.e = false → blkOf it.v < q) (hsv : SliceOf w0 (Low b) sv (its.map (·.v))) :
    Body Bare b w0 d q 87 (tcOut o1 (joinC (outs its))) := by
  intro w sc last text iv inn pr hs h hG hd hpr hlen
  obtain ⟨rfl, rfl⟩ := hG
  have hbw : b < w.heap.size := by obtain ⟨_, _, _, h⟩ := h; exact lt_of_block h.block
  have hmf : ∀ (fn : Fn) (first cap : Array Value) (w : World), (Instr.makeFunc fn first cap).run Try.prog w = .ok (.func fn first cap) w := fun _ _ _ _ => rfl
  have c8 : w.cell? ⟨b, 8, none⟩ = some (.slice none 0 0) := by obtain ⟨_, _, _, h⟩ := h; exact h.cells.2.2.2.2.2.2.2.2.1
  have f8 : w.frozen? ⟨b, 8, none⟩ = false := by obtain ⟨_, _, _, h⟩ := h; exact free_at h.block
  have hcw := (hs q hq).trans hc
  have q0 : w.cell? ⟨q, 0, none⟩ = some x := cell_at hcw rfl
  have H := Lib.hid h
  have HH := Lib.hid (And.intro hs (And.intro hpr (And.intro hx (And.intro hc (And.intro hits (And.intro hb (And.intro hsv (And.intro ho bx))))))))
  clear h hs hpr hx hc hits hb hsv hcw ho bx
  have k1 : Kept b w (((w.setCell ⟨b, 8, none⟩ (.slice none 0 0)).alloc (.cells #[.pointer (some ⟨b, 0, none⟩)] 87)).alloc (.cells #[.slice none 0 0] 59)) :=
    (((Kept.refl b w).setOwn 8 (.slice none 0 0)).alloc (by simp [World.setCell]; omega) _).alloc (by simp [World.setCell]; omega) _
  have p1 := ((PSt.bare H.out).alloc (.cells #[.pointer (some ⟨b, 0, none⟩)] 87)).alloc (.cells #[.slice none 0 0] 59)
  have n0 : (((w.setCell ⟨b, 8, none⟩ (.slice none 0 0)).alloc (.cells #[.pointer (some ⟨b, 0, none⟩)] 87)).alloc (.cells #[.slice none 0 0] 59)).heap[w.heap.size]? = some (Obj.cells #[.pointer (some ⟨b, 0, none⟩)] 87 (0, 0)) := by
    rw [Below.heap_alloc _ _ _ (by simp [World.setCell])]
    have h2 := heap_alloc_new (w.setCell ⟨b, 8, none⟩ (.slice none 0 0)) (.cells #[.pointer (some ⟨b, 0, none⟩)] 87)
    simpa [World.setCell] using h2
  have n1 : (((w.setCell ⟨b, 8, none⟩ (.slice none 0 0)).alloc (.cells #[.pointer (some ⟨b, 0, none⟩)] 87)).alloc (.cells #[.slice none 0 0] 59)).heap[w.heap.size + 1]? = some (Obj.cells #[.slice none 0 0] 59 (0, 0)) := by
    have h2 := heap_alloc_new ((w.setCell ⟨b, 8, none⟩ (.slice none 0 0)).alloc (.cells #[.pointer (some ⟨b, 0, none⟩)] 87)) (.cells #[.slice none 0 0] 59)
    simpa [World.setCell] using h2
  have K1 := Lib.hid k1
  have P1 := Lib.hid p1
  have N0 := Lib.hid n0
  have N1 := Lib.hid n1
  clear k1 p1 n0 n1
  go_enter_defers Try.func87, Try.ntmps87
  go_wp2_with fail
  generalize ((w.setCell ⟨b, 8, none⟩ (.slice none 0 0)).alloc (.cells #[.pointer (some ⟨b, 0, none⟩)] 87)).alloc (.cells #[.slice none 0 0] 59) = W1 at *
  have fr : ∀ W, Kept b W1 W → W.cell? ⟨w.heap.size, 0, none⟩ = some (.pointer (some ⟨b, 0, none⟩)) ∧ W.cell? ⟨w.heap.size + 1, 0, none⟩ = some (.slice none 0 0) := fun W k =>
    ⟨cell_of_one (k.high _ _ _ _ N0.out (by omega) (by decide) (by decide)), cell_of_one (k.high _ _ _ _ N1.out (by omega) (by decide) (by decide))⟩
  have FR := Lib.hid fr
  clear N0 N1 fr c8 f8 q0
  obtain ⟨d0, _⟩ := FR.out W1 (Kept.refl _ _)
  have q0 : W1.cell? ⟨q, 0, none⟩ = some x := by obtain ⟨hs, _, _, hc, _⟩ := HH.out; exact cell_at ((K1.out.low q hq).trans ((hs q hq).trans hc)) rfl
  go_still_tail 5, (by kernel_rfl)
  change wpList _ _ _ _ _ W1.drew
  have P2 := Lib.hid (PSt.drew P1.out)
  have K2 := Lib.hid (show Kept b w W1.drew from K1.out.drew)
  have K12 := Lib.hid (show Kept b W1 W1.drew from (Kept.refl _ _).drew)
  generalize W1.drew = W2 at *
  have hl := hlen
  simp only [tcOut, List.length_append, List.length_cons, List.length_nil] at hl
  have PX := Lib.hid (show Calls Try.prog 75 #[.pointer (some ⟨b, 0, none⟩), x] W2 fun e w' => e = .returned (.tuple #[]) ∧ PSt b sc (lastOf last o1) (text ++ o1) (.slice none 0 0) [] pr w' ∧ Kept b W2 w' by
    obtain ⟨hs, hpr, hx, _, _, _, _, _, bx⟩ := HH.out
    exact hx.call W2 sc last text _ [] pr (K2.out.same hs) P2.out ⟨rfl, rfl⟩ hd (fun u hu => ⟨(hpr u hu).1.same (fun i hi => K2.out.low i hi), Nat.lt_of_lt_of_le bx (hpr u hu).2⟩) (by omega))
  obtain ⟨d0, _⟩ := FR.out W2 K12.out
  clear P1 P2 q0
  go_wp2_with fail
  refine (PX.out).mono ?_
  rintro e W3 ⟨rfl, h3, k3⟩
  have K3 := Lib.hid (K12.out.trans k3)
  have KW3 := Lib.hid (K2.out.trans k3)
  have P3 := Lib.hid h3
  clear h3 k3 PX K12 K2 d0
  obtain ⟨d0, _⟩ := FR.out W3 K3.out
  have c0 : W3.cell? ⟨b, 0, none⟩ = some (.bool true) := by obtain ⟨_, _, _, h⟩ := P3.out; exact h.cells.1
  have c7 : W3.cell? ⟨b, 7, none⟩ = some (.int .u8 (lastOf last o1)) := by obtain ⟨_, _, _, h⟩ := P3.out; exact h.cells.2.2.2.2.2.2.2.1
  go_upto_if 29 with (fail)
  have hls : lastOf 0 o1 = lastOf last o1 := by obtain ⟨_, _, _, _, _, _, _, ho, _⟩ := HH.out; exact lastOf_ne ho 0 last
  have HLS := Lib.hid hls
  clear hls
  go_cut [] from 29 to 31 (fun wx => Hid (PSt b sc (lastOf last (o1 ++ spc (lastOf 0 o1) 60)) (text ++ (o1 ++ spc (lastOf 0 o1) 60)) (.slice none 0 0) [] pr wx) ∧ Hid (Kept b W1 wx))
  case first =>
    cases e6 : (lastOf last o1 == 60) with
    | true =>
      have HW := Lib.hid (writeByte_any P3.out 32 (by simp only [List.length_append]; omega))
      have E6 := Lib.hid (show lastOf 0 o1 = 60 by rw [HLS.out]; exact beq_iff_eq.1 e6)
      clear c0 c7
      go_wp2_with fail
      refine (HW.out).mono ?_
      rintro e w4 ⟨rfl, h4, k4⟩
      have H4 := Lib.hid h4
      have K4 := Lib.hid (K3.out.trans k4)
      clear h4 k4
      go_wp2_with fail
      go_meet
      refine ⟨?_, K4.out⟩
      show PSt _ _ _ _ _ _ _ _
      rw [E6.out, spc, if_pos rfl, ← lastOf_append, ← List.append_assoc]
      exact H4.out
    | false =>
      have E6 := Lib.hid (show ¬ lastOf 0 o1 = 60 by rw [HLS.out]; exact beq_eq_false_iff_ne.1 e6)
      clear c0 c7
      go_wp2_with fail
      go_meet
      refine ⟨?_, K3.out⟩
      show PSt _ _ _ _ _ _ _ _
      rw [spc, if_neg E6.out, List.append_nil]
      exact P3.out
  case rest =>
    obtain ⟨p4, k4⟩ := hcut
    have KW4 := Lib.hid (K1.out.trans k4.out)
    clear P3 K3 KW3 c0 c7 d0
    obtain ⟨d0, _⟩ := FR.out wc k4.out
    have c4 : wc.cell? ⟨b, 4, none⟩ = some (.int .i64 sc) := by obtain ⟨_, _, _, h⟩ := p4.out; exact h.cells.2.2.2.2.1
    have f4 : wc.frozen? ⟨b, 4, none⟩ = false := by obtain ⟨_, _, _, h⟩ := p4.out; exact free_at h.block
    have P5 := Lib.hid (PSt.scope p4.out 0)
    have K5 := Lib.hid (k4.out.setOwn 4 (.int .i64 0))
    have d5 := (FR.out _ K5.out).1
    have HW := Lib.hid (writeByte_any P5.out 60 (by simp only [List.length_append]; omega))
    clear p4 k4
    go_wp2_with fail
    refine (HW.out).mono ?_
    rintro e W6 ⟨rfl, h6, k6⟩
    have K6 := Lib.hid (K5.out.trans k6)
    have P6 := Lib.hid h6
    clear h6 k6 HW P5 K5 d5 c4 f4 d0
    obtain ⟨d0, _⟩ := FR.out W6 K6.out
    have KW6 := Lib.hid (K1.out.trans K6.out)
    have q1 : W6.cell? ⟨q, 1, none⟩ = some sv := by obtain ⟨hs, _, _, hc, _⟩ := HH.out; exact cell_at ((KW6.out.low q hq).trans ((hs q hq).trans hc)) rfl
    obtain ⟨sa, scap, hsve⟩ : ∃ sa scap, sv = .slice sa its.length scap := by obtain ⟨_, _, _, _, _, _, hsv, _, _⟩ := HH.out; obtain ⟨a, c, h, _⟩ := hsv.lay; rw [List.length_map] at h; exact ⟨a, c, h⟩
    go_wp2_with fail
    go_still_tail 7, (by kernel_rfl)
    change wpList _ _ _ _ _ W6.drew
    have P7 := Lib.hid (PSt.drew P6.out)
    have K7 := Lib.hid (show Kept b W1 W6.drew from K6.out.drew)
    have KW7 := Lib.hid (show Kept b w W6.drew from KW6.out.drew)
    generalize W6.drew = W7 at *
    have PL := Lib.hid (show Calls Try.prog 89 #[.pointer (some ⟨b, 0, none⟩), sv, .func (.func 90) #[.pointer (some ⟨b, 0, none⟩)] #[]] W7 fun e w' => e = .returned (.tuple #[]) ∧ PSt b 0 (lastOf 60 (joinC (outs its))) (text ++ (o1 ++ spc (lastOf 0 o1) 60) ++ [60] ++ joinC (outs its)) (.slice none 0 0) [] pr w' ∧ Kept b W7 w' by
      obtain ⟨hs, hpr, _, _, hits, hb, hsv, _, _⟩ := HH.out
      exact printList_any its sv W7 0 60 _ pr hits hsv (KW7.out.same hs) P7.out hd (fun u hu => ⟨(hpr u hu).1.same (fun i hi => KW7.out.low i hi), fun it hit he => Nat.lt_of_lt_of_le (hb it hit he) (hpr u hu).2⟩) (by simp only [List.length_append, List.length_cons, List.length_nil]; omega))
    clear P6 K6 KW6 P7 d0 q1
    obtain ⟨d0, _⟩ := FR.out W7 K7.out
    subst hsve
    go_wp2_with fail
    refine (PL.out).mono ?_
    rintro e W8 ⟨rfl, h8, k8⟩
    have K8 := Lib.hid (K7.out.trans k8)
    have P8 := Lib.hid h8
    clear h8 k8 PL K7 KW7 d0
    obtain ⟨d0, _⟩ := FR.out W8 K8.out
    have c2 := PSt.llvm P8.out
    have c7 : W8.cell? ⟨b, 7, none⟩ = some (.int .u8 (lastOf 60 (joinC (outs its)))) := by obtain ⟨_, _, _, h⟩ := P8.out; exact h.cells.2.2.2.2.2.2.2.1
    go_upto_region 12 with (fail)
    go_cut [60] from 49 to 60 (fun c wx => W8 = wx ∧ c = .bool (lastOf 60 (joinC (outs its)) == 62))
    case first =>
      cases e6 : (lastOf 60 (joinC (outs its)) == 62) with
      | true =>
        go_wp2_with fail
        go_meet
        exact ⟨rfl, congrArg Value.bool e6.symm⟩
      | false =>
        go_wp2_with fail
        go_meet
        exact ⟨rfl, congrArg Value.bool e6.symm⟩
    case rest =>
      obtain ⟨rfl, rfl⟩ := hcut
      go_upto_if 60 with (fail)
      go_cut [] from 60 to 62 (fun wx => Hid (PSt b 0 (lastOf 60 (joinC (outs its) ++ spc (lastOf 60 (joinC (outs its))) 62)) (text ++ (o1 ++ spc (lastOf 0 o1) 60) ++ [60] ++ (joinC (outs its) ++ spc (lastOf 60 (joinC (outs its))) 62)) (.slice none 0 0) [] pr wx) ∧ Hid (Kept b W1 wx))
      case first =>
        cases e6 : (lastOf 60 (joinC (outs its)) == 62) with
        | true =>
          have HW := Lib.hid (writeByte_any P8.out 32 (by simp only [List.length_append, List.length_cons, List.length_nil]; omega))
          have E6 := Lib.hid (beq_iff_eq.1 e6)
          clear c2 c7
          go_wp2_with fail
          refine (HW.out).mono ?_
          rintro e w4 ⟨rfl, h4, k4⟩
          have H4 := Lib.hid h4
          have K4 := Lib.hid (K8.out.trans k4)
          clear h4 k4
          go_wp2_with fail
          go_meet
          refine ⟨?_, K4.out⟩
          show PSt _ _ _ _ _ _ _ _
          rw [E6.out, spc, spc, if_pos rfl, ← lastOf_append, ← List.append_assoc]
          exact H4.out
        | false =>
          have E6 := Lib.hid (beq_eq_false_iff_ne.1 e6)
          clear c2 c7
          go_wp2_with fail
          go_meet
          refine ⟨?_, K8.out⟩
          show PSt _ _ _ _ _ _ _ _
          have e9 : spc (lastOf 60 (joinC (outs its))) 62 = [] := by rw [spc, if_neg E6.out]
          rw [e9, List.append_nil]
          exact P8.out
      case rest =>
        obtain ⟨p9, k9⟩ := hcut
        clear P8 K8 c2 c7 d0
        obtain ⟨d0, _⟩ := FR.out wc k9.out
        have HW := Lib.hid (writeByte_any p9.out 62 (by simp only [List.length_append, List.length_cons, List.length_nil]; omega))
        have K9 := Lib.hid k9.out
        clear p9 k9
        go_wp2_with fail
        refine (HW.out).mono ?_
        rintro e W10 ⟨rfl, h10, k10⟩
        have K10 := Lib.hid (K9.out.trans k10)
        have P10 := Lib.hid h10
        clear h10 k10 HW K9 d0
        obtain ⟨d0, d1⟩ := FR.out W10 K10.out
        have c4 : W10.cell? ⟨b, 4, none⟩ = some (.int .i64 0) := by obtain ⟨_, _, _, h⟩ := P10.out; exact h.cells.2.2.2.2.1
        have f4 : W10.frozen? ⟨b, 4, none⟩ = false := by obtain ⟨_, _, _, h⟩ := P10.out; exact free_at h.block
        go_wp2_with fail
        have P11 := PSt.bare (PSt.scope P10.out sc)
        have K11 := Lib.hid (K10.out.setOwn 4 (.int .i64 sc))
        have c8 : (W10.setCell ⟨b, 4, none⟩ (.int .i64 sc)).cell? ⟨b, 8, none⟩ = some (.slice none 0 0) := by obtain ⟨_, _, _, h⟩ := PSt.scope P10.out sc; exact h.cells.2.2.2.2.2.2.2.2.1
        have f8 : (W10.setCell ⟨b, 4, none⟩ (.int .i64 sc)).frozen? ⟨b, 8, none⟩ = false := by obtain ⟨_, _, _, h⟩ := PSt.scope P10.out sc; exact free_at h.block
        have X : Hid (PSt b sc (lastOf last (tcOut o1 (joinC (outs its)))) (text ++ tcOut o1 (joinC (outs its))) (.slice none 0 0) [] pr ((W10.setCell ⟨b, 4, none⟩ (.int .i64 sc)).setCell ⟨b, 8, none⟩ (.slice none 0 0))) := by
          show PSt _ _ _ _ _ _ _ _
          have e1 : lastOf last (tcOut o1 (joinC (outs its))) = ((62 : UInt8).toNat : Int) := by rw [tcOut, ← lastOf_append]; rfl
          rw [e1]
          simp only [tcOut, List.append_assoc] at P11 ⊢
          exact P11
        have XK := Lib.hid (K1.out.trans (K11.out.setOwn 8 (.slice none 0 0)))
        obtain ⟨e0, e1⟩ := FR.out _ K11.out
        clear P10 K10 K11 P11 c4 f4 d0 d1
        show Leaves _ _ _ _ _ _ _
        refine leaves_cons (f := 88) (args := #[.pointer (some ⟨w.heap.size + 1, 0, none⟩), .pointer (some ⟨w.heap.size, 0, none⟩)]) (by simp) (by simp [go_sem]) ?_
        refine (undo .returning _ e0 e1 c8 f8).mono ?_
        rintro e u' w'' ⟨rfl, rfl, rfl⟩
        exact ⟨_, results_none rfl _ _ _, rfl, X.out, XK.out⟩

end Go.Proofs.Ytcobcgkeojeagaa
