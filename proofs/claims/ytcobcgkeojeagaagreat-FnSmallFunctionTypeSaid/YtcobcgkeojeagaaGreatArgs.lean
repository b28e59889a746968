/- FunctionType.printArgs: the parameters, behind what is to be printed around the function. -/
import Derived.Test.YtcobcgkeojeagaaGreatOneInner
namespace Go.Proofs.YtcobcgkeojeagaaGreat
open Go.RowKit

theorem as_ty_PointerType (a : Addr) (w : World) : (Instr.typeAssert (.iface 33 (.pointer (some a))) 35 91 true).run Tryz.prog w = .ok (.tuple #[.pointer none, .bool false]) w := by kernel_rfl
theorem as_ty_ReferenceType (a : Addr) (w : World) : (Instr.typeAssert (.iface 33 (.pointer (some a))) 35 92 true).run Tryz.prog w = .ok (.tuple #[.pointer none, .bool false]) w := by kernel_rfl
theorem as_ty_RvalueReferenceType (a : Addr) (w : World) : (Instr.typeAssert (.iface 33 (.pointer (some a))) 35 93 true).run Tryz.prog w = .ok (.tuple #[.pointer none, .bool false]) w := by kernel_rfl
theorem as_ty_TypeWithQualifiers (a : Addr) (w : World) : (Instr.typeAssert (.iface 33 (.pointer (some a))) 35 94 true).run Tryz.prog w = .ok (.tuple #[.pointer none, .bool false]) w := by kernel_rfl
theorem as_ty_ComplexType (a : Addr) (w : World) : (Instr.typeAssert (.iface 33 (.pointer (some a))) 35 95 true).run Tryz.prog w = .ok (.tuple #[.pointer none, .bool false]) w := by kernel_rfl
theorem as_ty_ImaginaryType (a : Addr) (w : World) : (Instr.typeAssert (.iface 33 (.pointer (some a))) 35 96 true).run Tryz.prog w = .ok (.tuple #[.pointer none, .bool false]) w := by kernel_rfl
theorem as_ty_PtrMem (a : Addr) (w : World) : (Instr.typeAssert (.iface 33 (.pointer (some a))) 35 41 true).run Tryz.prog w = .ok (.tuple #[.pointer none, .bool false]) w := by kernel_rfl
theorem as_me_PointerType (a : Addr) (w : World) : (Instr.typeAssert (.iface 41 (.pointer (some a))) 35 91 true).run Tryz.prog w = .ok (.tuple #[.pointer none, .bool false]) w := by kernel_rfl
theorem as_me_ReferenceType (a : Addr) (w : World) : (Instr.typeAssert (.iface 41 (.pointer (some a))) 35 92 true).run Tryz.prog w = .ok (.tuple #[.pointer none, .bool false]) w := by kernel_rfl
theorem as_me_RvalueReferenceType (a : Addr) (w : World) : (Instr.typeAssert (.iface 41 (.pointer (some a))) 35 93 true).run Tryz.prog w = .ok (.tuple #[.pointer none, .bool false]) w := by kernel_rfl
theorem as_me_TypeWithQualifiers (a : Addr) (w : World) : (Instr.typeAssert (.iface 41 (.pointer (some a))) 35 94 true).run Tryz.prog w = .ok (.tuple #[.pointer none, .bool false]) w := by kernel_rfl
theorem as_me_ComplexType (a : Addr) (w : World) : (Instr.typeAssert (.iface 41 (.pointer (some a))) 35 95 true).run Tryz.prog w = .ok (.tuple #[.pointer none, .bool false]) w := by kernel_rfl
theorem as_me_ImaginaryType (a : Addr) (w : World) : (Instr.typeAssert (.iface 41 (.pointer (some a))) 35 96 true).run Tryz.prog w = .ok (.tuple #[.pointer none, .bool false]) w := by kernel_rfl
theorem as_me_PtrMem (a : Addr) (w : World) : (Instr.typeAssert (.iface 41 (.pointer (some a))) 35 41 true).run Tryz.prog w = .ok (.tuple #[.pointer (some a), .bool true]) w := by kernel_rfl

/-- what is wanted of a function's parameters -/
def Params (b : Nat) (w0 : World) (d q : Nat) (its : List Piece) : Prop :=
  ∀ it ∈ its, Prints AnyInner b w0 d it.v it.o ∧ blkOf it.v < q ∧ Empt b w0 it.v false

theorem PI.bared {b : Nat} {sc last : Int} {text : List UInt8} {inn pr : List Value} {w : World} (h : PI b sc last text inn pr w) : PI b sc last text [] pr (w.setCell ⟨b, 8, none⟩ (.slice none 0 0)) := by
  obtain ⟨iv, ad, buf, pv, h⟩ := h
  exact ⟨_, ad, buf, pv, heap_setCell_same h.block, h.adOk, h.put _ _ h.bufOwn (by decide), World.ownsRow_nil _ _ _ _, h.put _ _ h.pvOwn (by decide), .inl rfl⟩

theorem PI.cell8 {b : Nat} {sc last : Int} {text : List UInt8} {inn pr : List Value} {w : World} (h : PI b sc last text inn pr w) : (∃ a c, w.cell? ⟨b, 8, none⟩ = some (.slice a inn.length c)) ∧ w.frozen? ⟨b, 8, none⟩ = false := by
  obtain ⟨iv, ad, buf, pv, h⟩ := h
  obtain ⟨a, c, rfl, _⟩ := (SliceOf.owned (I := fun _ => True) h.ivOwn (fun _ _ _ => trivial)).lay
  exact ⟨⟨a, c, h.cells.2.2.2.2.2.2.2.2.1⟩, free_at h.block⟩

theorem PI.cell7 {b : Nat} {sc last : Int} {text : List UInt8} {inn pr : List Value} {w : World} (h : PI b sc last text inn pr w) : w.cell? ⟨b, 7, none⟩ = some (.int .u8 last) := by
  obtain ⟨iv, ad, buf, pv, h⟩ := h
  exact h.cells.2.2.2.2.2.2.2.1

/-- the last bracket -/
theorem last_close (last : Int) (o : List UInt8) : lastOf last (o ++ [41]) = (UInt8.toNat 41 : Int) := by
  rw [← lastOf_append]
  rfl

set_option maxRecDepth 100000 in
set_option maxHeartbeats 4000000 in
theorem args_none {b d q : Nat} {w0 : World} {ret : Value} {la : Option Addr} {lc : Nat} {its : List Piece} (hq : q < b) (hc : w0.heap[q]? = some (Obj.cells #[ret, .slice la its.length lc, .bool false] 63 (0, 0)))
    (hits : Params b w0 d q its) (hsv : SliceOf w0 (Low b) (.slice la its.length lc) (its.map (·.v))) :
    Body2 b w0 d q 48 [] [] AnyLast ([40] ++ joinC (its.map (·.o)) ++ [41]) := by
  intro w sc last text pr hs hp _ h0 h1 hd hpr hlen
  simp only [List.length_append, List.length_cons, List.length_nil] at hlen
  obtain ⟨⟨a8, n8, c8⟩, _⟩ := PI.cell8 hp
  have NI := Lib.hid (printInner_nil true w sc last text pr hp)
  simp only [List.length_nil] at c8
  have hd0 : decide ((0 : Int) ≤ -1) = false := by decide
  have HA := Lib.hid (And.intro hs (And.intro hpr (And.intro hc (And.intro hits hsv))))
  clear hp hs hpr hc hits hsv
  go_enter Tryz.func48, Tryz.ntmps48
  go_wp2_with fail
  go_loopg [4, 5, 6] 0 (fun k p s i wr => w = wr ∧ p = .bool false ∧ s = .bool false ∧ i = .int .i64 (-1))
  case atStart => exact ⟨rfl, rfl, rfl, rfl⟩
  case round =>
    obtain ⟨rfl, rfl, rfl, rfl⟩ := hrel
    go_wp2_with fail
    refine (NI.out).mono ?_
    rintro e W0 ⟨rfl, hp0, k0⟩
    have P0 := Lib.hid hp0
    have K0 := Lib.hid k0
    obtain ⟨hs, hpr, hc, hits, hsv⟩ := HA.out
    clear hp0 k0 NI c8 HA
    have hnl : ((its.length : Int)) ≤ 9223372036854775807 := by
      obtain ⟨_, _, _, h3, h4, _⟩ := hsv.lay
      rw [List.length_map] at h3
      omega
    have HS := Lib.hid (And.intro hs (And.intro hpr (And.intro hc (And.intro hits hsv))))
    obtain ⟨iv1, p1⟩ := P0.out
    have S1 := Lib.hid (startScope_any p1 40 h0 (by omega) (by first | omega | (simp only [List.length_append, List.length_cons, List.length_nil]; omega)))
    clear p1 hs hpr hc hits hsv
    go_wp2_with fail
    refine (S1.out).mono ?_
    rintro e W1 ⟨rfl, h1', k1⟩
    obtain ⟨hs, hpr, hc, hits, hsv⟩ := HS.out
    have k01 := K0.out.trans k1
    have q2 : W1.cell? ⟨q, 2, none⟩ = some (.bool false) := cell_at ((k01.same hs q hq).trans hc) rfl
    have q1 : W1.cell? ⟨q, 1, none⟩ = some (.slice la its.length lc) := cell_at ((k01.same hs q hq).trans hc) rfl
    have hlr := ((hsv.same hs).same (Same.mono (J := Low b) (fun i hi => k01.low i hi) (fun i hi => hi))).lay
    have P1 := Lib.hid h1'
    have K1 := Lib.hid k01
    clear hs hpr hc hits hsv h1' k1 k01 S1
    go_wp2_with fail
    go_loopg [8, 107] (its.length) (fun k x i wr => ∃ j : Nat, j + k = its.length ∧ i = .int .i64 j ∧ x = .bool (decide (j = 0)) ∧
      Hid (PSt b (sc + 1) (lastOf (UInt8.toNat 40 : Int) (joinC ((its.take j).map (·.o)))) (text ++ [40] ++ joinC ((its.take j).map (·.o))) iv1 [] pr wr) ∧ Hid (Kept b w wr))
    case atStart =>
      refine ⟨0, by omega, rfl, rfl, ?_, K1.out⟩
      show PSt _ _ _ _ _ _ _ _
      simpa [joinC, lastOf] using P1.out
    case round =>
      obtain ⟨j, hj, rfl, rfl, hps, hkp⟩ := hrel
      by_cases hlt : j < its.length
      · obtain ⟨hs, hpr, hc, hits, hsv⟩ := HS.out
        have hsr := hkp.out.same hs
        have hget : (its.map (·.v))[j]? = some its[j].v := by simp [hlt]
        obtain ⟨pb, off, hla, hpb, hcell⟩ : ∃ pb off, la = some ⟨pb, off, none⟩ ∧ Low b pb ∧ ∀ i u, (its.map (·.v))[i]? = some u → w0.cell? ⟨pb, off + i, none⟩ = some u := by
          obtain ⟨a, c, hv, _, _, hr⟩ := hsv.lay
          rw [List.length_map] at hv
          simp only [Value.slice.injEq] at hv
          obtain ⟨rfl, _, rfl⟩ := hv
          rcases hr with hnil | h
          · simp at hnil; subst hnil; simp at hlt
          · exact h
        subst hla
        have hc1 : wr.cell? ⟨pb, off + j, none⟩ = some its[j].v := by
          rw [World.cell?_of_block (w := w0) (hsr pb hpb)]
          exact hcell j _ hget
        obtain ⟨hprn, hbk, hem⟩ := hits its[j] (List.getElem_mem hlt)
        have HSN := Lib.hid (joinC_take its hlt)
        have HLE := Lib.hid (joinC_take_le its (j + 1) (by omega))
        have HE := Lib.hid (hem wr hsr)
        obtain ⟨T, p, hv⟩ : ∃ T p, its[j].v = .iface T (.pointer (some ⟨p, 0, none⟩)) := by obtain ⟨T, f, q, _, _, _, hv, _⟩ := hprn; exact ⟨T, q, hv⟩
        have HP := Lib.hid (And.intro hprn (And.intro hbk (And.intro hs hpr)))
        rw [hv] at hc1 HE
        have HV := Lib.hid hv
        clear hs hpr hc hits hsv hsr hget hcell hprn hpb hbk hem hv hlr
        by_cases hj0 : 0 < j
        · have hfix : joinC ((its.take (j + 1)).map (·.o)) = joinC ((its.take j).map (·.o)) ++ [44, 32] ++ its[j].o := by rw [HSN.out, if_pos hj0]
          have HFX := Lib.hid hfix
          have hle : (joinC ((its.take j).map (·.o))).length + 2 + its[j].o.length ≤ (joinC (its.map (·.o))).length := by
            have := HLE.out
            rw [hfix] at this
            simp only [List.length_append, List.length_cons, List.length_nil] at this
            omega
          have W2 := Lib.hid (writeString_any hps.out ⟨#[44, 32]⟩ (by simp only [List.length_append, List.length_cons, List.length_nil]; show _ + 2 ≤ _; omega))
          have hne : decide (j = 0) = false := decide_eq_false (by omega)
          have hne2 : decide (j + 1 = 0) = false := by simp
          clear hfix
          go_wp2_with fail
          refine (HE.out).mono ?_
          rintro e w1 ⟨rfl, rfl⟩
          go_wp2_with fail
          refine (W2.out).mono ?_
          rintro e w2 ⟨rfl, h2, k2⟩
          obtain ⟨hprn, hbk, hs, hpr⟩ := HP.out
          have k12 := hkp.out.trans k2
          have P := Lib.hid (hprn.call _ (sc + 1) _ _ _ [] pr (k12.same hs) h2 trivial hd (fun u hu => ⟨(hpr u hu).1.same (fun i hi => k12.low i hi), Nat.lt_of_lt_of_le hbk (hpr u hu).2⟩) (by simp only [List.length_append, List.length_cons, List.length_nil]; show _ + 2 + _ ≤ _; omega))
          rw [HV.out] at P
          have K12 := Lib.hid k12
          clear hs hpr hle h2 k2 k12 hprn hbk
          go_wp2_with fail
          refine (P.out).mono ?_
          rintro e w3 ⟨rfl, h3, k3⟩
          rw [lastOf_append, lastOf_append, List.append_assoc, List.append_assoc, ← List.append_assoc (joinC _), ← HFX.out] at h3
          have H3 := Lib.hid h3
          have K3 := Lib.hid (K12.out.trans k3)
          clear h3 k3
          go_wp2_with fail
          go_roundg (gk - 1)
          case measure => omega
          case rel => exact ⟨j + 1, by omega, by go_num, by rw [hne2], H3.out, K3.out⟩
        · obtain rfl : j = 0 := by omega
          rw [Nat.add_zero] at hc1
          have hfix : joinC ((its.take (0 + 1)).map (·.o)) = its[0].o := by rw [HSN.out, if_neg hj0]; simp [joinC]
          have HFX := Lib.hid hfix
          have hle : its[0].o.length ≤ (joinC (its.map (·.o))).length := by have := HLE.out; rw [hfix] at this; exact this
          obtain ⟨hprn, hbk, hs, hpr⟩ := HP.out
          have P := Lib.hid (hprn.call _ (sc + 1) (UInt8.toNat 40 : Int) (text ++ [40]) _ [] pr (hkp.out.same hs) (by have h := hps.out; simpa [joinC, lastOf] using h) trivial hd (fun u hu => ⟨(hpr u hu).1.same (fun i hi => hkp.out.low i hi), Nat.lt_of_lt_of_le hbk (hpr u hu).2⟩) (by simp only [List.length_append, List.length_cons, List.length_nil]; omega))
          rw [HV.out] at P
          have hnt : decide ((0 : Nat) = 0) = true := by decide
          clear hs hpr hfix hle hprn hbk
          go_wp2_with fail
          refine (HE.out).mono ?_
          rintro e w1 ⟨rfl, rfl⟩
          go_wp2_with fail
          refine (P.out).mono ?_
          rintro e w3 ⟨rfl, h3, k3⟩
          have H3 := Lib.hid h3
          have K3 := Lib.hid (hkp.out.trans k3)
          clear h3 k3
          go_wp2_with fail
          go_roundg (gk - 1)
          case measure => omega
          case rel => exact ⟨1, by omega, by go_num, rfl, by show PSt _ _ _ _ _ _ _ _; rw [HFX.out]; exact H3.out, K3.out⟩
      · have hj' : j = its.length := by omega
        have h5 := hps.out
        rw [hj', List.take_length] at h5
        have E1 := Lib.hid (endScope_any h5 41 h0 (by omega) (by simp only [List.length_append, List.length_cons, List.length_nil]; omega))
        clear hj' h5 hps hlr
        go_wp2_with fail
        refine (E1.out).mono ?_
        rintro e w6 ⟨rfl, h6, k6⟩
        have h6' : PI b sc (lastOf last ([40] ++ joinC (its.map (·.o)) ++ [41])) (text ++ ([40] ++ joinC (its.map (·.o)) ++ [41])) [] pr (w6.setCell ⟨b, 8, none⟩ (.slice none 0 0)) := by
          rw [last_close]
          have h7 := PI.bared ⟨iv1, h6⟩
          simpa only [List.append_assoc] using h7
        obtain ⟨⟨a8, n8, c8⟩, f8⟩ := PI.cell8 ⟨iv1, h6⟩
        have k7 := (hkp.out.trans k6).setOwn 8 (.slice none 0 0)
        have N1 := Lib.hid (printInner_nil false _ _ _ _ _ h6')
        have K7 := Lib.hid k7
        clear h6 k6 h6' k7 E1
        go_wp2_with fail
        refine (N1.out).mono ?_
        rintro e w8 ⟨rfl, h8, k8⟩
        have X := Lib.hid (And.intro h8 (K7.out.trans k8))
        clear h8 k8 N1 K7
        go_wp2_with fail
        go_end0
        exact ⟨rfl, X.out⟩

set_option maxRecDepth 100000 in
set_option maxHeartbeats 4000000 in
theorem args_typed {b d q : Nat} {w0 : World} {ret : Value} {la : Option Addr} {lc : Nat} {its : List Piece} (hq : q < b) (hc : w0.heap[q]? = some (Obj.cells #[ret, .slice la its.length lc, .bool false] 63 (0, 0)))
    (hits : Params b w0 d q its) (hsv : SliceOf w0 (Low b) (.slice la its.length lc) (its.map (·.v)))
    {p : Nat} {o1 : List UInt8} (hi : ∀ (w : World) (sc last : Int) (text : List UInt8) (pr : List Value), Same (Low b) w0 w → PI b sc last text [.iface 33 (.pointer (some ⟨p, 0, none⟩))] pr w → pr.length + d ≤ 1000000 →
      (∀ u ∈ pr, NodeAt b w u ∧ q ≤ blkOf u) → text.length + o1.length ≤ 140737488355328 →
      Calls Tryz.prog 50 #[.pointer (some ⟨b, 0, none⟩), .bool true] w fun e w' => e = .returned (.slice none 0 0) ∧ PI b sc (lastOf last o1) (text ++ o1) [] pr w' ∧ Kept b w w') :
    Body2 b w0 d q 48 [.iface 33 (.pointer (some ⟨p, 0, none⟩))] [] AnyLast (o1 ++ [40] ++ joinC (its.map (·.o)) ++ [41]) := by
  intro w sc last text pr hs hp _ h0 h1 hd hpr hlen
  simp only [List.length_append, List.length_cons, List.length_nil] at hlen
  have NI := Lib.hid (hi w sc last text pr hs hp hd hpr (by omega))
  obtain ⟨iv, ad, buf, pv, h⟩ := hp
  have c8 := h.cells.2.2.2.2.2.2.2.2.1
  obtain ⟨g, n, rfl, _, _⟩ := h.ivOwn.form (by simp)
  have hel : w.cell? ⟨g, 0, none⟩ = some (.iface 33 (.pointer (some ⟨p, 0, none⟩))) := by
    have h' := h.ivOwn.cells (g := g) rfl 0 (.iface 33 (.pointer (some ⟨p, 0, none⟩))) (by simp)
    have e : (⟨g, 0, none⟩ : Addr).add 0 = ⟨g, 0, none⟩ := by unfold Addr.add; split <;> simp_all
    rw [e] at h'
    exact h'
  simp only [List.length_cons, List.length_nil] at c8
  have a1 := as_ty_PointerType
  have a2 := as_ty_ReferenceType
  have a3 := as_ty_RvalueReferenceType
  have a4 := as_ty_TypeWithQualifiers
  have a5 := as_ty_ComplexType
  have a6 := as_ty_ImaginaryType
  have a7 := as_ty_PtrMem
  have hd0 : decide ((0 : Int) ≤ -1) = false := by decide
  have hd1 : decide ((0 : Int) ≤ 0) = true := by decide
  have HA := Lib.hid (And.intro hs (And.intro hpr (And.intro hc (And.intro hits hsv))))
  clear h hs hpr hc hits hsv hi
  go_enter Tryz.func48, Tryz.ntmps48
  go_wp2_with fail
  go_loopg [4, 5, 6] 1 (fun k p s i wr => w = wr ∧ p = .bool false ∧ s = .bool false ∧ (k = 1 ∧ i = .int .i64 0 ∨ k = 0 ∧ i = .int .i64 (-1)))
  case atStart => exact ⟨rfl, rfl, rfl, .inl ⟨rfl, rfl⟩⟩
  case round =>
    obtain ⟨rfl, rfl, rfl, ⟨rfl, rfl⟩ | ⟨rfl, rfl⟩⟩ := hrel
    · go_wp2_with fail
      go_roundg 0
      case measure => omega
      case rel => exact ⟨rfl, rfl, rfl, .inr ⟨rfl, rfl⟩⟩
    · clear a1 a2 a3 a4 a5 a6 a7 hel
      go_wp2_with fail
      refine (NI.out).mono ?_
      rintro e W0 ⟨rfl, hp0, k0⟩
      have P0 := Lib.hid hp0
      have K0 := Lib.hid k0
      obtain ⟨hs, hpr, hc, hits, hsv⟩ := HA.out
      clear hp0 k0 NI c8 HA
      have hnl : ((its.length : Int)) ≤ 9223372036854775807 := by
        obtain ⟨_, _, _, h3, h4, _⟩ := hsv.lay
        rw [List.length_map] at h3
        omega
      have HS := Lib.hid (And.intro hs (And.intro hpr (And.intro hc (And.intro hits hsv))))
      obtain ⟨iv1, p1⟩ := P0.out
      have S1 := Lib.hid (startScope_any p1 40 h0 (by omega) (by first | omega | (simp only [List.length_append, List.length_cons, List.length_nil]; omega)))
      clear p1 hs hpr hc hits hsv
      go_wp2_with fail
      refine (S1.out).mono ?_
      rintro e W1 ⟨rfl, h1', k1⟩
      obtain ⟨hs, hpr, hc, hits, hsv⟩ := HS.out
      have k01 := K0.out.trans k1
      have q2 : W1.cell? ⟨q, 2, none⟩ = some (.bool false) := cell_at ((k01.same hs q hq).trans hc) rfl
      have q1 : W1.cell? ⟨q, 1, none⟩ = some (.slice la its.length lc) := cell_at ((k01.same hs q hq).trans hc) rfl
      have hlr := ((hsv.same hs).same (Same.mono (J := Low b) (fun i hi => k01.low i hi) (fun i hi => hi))).lay
      have P1 := Lib.hid h1'
      have K1 := Lib.hid k01
      clear hs hpr hc hits hsv h1' k1 k01 S1
      go_wp2_with fail
      go_loopg [8, 107] (its.length) (fun k x i wr => ∃ j : Nat, j + k = its.length ∧ i = .int .i64 j ∧ x = .bool (decide (j = 0)) ∧
        Hid (PSt b (sc + 1) (lastOf (UInt8.toNat 40 : Int) (joinC ((its.take j).map (·.o)))) ((text ++ o1) ++ [40] ++ joinC ((its.take j).map (·.o))) iv1 [] pr wr) ∧ Hid (Kept b w wr))
      case atStart =>
        refine ⟨0, by omega, rfl, rfl, ?_, K1.out⟩
        show PSt _ _ _ _ _ _ _ _
        simpa [joinC, lastOf] using P1.out
      case round =>
        obtain ⟨j, hj, rfl, rfl, hps, hkp⟩ := hrel
        by_cases hlt : j < its.length
        · obtain ⟨hs, hpr, hc, hits, hsv⟩ := HS.out
          have hsr := hkp.out.same hs
          have hget : (its.map (·.v))[j]? = some its[j].v := by simp [hlt]
          obtain ⟨pb, off, hla, hpb, hcell⟩ : ∃ pb off, la = some ⟨pb, off, none⟩ ∧ Low b pb ∧ ∀ i u, (its.map (·.v))[i]? = some u → w0.cell? ⟨pb, off + i, none⟩ = some u := by
            obtain ⟨a, c, hv, _, _, hr⟩ := hsv.lay
            rw [List.length_map] at hv
            simp only [Value.slice.injEq] at hv
            obtain ⟨rfl, _, rfl⟩ := hv
            rcases hr with hnil | h
            · simp at hnil; subst hnil; simp at hlt
            · exact h
          subst hla
          have hc1 : wr.cell? ⟨pb, off + j, none⟩ = some its[j].v := by
            rw [World.cell?_of_block (w := w0) (hsr pb hpb)]
            exact hcell j _ hget
          obtain ⟨hprn, hbk, hem⟩ := hits its[j] (List.getElem_mem hlt)
          have HSN := Lib.hid (joinC_take its hlt)
          have HLE := Lib.hid (joinC_take_le its (j + 1) (by omega))
          have HE := Lib.hid (hem wr hsr)
          obtain ⟨T, p, hv⟩ : ∃ T p, its[j].v = .iface T (.pointer (some ⟨p, 0, none⟩)) := by obtain ⟨T, f, q, _, _, _, hv, _⟩ := hprn; exact ⟨T, q, hv⟩
          have HP := Lib.hid (And.intro hprn (And.intro hbk (And.intro hs hpr)))
          rw [hv] at hc1 HE
          have HV := Lib.hid hv
          clear hs hpr hc hits hsv hsr hget hcell hprn hpb hbk hem hv hlr
          by_cases hj0 : 0 < j
          · have hfix : joinC ((its.take (j + 1)).map (·.o)) = joinC ((its.take j).map (·.o)) ++ [44, 32] ++ its[j].o := by rw [HSN.out, if_pos hj0]
            have HFX := Lib.hid hfix
            have hle : (joinC ((its.take j).map (·.o))).length + 2 + its[j].o.length ≤ (joinC (its.map (·.o))).length := by
              have := HLE.out
              rw [hfix] at this
              simp only [List.length_append, List.length_cons, List.length_nil] at this
              omega
            have W2 := Lib.hid (writeString_any hps.out ⟨#[44, 32]⟩ (by simp only [List.length_append, List.length_cons, List.length_nil]; show _ + 2 ≤ _; omega))
            have hne : decide (j = 0) = false := decide_eq_false (by omega)
            have hne2 : decide (j + 1 = 0) = false := by simp
            clear hfix
            go_wp2_with fail
            refine (HE.out).mono ?_
            rintro e w1 ⟨rfl, rfl⟩
            go_wp2_with fail
            refine (W2.out).mono ?_
            rintro e w2 ⟨rfl, h2, k2⟩
            obtain ⟨hprn, hbk, hs, hpr⟩ := HP.out
            have k12 := hkp.out.trans k2
            have P := Lib.hid (hprn.call _ (sc + 1) _ _ _ [] pr (k12.same hs) h2 trivial hd (fun u hu => ⟨(hpr u hu).1.same (fun i hi => k12.low i hi), Nat.lt_of_lt_of_le hbk (hpr u hu).2⟩) (by simp only [List.length_append, List.length_cons, List.length_nil]; show _ + 2 + _ ≤ _; omega))
            rw [HV.out] at P
            have K12 := Lib.hid k12
            clear hs hpr hle h2 k2 k12 hprn hbk
            go_wp2_with fail
            refine (P.out).mono ?_
            rintro e w3 ⟨rfl, h3, k3⟩
            rw [lastOf_append, lastOf_append, List.append_assoc, List.append_assoc, ← List.append_assoc (joinC _), ← HFX.out] at h3
            have H3 := Lib.hid h3
            have K3 := Lib.hid (K12.out.trans k3)
            clear h3 k3
            go_wp2_with fail
            go_roundg (gk - 1)
            case measure => omega
            case rel => exact ⟨j + 1, by omega, by go_num, by rw [hne2], H3.out, K3.out⟩
          · obtain rfl : j = 0 := by omega
            rw [Nat.add_zero] at hc1
            have hfix : joinC ((its.take (0 + 1)).map (·.o)) = its[0].o := by rw [HSN.out, if_neg hj0]; simp [joinC]
            have HFX := Lib.hid hfix
            have hle : its[0].o.length ≤ (joinC (its.map (·.o))).length := by have := HLE.out; rw [hfix] at this; exact this
            obtain ⟨hprn, hbk, hs, hpr⟩ := HP.out
            have P := Lib.hid (hprn.call _ (sc + 1) (UInt8.toNat 40 : Int) ((text ++ o1) ++ [40]) _ [] pr (hkp.out.same hs) (by have h := hps.out; simpa [joinC, lastOf] using h) trivial hd (fun u hu => ⟨(hpr u hu).1.same (fun i hi => hkp.out.low i hi), Nat.lt_of_lt_of_le hbk (hpr u hu).2⟩) (by simp only [List.length_append, List.length_cons, List.length_nil]; omega))
            rw [HV.out] at P
            have hnt : decide ((0 : Nat) = 0) = true := by decide
            clear hs hpr hfix hle hprn hbk
            go_wp2_with fail
            refine (HE.out).mono ?_
            rintro e w1 ⟨rfl, rfl⟩
            go_wp2_with fail
            refine (P.out).mono ?_
            rintro e w3 ⟨rfl, h3, k3⟩
            have H3 := Lib.hid h3
            have K3 := Lib.hid (hkp.out.trans k3)
            clear h3 k3
            go_wp2_with fail
            go_roundg (gk - 1)
            case measure => omega
            case rel => exact ⟨1, by omega, by go_num, rfl, by show PSt _ _ _ _ _ _ _ _; rw [HFX.out]; exact H3.out, K3.out⟩
        · have hj' : j = its.length := by omega
          have h5 := hps.out
          rw [hj', List.take_length] at h5
          have E1 := Lib.hid (endScope_any h5 41 h0 (by omega) (by simp only [List.length_append, List.length_cons, List.length_nil]; omega))
          clear hj' h5 hps hlr
          go_wp2_with fail
          refine (E1.out).mono ?_
          rintro e w6 ⟨rfl, h6, k6⟩
          have h6' : PI b sc (lastOf last (o1 ++ [40] ++ joinC (its.map (·.o)) ++ [41])) (text ++ (o1 ++ [40] ++ joinC (its.map (·.o)) ++ [41])) [] pr (w6.setCell ⟨b, 8, none⟩ (.slice none 0 0)) := by
            rw [last_close]
            have h7 := PI.bared ⟨iv1, h6⟩
            simpa only [List.append_assoc] using h7
          obtain ⟨⟨a8, n8, c8⟩, f8⟩ := PI.cell8 ⟨iv1, h6⟩
          have k7 := (hkp.out.trans k6).setOwn 8 (.slice none 0 0)
          have N1 := Lib.hid (printInner_nil false _ _ _ _ _ h6')
          have K7 := Lib.hid k7
          clear h6 k6 h6' k7 E1
          go_wp2_with fail
          refine (N1.out).mono ?_
          rintro e w8 ⟨rfl, h8, k8⟩
          have X := Lib.hid (And.intro h8 (K7.out.trans k8))
          clear h8 k8 N1 K7
          go_wp2_with fail
          go_end0
          exact ⟨rfl, X.out⟩

set_option maxRecDepth 100000 in
set_option maxHeartbeats 4000000 in
theorem args_mem {b d q : Nat} {w0 : World} {ret : Value} {la : Option Addr} {lc : Nat} {its : List Piece} (hq : q < b) (hc : w0.heap[q]? = some (Obj.cells #[ret, .slice la its.length lc, .bool false] 63 (0, 0)))
    (hits : Params b w0 d q its) (hsv : SliceOf w0 (Low b) (.slice la its.length lc) (its.map (·.v)))
    {p : Nat} {o1 : List UInt8} (hi : ∀ (w : World) (sc : Int) (text : List UInt8) (pr : List Value), Same (Low b) w0 w → PI b sc 40 text [.iface 41 (.pointer (some ⟨p, 0, none⟩))] pr w → pr.length + d ≤ 1000000 →
      (∀ u ∈ pr, NodeAt b w u ∧ q ≤ blkOf u) → text.length + o1.length ≤ 140737488355328 →
      Calls Tryz.prog 50 #[.pointer (some ⟨b, 0, none⟩), .bool true] w fun e w' => e = .returned (.slice none 0 0) ∧ PI b sc (lastOf 40 o1) (text ++ o1) [] pr w' ∧ Kept b w w') :
    Body2 b w0 d q 48 [.iface 41 (.pointer (some ⟨p, 0, none⟩))] [] (fun l => l = 32) ([40] ++ o1 ++ [41] ++ [40] ++ joinC (its.map (·.o)) ++ [41]) := by
  intro w sc last text pr hs hp hl h0 h1 hd hpr hlen
  subst hl
  simp only [List.length_append, List.length_cons, List.length_nil] at hlen
  have c7 := PI.cell7 hp
  obtain ⟨iv, ad, buf, pv, h⟩ := hp
  have c8 := h.cells.2.2.2.2.2.2.2.2.1
  obtain ⟨g, n, rfl, _, _⟩ := h.ivOwn.form (by simp)
  have hel : w.cell? ⟨g, 0, none⟩ = some (.iface 41 (.pointer (some ⟨p, 0, none⟩))) := by
    have h' := h.ivOwn.cells (g := g) rfl 0 (.iface 41 (.pointer (some ⟨p, 0, none⟩))) (by simp)
    have e : (⟨g, 0, none⟩ : Addr).add 0 = ⟨g, 0, none⟩ := by unfold Addr.add; split <;> simp_all
    rw [e] at h'
    exact h'
  have S0 := Lib.hid (startScope_any (b := b) (sc := sc) ⟨ad, buf, pv, h⟩ 40 h0 (by omega) (by omega))
  simp only [List.length_cons, List.length_nil] at c8
  have a1 := as_me_PointerType
  have a2 := as_me_ReferenceType
  have a3 := as_me_RvalueReferenceType
  have a4 := as_me_TypeWithQualifiers
  have a5 := as_me_ComplexType
  have a6 := as_me_ImaginaryType
  have a7 := as_me_PtrMem
  have hd1 : decide ((0 : Int) ≤ 0) = true := by decide
  have HA := Lib.hid (And.intro hs (And.intro hpr (And.intro hc (And.intro hits (And.intro hi hsv)))))
  clear h hs hpr hc hits hsv hi
  go_enter Tryz.func48, Tryz.ntmps48
  go_wp2_with fail
  go_loopg [4, 5, 6] 0 (fun k p s i wr => w = wr ∧ p = .bool false ∧ s = .bool false ∧ i = .int .i64 0)
  case atStart => exact ⟨rfl, rfl, rfl, rfl⟩
  case round =>
    obtain ⟨rfl, rfl, rfl, rfl⟩ := hrel
    go_wp2_with fail
    refine (S0.out).mono ?_
    rintro e Wa ⟨rfl, ha, ka⟩
    obtain ⟨hs, hpr, hc, hits, hi, hsv⟩ := HA.out
    have NI := Lib.hid (hi Wa (sc + 1) _ pr (ka.same hs) ⟨_, ha⟩ hd (fun u hu => ⟨(hpr u hu).1.same (fun i hi => ka.low i hi), (hpr u hu).2⟩) (by simp only [List.length_append, List.length_cons, List.length_nil]; omega))
    have KA := Lib.hid ka
    clear hs hpr hc hits hi hsv ha ka S0 a1 a2 a3 a4 a5 a6 a7 hel c8 c7
    go_wp2_with fail
    refine (NI.out).mono ?_
    rintro e Wb ⟨rfl, ⟨ivb, hb⟩, kb⟩
    have EB := Lib.hid (endScope_any hb 41 h0 (by omega) (by simp only [List.length_append, List.length_cons, List.length_nil]; omega))
    have KB := Lib.hid (KA.out.trans kb)
    clear hb kb NI KA
    go_wp2_with fail
    refine (EB.out).mono ?_
    rintro e W0 ⟨rfl, hp0, k0⟩
    have P0 : Hid (PI b sc _ _ [] pr W0) := ⟨_, hp0⟩
    have K0 := Lib.hid (KB.out.trans k0)
    obtain ⟨hs, hpr, hc, hits, _, hsv⟩ := HA.out
    clear hp0 k0 EB KB HA
    have hnl : ((its.length : Int)) ≤ 9223372036854775807 := by
      obtain ⟨_, _, _, h3, h4, _⟩ := hsv.lay
      rw [List.length_map] at h3
      omega
    have HS := Lib.hid (And.intro hs (And.intro hpr (And.intro hc (And.intro hits hsv))))
    obtain ⟨iv1, p1⟩ := P0.out
    have S1 := Lib.hid (startScope_any p1 40 h0 (by omega) (by first | omega | (simp only [List.length_append, List.length_cons, List.length_nil]; omega)))
    clear p1 hs hpr hc hits hsv
    go_wp2_with fail
    refine (S1.out).mono ?_
    rintro e W1 ⟨rfl, h1', k1⟩
    obtain ⟨hs, hpr, hc, hits, hsv⟩ := HS.out
    have k01 := K0.out.trans k1
    have q2 : W1.cell? ⟨q, 2, none⟩ = some (.bool false) := cell_at ((k01.same hs q hq).trans hc) rfl
    have q1 : W1.cell? ⟨q, 1, none⟩ = some (.slice la its.length lc) := cell_at ((k01.same hs q hq).trans hc) rfl
    have hlr := ((hsv.same hs).same (Same.mono (J := Low b) (fun i hi => k01.low i hi) (fun i hi => hi))).lay
    have P1 := Lib.hid h1'
    have K1 := Lib.hid k01
    clear hs hpr hc hits hsv h1' k1 k01 S1
    go_wp2_with fail
    go_loopg [8, 107] (its.length) (fun k x i wr => ∃ j : Nat, j + k = its.length ∧ i = .int .i64 j ∧ x = .bool (decide (j = 0)) ∧
      Hid (PSt b (sc + 1) (lastOf (UInt8.toNat 40 : Int) (joinC ((its.take j).map (·.o)))) ((text ++ [40] ++ o1 ++ [41]) ++ [40] ++ joinC ((its.take j).map (·.o))) iv1 [] pr wr) ∧ Hid (Kept b w wr))
    case atStart =>
      refine ⟨0, by omega, rfl, rfl, ?_, K1.out⟩
      show PSt _ _ _ _ _ _ _ _
      simpa [joinC, lastOf] using P1.out
    case round =>
      obtain ⟨j, hj, rfl, rfl, hps, hkp⟩ := hrel
      by_cases hlt : j < its.length
      · obtain ⟨hs, hpr, hc, hits, hsv⟩ := HS.out
        have hsr := hkp.out.same hs
        have hget : (its.map (·.v))[j]? = some its[j].v := by simp [hlt]
        obtain ⟨pb, off, hla, hpb, hcell⟩ : ∃ pb off, la = some ⟨pb, off, none⟩ ∧ Low b pb ∧ ∀ i u, (its.map (·.v))[i]? = some u → w0.cell? ⟨pb, off + i, none⟩ = some u := by
          obtain ⟨a, c, hv, _, _, hr⟩ := hsv.lay
          rw [List.length_map] at hv
          simp only [Value.slice.injEq] at hv
          obtain ⟨rfl, _, rfl⟩ := hv
          rcases hr with hnil | h
          · simp at hnil; subst hnil; simp at hlt
          · exact h
        subst hla
        have hc1 : wr.cell? ⟨pb, off + j, none⟩ = some its[j].v := by
          rw [World.cell?_of_block (w := w0) (hsr pb hpb)]
          exact hcell j _ hget
        obtain ⟨hprn, hbk, hem⟩ := hits its[j] (List.getElem_mem hlt)
        have HSN := Lib.hid (joinC_take its hlt)
        have HLE := Lib.hid (joinC_take_le its (j + 1) (by omega))
        have HE := Lib.hid (hem wr hsr)
        obtain ⟨T, p, hv⟩ : ∃ T p, its[j].v = .iface T (.pointer (some ⟨p, 0, none⟩)) := by obtain ⟨T, f, q, _, _, _, hv, _⟩ := hprn; exact ⟨T, q, hv⟩
        have HP := Lib.hid (And.intro hprn (And.intro hbk (And.intro hs hpr)))
        rw [hv] at hc1 HE
        have HV := Lib.hid hv
        clear hs hpr hc hits hsv hsr hget hcell hprn hpb hbk hem hv hlr
        by_cases hj0 : 0 < j
        · have hfix : joinC ((its.take (j + 1)).map (·.o)) = joinC ((its.take j).map (·.o)) ++ [44, 32] ++ its[j].o := by rw [HSN.out, if_pos hj0]
          have HFX := Lib.hid hfix
          have hle : (joinC ((its.take j).map (·.o))).length + 2 + its[j].o.length ≤ (joinC (its.map (·.o))).length := by
            have := HLE.out
            rw [hfix] at this
            simp only [List.length_append, List.length_cons, List.length_nil] at this
            omega
          have W2 := Lib.hid (writeString_any hps.out ⟨#[44, 32]⟩ (by simp only [List.length_append, List.length_cons, List.length_nil]; show _ + 2 ≤ _; omega))
          have hne : decide (j = 0) = false := decide_eq_false (by omega)
          have hne2 : decide (j + 1 = 0) = false := by simp
          clear hfix
          go_wp2_with fail
          refine (HE.out).mono ?_
          rintro e w1 ⟨rfl, rfl⟩
          go_wp2_with fail
          refine (W2.out).mono ?_
          rintro e w2 ⟨rfl, h2, k2⟩
          obtain ⟨hprn, hbk, hs, hpr⟩ := HP.out
          have k12 := hkp.out.trans k2
          have P := Lib.hid (hprn.call _ (sc + 1) _ _ _ [] pr (k12.same hs) h2 trivial hd (fun u hu => ⟨(hpr u hu).1.same (fun i hi => k12.low i hi), Nat.lt_of_lt_of_le hbk (hpr u hu).2⟩) (by simp only [List.length_append, List.length_cons, List.length_nil]; show _ + 2 + _ ≤ _; omega))
          rw [HV.out] at P
          have K12 := Lib.hid k12
          clear hs hpr hle h2 k2 k12 hprn hbk
          go_wp2_with fail
          refine (P.out).mono ?_
          rintro e w3 ⟨rfl, h3, k3⟩
          rw [lastOf_append, lastOf_append, List.append_assoc, List.append_assoc, ← List.append_assoc (joinC _), ← HFX.out] at h3
          have H3 := Lib.hid h3
          have K3 := Lib.hid (K12.out.trans k3)
          clear h3 k3
          go_wp2_with fail
          go_roundg (gk - 1)
          case measure => omega
          case rel => exact ⟨j + 1, by omega, by go_num, by rw [hne2], H3.out, K3.out⟩
        · obtain rfl : j = 0 := by omega
          rw [Nat.add_zero] at hc1
          have hfix : joinC ((its.take (0 + 1)).map (·.o)) = its[0].o := by rw [HSN.out, if_neg hj0]; simp [joinC]
          have HFX := Lib.hid hfix
          have hle : its[0].o.length ≤ (joinC (its.map (·.o))).length := by have := HLE.out; rw [hfix] at this; exact this
          obtain ⟨hprn, hbk, hs, hpr⟩ := HP.out
          have P := Lib.hid (hprn.call _ (sc + 1) (UInt8.toNat 40 : Int) ((text ++ [40] ++ o1 ++ [41]) ++ [40]) _ [] pr (hkp.out.same hs) (by have h := hps.out; simpa [joinC, lastOf] using h) trivial hd (fun u hu => ⟨(hpr u hu).1.same (fun i hi => hkp.out.low i hi), Nat.lt_of_lt_of_le hbk (hpr u hu).2⟩) (by simp only [List.length_append, List.length_cons, List.length_nil]; omega))
          rw [HV.out] at P
          have hnt : decide ((0 : Nat) = 0) = true := by decide
          clear hs hpr hfix hle hprn hbk
          go_wp2_with fail
          refine (HE.out).mono ?_
          rintro e w1 ⟨rfl, rfl⟩
          go_wp2_with fail
          refine (P.out).mono ?_
          rintro e w3 ⟨rfl, h3, k3⟩
          have H3 := Lib.hid h3
          have K3 := Lib.hid (hkp.out.trans k3)
          clear h3 k3
          go_wp2_with fail
          go_roundg (gk - 1)
          case measure => omega
          case rel => exact ⟨1, by omega, by go_num, rfl, by show PSt _ _ _ _ _ _ _ _; rw [HFX.out]; exact H3.out, K3.out⟩
      · have hj' : j = its.length := by omega
        have h5 := hps.out
        rw [hj', List.take_length] at h5
        have E1 := Lib.hid (endScope_any h5 41 h0 (by omega) (by simp only [List.length_append, List.length_cons, List.length_nil]; omega))
        clear hj' h5 hps hlr
        go_wp2_with fail
        refine (E1.out).mono ?_
        rintro e w6 ⟨rfl, h6, k6⟩
        have h6' : PI b sc (lastOf 32 ([40] ++ o1 ++ [41] ++ [40] ++ joinC (its.map (·.o)) ++ [41])) (text ++ ([40] ++ o1 ++ [41] ++ [40] ++ joinC (its.map (·.o)) ++ [41])) [] pr (w6.setCell ⟨b, 8, none⟩ (.slice none 0 0)) := by
          rw [last_close]
          have h7 := PI.bared ⟨iv1, h6⟩
          simpa only [List.append_assoc] using h7
        obtain ⟨⟨a8, n8, c8⟩, f8⟩ := PI.cell8 ⟨iv1, h6⟩
        have k7 := (hkp.out.trans k6).setOwn 8 (.slice none 0 0)
        have N1 := Lib.hid (printInner_nil false _ _ _ _ _ h6')
        have K7 := Lib.hid k7
        clear h6 k6 h6' k7 E1
        go_wp2_with fail
        refine (N1.out).mono ?_
        rintro e w8 ⟨rfl, h8, k8⟩
        have X := Lib.hid (And.intro h8 (K7.out.trans k8))
        clear h8 k8 N1 K7
        go_wp2_with fail
        go_end0
        exact ⟨rfl, X.out⟩

end Go.Proofs.YtcobcgkeojeagaaGreat
