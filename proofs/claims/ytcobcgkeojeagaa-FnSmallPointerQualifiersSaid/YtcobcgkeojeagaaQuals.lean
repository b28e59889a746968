/- Qualifiers, and types that have some. -/
import Derived.Test.YtcobcgkeojeagaaSigns
namespace Go.Proofs.Ytcobcgkeojeagaa
open Go.RowKit

/-- texts with a blank between -/
def joinS : List (List UInt8) → List UInt8
  | [] => []
  | x :: r => x ++ r.flatMap fun y => [32] ++ y

theorem joinS_snoc (l : List (List UInt8)) (y : List UInt8) (h : l ≠ []) : joinS (l ++ [y]) = joinS l ++ [32] ++ y := by
  cases l with
  | nil => exact absurd rfl h
  | cons x r => simp [joinS]

theorem printer_qualifier : Printer 100 124 := ⟨ptrTy_of (by kernel_rfl), fun _ _ => by kernel_rfl, fun _ _ => by kernel_rfl⟩
theorem printer_quals : Printer 97 121 := ⟨ptrTy_of (by kernel_rfl), fun _ _ => by kernel_rfl, fun _ _ => by kernel_rfl⟩
theorem printer_twq : Printer 68 102 := ⟨ptrTy_of (by kernel_rfl), fun _ _ => by kernel_rfl, fun _ _ => by kernel_rfl⟩

/-- an element that prints no other: its method appends the bytes o, whatever is being printed -/
def Leaf (G : Value → List Value → Prop) (b : Nat) (w0 : World) (v : Value) (o : List UInt8) : Prop :=
  ∃ T f q, v = .iface T (.pointer (some ⟨q, 0, none⟩)) ∧ Printer T f ∧ ∀ (w : World) (sc last : Int) (text : List UInt8) (iv : Value) (inn pr : List Value), Same (Low b) w0 w → PSt b sc last text iv inn pr w → G iv inn →
    text.length + o.length ≤ 140737488355328 →
    Calls Try.prog f #[.pointer (some ⟨q, 0, none⟩), .pointer (some ⟨b, 0, none⟩)] w fun e w' => e = .returned (.tuple #[]) ∧ PSt b sc (lastOf last o) (text ++ o) iv inn pr w' ∧ Kept b w w'

set_option maxRecDepth 100000 in
set_option maxHeartbeats 1000000 in
theorem leaf_qualifier (G : Value → List Value → Prop) {b q : Nat} {w0 : World} {s : ByteArray} (hq : q < b) (hc : w0.heap[q]? = some (Obj.cells #[.string s, .slice none 0 0] 102 (0, 0))) :
    Leaf G b w0 (.iface 100 (.pointer (some ⟨q, 0, none⟩))) s.data.toList := by
  refine ⟨_, _, q, rfl, printer_qualifier, ?_⟩
  intro w sc last text iv inn pr hs h _ hlen
  have c0 : w.cell? ⟨q, 0, none⟩ = some (.string s) := cell_at ((hs q hq).trans hc) rfl
  have hss : s.data.toList.length = s.size := by rw [Array.length_toList]; rfl
  have HW := Lib.hid (writeString_any h s (by omega))
  have HC := Lib.hid ((hs q hq).trans hc)
  clear h hs hc hss
  go_enter Try.func124, Try.ntmps124
  go_wp2_with fail
  refine (HW.out).mono ?_
  rintro e w1 ⟨rfl, h1, k1⟩
  have c1 : w1.cell? ⟨q, 1, none⟩ = some (.slice none 0 0) := cell_at ((k1.low q hq).trans HC.out) rfl
  have hd0 : decide ((0 : Int) < 0) = false := by decide
  have X := Lib.hid (And.intro h1 k1)
  clear h1 k1
  go_wp2_with fail
  go_end0
  exact ⟨rfl, X.out⟩

/-- an element and what it is printed to -/
structure QPiece where
  v : Value
  o : List UInt8

theorem joinS_take (l : List QPiece) {j : Nat} (h : j < l.length) : joinS ((l.take (j + 1)).map (·.o)) = joinS ((l.take j).map (·.o)) ++ (if 0 < j then [32] else []) ++ l[j].o := by
  rw [List.take_succ_eq_append_getElem h, List.map_append]
  rcases Nat.eq_zero_or_pos j with h0 | h0
  · subst h0
    simp [joinS]
  · rw [if_pos h0]
    have hne : (l.take j).map (·.o) ≠ [] := by
      intro e
      have h2 : ((l.take j).map (·.o)).length = j := by rw [List.length_map, List.length_take]; omega
      rw [e] at h2
      simp at h2
      omega
    exact joinS_snoc _ _ hne

theorem joinS_take_le (l : List QPiece) (j : Nat) (h : j ≤ l.length) : (joinS ((l.take j).map (·.o))).length ≤ (joinS (l.map (·.o))).length := by
  obtain ⟨k, hk⟩ : ∃ k, l.length = j + k := ⟨l.length - j, by omega⟩
  induction k generalizing j with
  | zero => rw [List.take_of_length_le (by omega)]; exact Nat.le_refl _
  | succ k ih =>
    refine Nat.le_trans ?_ (ih (j + 1) (by omega) (by omega))
    rw [joinS_take l (show j < l.length by omega)]
    simp only [List.length_append]
    omega

set_option maxRecDepth 100000 in
set_option maxHeartbeats 2000000 in
theorem body_quals {G : Value → List Value → Prop} {b q d : Nat} {w0 : World} {sv : Value} {its : List QPiece} (hq : q < b) (hc : w0.heap[q]? = some (Obj.cells #[sv] 99 (0, 0)))
    (hits : ∀ it ∈ its, Leaf G b w0 it.v it.o) (hsv : SliceOf w0 (Low b) sv (its.map (·.v))) :
    Body G b w0 d q 121 (joinS (its.map (·.o))) := by
  intro w sc last text iv inn pr hs h hG hd hpr hlen
  have hcw := (hs q hq).trans hc
  have c0 : w.cell? ⟨q, 0, none⟩ = some sv := cell_at hcw rfl
  obtain ⟨la, lc, rfl, hl1, hl2, hlr⟩ := hsv.lay
  rw [List.length_map] at hl1 c0
  have HR := Lib.hid hlr
  have HH := Lib.hid (And.intro hits (And.intro hs (And.intro hpr (And.intro h hG))))
  have hnl : ((its.length : Int)) ≤ 9223372036854775807 := by omega
  clear h hs hcw hc hits hsv hlr hl1 hl2 hpr hG
  go_enter Try.func121, Try.ntmps121
  go_wp2_with fail
  go_loopg [4, 12] (its.length) (fun k x i wr => ∃ j : Nat, j + k = its.length ∧ i = .int .i64 j ∧ x = .bool (decide (j = 0)) ∧
    Hid (PSt b sc (lastOf last (joinS ((its.take j).map (·.o)))) (text ++ joinS ((its.take j).map (·.o))) iv inn pr wr) ∧ Hid (Kept b w wr))
  case atStart =>
    refine ⟨0, by omega, rfl, rfl, ?_, Kept.refl b w⟩
    show PSt _ _ _ _ _ _ _ _
    simpa [joinS, lastOf] using HH.out.2.2.2.1
  case round =>
    obtain ⟨j, hj, rfl, rfl, hps, hkp⟩ := hrel
    by_cases hlt : j < its.length
    · obtain ⟨hits, hs, hpr, _, hG⟩ := HH.out
      have hsr := hkp.out.same hs
      have hget : (its.map (·.v))[j]? = some its[j].v := by simp [hlt]
      rcases HR.out with hnil | ⟨pb, off, rfl, hpb, hcell⟩
      · simp at hnil; subst hnil; simp at hlt
      have hc1 : wr.cell? ⟨pb, off + j, none⟩ = some its[j].v := by
        rw [World.cell?_of_block (w := w0) (hsr pb hpb)]
        exact hcell j _ hget
      have hprn := hits its[j] (List.getElem_mem hlt)
      have HSN := Lib.hid (joinS_take its hlt)
      have HLE := Lib.hid (joinS_take_le its (j + 1) (by omega))
      obtain ⟨T, f, p, hv, pf, hbody⟩ := hprn
      have HP := Lib.hid (And.intro hbody (And.intro hsr (And.intro hpr (And.intro hG pf))))
      rw [hv] at hc1
      clear hits hs hpr hsr hget hcell hpb hG hv hbody pf
      by_cases hj0 : 0 < j
      · have hfix : joinS ((its.take (j + 1)).map (·.o)) = joinS ((its.take j).map (·.o)) ++ [32] ++ its[j].o := by rw [HSN.out, if_pos hj0]
        have HFX := Lib.hid hfix
        have hle : (joinS ((its.take j).map (·.o))).length + 1 + its[j].o.length ≤ (joinS (its.map (·.o))).length := by
          have := HLE.out
          rw [hfix] at this
          simp only [List.length_append, List.length_cons, List.length_nil] at this
          omega
        have W2 := Lib.hid (writeByte_any hps.out 32 (by simp only [List.length_append]; omega))
        have hne : decide (j = 0) = false := by simp; omega
        have hne2 : decide (j + 1 = 0) = false := by simp
        clear hfix
        go_wp2_with fail
        refine (W2.out).mono ?_
        rintro e w2 ⟨rfl, h2, k2⟩
        obtain ⟨hbody, _, hpr, hG, pf⟩ := HP.out
        obtain ⟨_, hs, _⟩ := HH.out
        have k12 := hkp.out.trans k2
        have P := Lib.hid (hbody w2 sc _ _ iv inn pr (k12.same hs) h2 hG (by simp only [List.length_append, List.length_cons, List.length_nil]; omega))
        have K12 := Lib.hid k12
        have PF := Lib.hid pf
        clear hs hpr hle h2 k2 k12 hbody hG pf
        go_wp2_with fail
        have HM : ∀ (nm : String) (W' : World), nm = mname → (method 283 T (.pointer (some ⟨p, 0, none⟩)) nm).run Try.prog W' = .ok (f, .pointer (some ⟨p, 0, none⟩)) W' := fun nm W' e => e ▸ PF.out.m p W'
        rw [HM]
        rotate_left
        kernel_rfl
        simp only [Result.andThen]
        rw [PF.out.call]
        rw [Oper.upon_enter]
        refine (P.out).mono ?_
        rintro e w3 ⟨rfl, h3, k3⟩
        have h3' : PSt b sc (lastOf last (joinS ((its.take (j + 1)).map (·.o)))) (text ++ joinS ((its.take (j + 1)).map (·.o))) iv inn pr w3 := by
          have e1 : lastOf (UInt8.toNat 32 : Int) its[j].o = lastOf last (joinS ((its.take j).map (·.o)) ++ [32] ++ its[j].o) := by rw [← lastOf_append, ← lastOf_append]; rfl
          rw [HFX.out, ← e1]
          simpa [List.append_assoc] using h3
        have H3 := Lib.hid h3'
        have K3 := Lib.hid (K12.out.trans k3)
        clear h3 k3 h3' HM
        go_wp2_with fail
        go_roundg (gk - 1)
        case measure => omega
        case rel => exact ⟨j + 1, by omega, by go_num, by rw [hne2], H3.out, K3.out⟩
      · obtain rfl : j = 0 := by omega
        rw [Nat.add_zero] at hc1
        have hfix : joinS ((its.take (0 + 1)).map (·.o)) = its[0].o := by rw [HSN.out, if_neg hj0]; simp [joinS]
        have HFX := Lib.hid hfix
        have hle : its[0].o.length ≤ (joinS (its.map (·.o))).length := by have := HLE.out; rw [hfix] at this; exact this
        obtain ⟨hbody, _, hpr, hG, pf⟩ := HP.out
        obtain ⟨_, hs, _⟩ := HH.out
        have P := Lib.hid (hbody wr sc last text iv inn pr (hkp.out.same hs) (by have h := hps.out; simpa [joinS, lastOf] using h) hG (by omega))
        have PF := Lib.hid pf
        have hnt : decide ((0 : Nat) = 0) = true := by decide
        clear hs hpr hfix hle hbody hG pf
        go_wp2_with fail
        have HM : ∀ (nm : String) (W' : World), nm = mname → (method 283 T (.pointer (some ⟨p, 0, none⟩)) nm).run Try.prog W' = .ok (f, .pointer (some ⟨p, 0, none⟩)) W' := fun nm W' e => e ▸ PF.out.m p W'
        rw [HM]
        rotate_left
        kernel_rfl
        simp only [Result.andThen]
        rw [PF.out.call]
        rw [Oper.upon_enter]
        refine (P.out).mono ?_
        rintro e w3 ⟨rfl, h3, k3⟩
        have H3 := Lib.hid h3
        have K3 := Lib.hid (hkp.out.trans k3)
        clear h3 k3 HM
        go_wp2_with fail
        go_roundg (gk - 1)
        case measure => omega
        case rel => exact ⟨1, by omega, by go_num, rfl, by show PSt _ _ _ _ _ _ _ _; rw [HFX.out]; exact H3.out, K3.out⟩
    · have hj' : j = its.length := by omega
      have HJ := Lib.hid hj'
      clear hj'
      go_wp2_with fail
      go_end0
      have h5 := hps.out
      rw [HJ.out, List.take_length] at h5
      exact ⟨rfl, h5, hkp.out⟩

end Go.Proofs.Ytcobcgkeojeagaa
