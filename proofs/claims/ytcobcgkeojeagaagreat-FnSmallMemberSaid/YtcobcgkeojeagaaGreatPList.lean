/- printList and isEmpty: elements with commas between, but for those that are empty. -/
import Derived.Test.YtcobcgkeojeagaaGreatToStr
namespace Go.Proofs.YtcobcgkeojeagaaGreat
open Go.RowKit

/-- texts with commas between -/
def joinC : List (List UInt8) → List UInt8
  | [] => []
  | x :: r => x ++ r.flatMap fun y => [44, 32] ++ y

theorem joinC_snoc (l : List (List UInt8)) (y : List UInt8) (h : l ≠ []) : joinC (l ++ [y]) = joinC l ++ [44, 32] ++ y := by
  cases l with
  | nil => exact absurd rfl h
  | cons x r => simp [joinC]

/-- isEmpty returns e of v, and turns nothing -/
def Empt (b : Nat) (w0 : World) (v : Value) (e : Bool) : Prop := ∀ w : World, Same (Low b) w0 w → Calls Tryz.prog 52 #[.pointer (some ⟨b, 0, none⟩), v] w fun r w' => r = .returned (.bool e) ∧ w = w'

/-- an element that is no pack -/
def NoPack (T : TypeId) : Prop := ∀ (a : Addr) (w : World),
  (Instr.typeAssert (.iface T (.pointer (some a))) 35 102 true).run Tryz.prog w = .ok (.tuple #[.pointer none, .bool false]) w ∧
  (Instr.typeAssert (.iface T (.pointer (some a))) 35 105 true).run Tryz.prog w = .ok (.tuple #[.pointer none, .bool false]) w ∧
  (Instr.typeAssert (.iface T (.pointer (some a))) 35 108 true).run Tryz.prog w = .ok (.tuple #[.pointer none, .bool false]) w

theorem noPack_name : NoPack 58 := fun _ _ => ⟨by kernel_rfl, by kernel_rfl, by kernel_rfl⟩
set_option maxRecDepth 100000 in
set_option maxHeartbeats 1000000 in
theorem empt_no (b : Nat) (w0 : World) {T : TypeId} (hT : NoPack T) (q : Nat) : Empt b w0 (.iface T (.pointer (some ⟨q, 0, none⟩))) false := by
  intro w _
  have h1 := fun W => (hT ⟨q, 0, none⟩ W).1
  have h2 := fun W => (hT ⟨q, 0, none⟩ W).2.1
  have h3 := fun W => (hT ⟨q, 0, none⟩ W).2.2
  clear hT
  go_enter Tryz.func52, Tryz.ntmps52
  go_wp2_with fail
  go_ret
  exact ⟨rfl, rfl⟩

/-- an element of the list: its value, whether it is empty, what it is printed to -/
structure Item where
  v : Value
  e : Bool
  o : List UInt8

def outs (l : List Item) : List (List UInt8) := (l.filter fun it => !it.e).map (·.o)

theorem outs_yes (l : List Item) {j : Nat} (h : j < l.length) (he : l[j].e = true) : outs (l.take (j + 1)) = outs (l.take j) := by
  rw [List.take_succ_eq_append_getElem h, outs, List.filter_append, List.map_append]
  simp [List.filter, he, outs]
theorem outs_no (l : List Item) {j : Nat} (h : j < l.length) (he : l[j].e = false) : outs (l.take (j + 1)) = outs (l.take j) ++ [l[j].o] := by
  rw [List.take_succ_eq_append_getElem h, outs, List.filter_append, List.map_append]
  simp [List.filter, he, outs]

theorem joinC_length_le (l : List (List UInt8)) (y : List UInt8) : (joinC l).length ≤ (joinC (l ++ [y])).length := by
  cases l with
  | nil => simp [joinC]
  | cons x r => simp [joinC]

theorem outs_take_le (l : List Item) (j : Nat) (h : j ≤ l.length) : (joinC (outs (l.take j))).length ≤ (joinC (outs l)).length := by
  obtain ⟨k, hk⟩ : ∃ k, l.length = j + k := ⟨l.length - j, by omega⟩
  induction k generalizing j with
  | zero => rw [List.take_of_length_le (by omega)]; exact Nat.le_refl _
  | succ k ih =>
    refine Nat.le_trans ?_ (ih (j + 1) (by omega) (by omega))
    have hlt : j < l.length := by omega
    cases he : l[j].e with
    | true => rw [outs_yes l hlt he]; exact Nat.le_refl _
    | false => rw [outs_no l hlt he]; exact joinC_length_le _ _

def skipFn (b : Nat) : Value := .func (.func 52) #[.pointer (some ⟨b, 0, none⟩)] #[]

theorem skip_some (b : Nat) (W : World) : (binOp .neq 98 (.func (.func 52) #[.pointer (some ⟨b, 0, none⟩)] #[]) .nilFunc).run Tryz.prog W = .ok (.bool true) W := by kernel_rfl

theorem PSt.llvm {b : Nat} {sc last : Int} {text : List UInt8} {iv : Value} {inn pr : List Value} {w : World} (h : PSt b sc last text iv inn pr w) : w.cell? ⟨b, 2, none⟩ = some (.bool false) := by
  obtain ⟨ad, buf, pv, h⟩ := h
  exact h.cells.2.2.1

set_option maxRecDepth 100000 in
set_option maxHeartbeats 2000000 in
theorem printList_any {b d : Nat} {w0 : World} (its : List Item) (sv : Value) (w : World) (sc last : Int) (text : List UInt8) (pr : List Value)
    (hits : ∀ it ∈ its, Empt b w0 it.v it.e ∧ (it.e = false → Prints Bare b w0 d it.v it.o) ∧ ∃ T q, it.v = .iface T (.pointer (some ⟨q, 0, none⟩))) (hsv : SliceOf w0 (Low b) sv (its.map (·.v))) (hs : Same (Low b) w0 w)
    (hp : PSt b sc last text (.slice none 0 0) [] pr w) (hd : pr.length + d ≤ 1000000) (hpr : ∀ u ∈ pr, NodeAt b w u ∧ ∀ it ∈ its, it.e = false → blkOf it.v < blkOf u) (hlen : text.length + (joinC (outs its)).length ≤ 140737488355328) :
    Calls Tryz.prog 99 #[.pointer (some ⟨b, 0, none⟩), sv, .func (.func 52) #[.pointer (some ⟨b, 0, none⟩)] #[]] w fun e w' => e = .returned (.tuple #[]) ∧ PSt b sc (lastOf last (joinC (outs its))) (text ++ joinC (outs its)) (.slice none 0 0) [] pr w' ∧ Kept b w w' := by
  obtain ⟨la, lc, rfl, hl1, hl2, hlr⟩ := hsv.lay
  rw [List.length_map] at hl1 ⊢
  have HR := Lib.hid hlr
  have HH := Lib.hid (And.intro hits (And.intro hs (And.intro hpr hp)))
  clear hsv hlr hits hs hpr hp
  have hnl : ((its.length : Int)) ≤ 9223372036854775807 := by omega
  clear hl1 hl2
  go_enter Tryz.func99, Tryz.ntmps99
  go_wp2_with fail
  go_loopg [6, 14] (its.length) (fun k x i wr => ∃ j : Nat, j + k = its.length ∧ i = .int .i64 j ∧ x = .bool (outs (its.take j)).isEmpty ∧
    Hid (PSt b sc (lastOf last (joinC (outs (its.take j)))) (text ++ joinC (outs (its.take j))) (.slice none 0 0) [] pr wr) ∧ Hid (Kept b w wr))
  case atStart =>
    refine ⟨0, by omega, rfl, rfl, ?_, Kept.refl b w⟩
    show PSt _ _ _ _ _ _ _ _
    simpa [outs, joinC, lastOf] using HH.out.2.2.2
  case round =>
    obtain ⟨j, hj, rfl, rfl, hps, hkp⟩ := hrel
    by_cases hlt : j < its.length
    · obtain ⟨hits, hs, hpr, _⟩ := HH.out
      have hsr := hkp.out.same hs
      have hget : (its.map (·.v))[j]? = some its[j].v := by simp [hlt]
      rcases HR.out with hnil | ⟨pb, off, rfl, hpb, hcell⟩
      · simp at hnil; subst hnil; simp at hlt
      have hc1 : wr.cell? ⟨pb, off + j, none⟩ = some its[j].v := by
        rw [World.cell?_of_block (w := w0) (hsr pb hpb)]
        exact hcell j _ hget
      obtain ⟨hem, hprn, T, q, hv⟩ := hits its[j] (List.getElem_mem hlt)
      have HE := Lib.hid (hem wr hsr)
      have HIT := Lib.hid (show its[j] ∈ its from List.getElem_mem hlt)
      have HPN := Lib.hid hprn
      clear hits hs hpr hsr hget hcell hem hprn hpb
      generalize hit : its[j] = it at *
      have HI := Lib.hid hit
      clear hit
      obtain ⟨v, e, o⟩ := it
      subst hv
      have hsk := fun W => skip_some b W
      cases e with
      | true =>
        have HO := Lib.hid (outs_yes its hlt (by rw [HI.out]))
        go_wp2_with fail
        refine (HE.out).mono ?_
        rintro e w1 ⟨rfl, rfl⟩
        go_wp2_with fail
        go_roundg (gk - 1)
        case measure => omega
        case rel => exact ⟨j + 1, by omega, by go_num, by rw [HO.out], by show PSt _ _ _ _ _ _ _ _; rw [HO.out]; exact hps.out, hkp.out⟩
      | false =>
        have HO := Lib.hid (outs_no its hlt (by rw [HI.out]))
        have hle := outs_take_le its (j + 1) (by omega)
        have HLE := Lib.hid hle
        clear hle
        rcases Bool.eq_false_or_eq_true (outs (its.take j)).isEmpty with hemp | hemp
        · have hnil : outs (its.take j) = [] := by simpa using hemp
          have HN := Lib.hid hnil
          clear hnil
          go_wp2_with fail
          refine (HE.out).mono ?_
          rintro e w1 ⟨rfl, rfl⟩
          obtain ⟨_, hs, hpr, _⟩ := HH.out
          have c2 := PSt.llvm hps.out
          have hfix : joinC (outs (its.take j)) = [] ∧ joinC (outs (its.take (j + 1))) = o := by
            rw [HO.out, HN.out, HI.out]
            exact ⟨rfl, by simp [joinC]⟩
          have HFX := Lib.hid hfix
          have hle : o.length ≤ (joinC (outs its)).length := by have := HLE.out; rw [hfix.2] at this; exact this
          have P := Lib.hid ((HPN.out trivial).call _ sc last text _ [] pr (hkp.out.same hs) (by have h := hps.out; rw [hfix.1, List.append_nil] at h; exact h) ⟨rfl, rfl⟩ hd (fun u hu => ⟨(hpr u hu).1.same (fun i hi => hkp.out.low i hi), (hpr u hu).2 _ HIT.out rfl⟩) (by omega))
          clear hs hpr hfix hle
          go_wp2_with fail
          refine (P.out).mono ?_
          rintro e w3 ⟨rfl, h3, k3⟩
          have H3 := Lib.hid h3
          have K3 := Lib.hid (hkp.out.trans k3)
          clear h3 k3
          go_wp2_with fail
          go_roundg (gk - 1)
          case measure => omega
          case rel => exact ⟨j + 1, by omega, by go_num, by rw [HO.out]; simp, by show PSt _ _ _ _ _ _ _ _; rw [HFX.out.2]; exact H3.out, K3.out⟩
        · have hnil : outs (its.take j) ≠ [] := by
            intro e
            rw [e] at hemp
            cases hemp
          have HN := Lib.hid hnil
          clear hnil
          go_wp2_with fail
          refine (HE.out).mono ?_
          rintro e w1 ⟨rfl, rfl⟩
          have hfix : joinC (outs (its.take (j + 1))) = joinC (outs (its.take j)) ++ [44, 32] ++ o := by
            rw [HO.out, HI.out, joinC_snoc _ _ HN.out]
          have HFX := Lib.hid hfix
          have hle : (joinC (outs (its.take j))).length + 2 + o.length ≤ (joinC (outs its)).length := by
            have := HLE.out
            rw [hfix] at this
            simp only [List.length_append, List.length_cons, List.length_nil] at this
            omega
          have W2 := Lib.hid (writeString_any hps.out ⟨#[44, 32]⟩ (by simp only [List.length_append]; show _ + _ + 2 ≤ _; omega))
          clear hfix
          go_wp2_with fail
          refine (W2.out).mono ?_
          rintro e w2 ⟨rfl, h2, k2⟩
          obtain ⟨_, hs, hpr, _⟩ := HH.out
          have c2 := PSt.llvm h2
          have k12 := hkp.out.trans k2
          have P := Lib.hid ((HPN.out trivial).call _ sc _ _ _ [] pr (k12.same hs) h2 ⟨rfl, rfl⟩ hd (fun u hu => ⟨(hpr u hu).1.same (fun i hi => k12.low i hi), (hpr u hu).2 _ HIT.out rfl⟩) (by simp only [List.length_append]; show _ + _ + 2 + _ ≤ _; omega))
          have K12 := Lib.hid k12
          clear hs hpr hle h2 k2 k12
          go_wp2_with fail
          refine (P.out).mono ?_
          rintro e w3 ⟨rfl, h3, k3⟩
          rw [lastOf_append, lastOf_append, List.append_assoc, List.append_assoc, ← List.append_assoc (joinC _), ← HFX.out] at h3
          have H3 := Lib.hid h3
          have K3 := Lib.hid (K12.out.trans k3)
          clear h3 k3
          go_wp2_with fail
          go_roundg (gk - 1)
          case measure => omega
          case rel => exact ⟨j + 1, by omega, by go_num, by rw [HO.out]; simp, H3.out, K3.out⟩
    · have hj' : j = its.length := by omega
      have HJ := Lib.hid hj'
      clear hj'
      go_wp2_with fail
      go_end0
      have h5 := hps.out
      rw [HJ.out, List.take_length] at h5
      exact ⟨rfl, h5, hkp.out⟩

end Go.Proofs.YtcobcgkeojeagaaGreat
