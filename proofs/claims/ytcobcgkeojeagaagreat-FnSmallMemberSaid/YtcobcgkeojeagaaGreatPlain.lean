/- Elements that are printed in the order of their parts. -/
import Derived.Test.YtcobcgkeojeagaaGreatPrint
namespace Go.Proofs.YtcobcgkeojeagaaGreat
open Go.RowKit

/-- the blocks below b -/
def Low (b i : Nat) : Prop := i < b

theorem Kept.same {b : Nat} {w0 w w' : World} (h : Same (Low b) w0 w) (k : Kept b w w') : Same (Low b) w0 w' := h.trans fun i hi => k.low i hi

/-- an element of the tree, which lies below b -/
def NodeAt (b : Nat) (w : World) (v : Value) : Prop := IsNode w v ∧ blkOf v < b

theorem NodeAt.same {b : Nat} {w w' : World} {v : Value} (h : NodeAt b w v) (hs : Same (Low b) w w') : NodeAt b w' v :=
  ⟨h.1.kept fun i hi => hs i (by rw [hi]; exact h.2), h.2⟩

/-- whatever the state, the method of an element in block q appends the bytes o, and turns nothing else (G: of what is still to be printed around) -/
def Body (G : Value → List Value → Prop) (b : Nat) (w0 : World) (d q : Nat) (f : FuncId) (o : List UInt8) : Prop :=
  ∀ (w : World) (sc last : Int) (text : List UInt8) (iv : Value) (inn pr : List Value), Same (Low b) w0 w → PSt b sc last text iv inn pr w → G iv inn → pr.length + d ≤ 1000000 →
    (∀ u ∈ pr, NodeAt b w u ∧ q ≤ blkOf u) → text.length + o.length ≤ 140737488355328 →
    Calls Tryz.prog f #[.pointer (some ⟨q, 0, none⟩), .pointer (some ⟨b, 0, none⟩)] w fun e w' => e = .returned (.tuple #[]) ∧ PSt b sc (lastOf last o) (text ++ o) iv inn pr w' ∧ Kept b w w'

/-- .. of an element -/
def Prints (G : Value → List Value → Prop) (b : Nat) (w0 : World) (d : Nat) (v : Value) (o : List UInt8) : Prop :=
  ∃ T f q cs t d', v = .iface T (.pointer (some ⟨q, 0, none⟩)) ∧ Printer T f ∧ w0.heap[q]? = some (Obj.cells cs t (0, 0)) ∧ q < b ∧ d = d' + 1 ∧ Body G b w0 d' q f o

theorem prints_of {G : Value → List Value → Prop} {b : Nat} {w0 : World} {d q : Nat} {T : TypeId} {f : FuncId} {o : List UInt8} (pf : Printer T f) {cs : Array Value} {t : TypeId} (hc : w0.heap[q]? = some (Obj.cells cs t (0, 0))) (hq : q < b) (hb : Body G b w0 d q f o) :
    Prints G b w0 (d + 1) (.iface T (.pointer (some ⟨q, 0, none⟩))) o := ⟨T, f, q, cs, t, d, rfl, pf, hc, hq, rfl, hb⟩

theorem Prints.node {G : Value → List Value → Prop} {b : Nat} {w0 : World} {d : Nat} {v : Value} {o : List UInt8} (h : Prints G b w0 d v o) : NodeAt b w0 v := by
  obtain ⟨T, f, q, cs, t, d', rfl, pf, hc, hq, _⟩ := h
  exact ⟨⟨T, q, cs, t, rfl, pf.ptr, hc⟩, hq⟩

theorem Body.more {G : Value → List Value → Prop} {b : Nat} {w0 : World} {d e q : Nat} {f : FuncId} {o : List UInt8} (h : Body G b w0 d q f o) (he : d ≤ e) : Body G b w0 e q f o :=
  fun w sc last text iv inn pr hs hp hG hd => h w sc last text iv inn pr hs hp hG (by omega)

theorem Prints.more {G : Value → List Value → Prop} {b : Nat} {w0 : World} {d e : Nat} {v : Value} {o : List UInt8} (h : Prints G b w0 d v o) (he : d ≤ e) : Prints G b w0 e v o := by
  obtain ⟨T, f, q, cs, t, d', hv, pf, hc, hq, rfl, hb⟩ := h
  exact ⟨T, f, q, cs, t, e - 1, hv, pf, hc, hq, by omega, hb.more (by omega)⟩

/-- print, called with such an element -/
theorem Prints.call {G : Value → List Value → Prop} {b : Nat} {w0 : World} {d : Nat} {v : Value} {o : List UInt8} (h : Prints G b w0 d v o) (w : World) (sc last : Int) (text : List UInt8) (iv : Value) (inn pr : List Value) (hs : Same (Low b) w0 w)
    (hp : PSt b sc last text iv inn pr w) (hG : G iv inn) (hd : pr.length + d ≤ 1000000) (hpr : ∀ u ∈ pr, NodeAt b w u ∧ blkOf v < blkOf u) (hlen : text.length + o.length ≤ 140737488355328) :
    Calls Tryz.prog 39 #[.pointer (some ⟨b, 0, none⟩), v] w fun e w' => e = .returned (.tuple #[]) ∧ PSt b sc (lastOf last o) (text ++ o) iv inn pr w' ∧ Kept b w w' := by
  have hn := h.node
  obtain ⟨T, f, q, cs, t, d', rfl, pf, hc, hq, rfl, hb⟩ := h
  refine (print_any pf q (fun sc' last' text' iv' inn' => sc' = sc ∧ last' = lastOf last o ∧ text' = text ++ o ∧ iv' = iv ∧ inn' = inn) hp (by omega) (hn.same hs).1 (fun u hu => ⟨(hpr u hu).1.1, fun e => by have := (hpr u hu).2; rw [e] at this; omega⟩) ?_).mono ?_
  · intro w1 h1 k1
    have hs1 := k1.same hs
    refine (hb w1 sc last text iv inn _ hs1 h1 hG (by simp; omega) (fun u hu => ?_) hlen).mono ?_
    · rcases List.mem_append.1 hu with hu | hu
      · exact ⟨(hpr u hu).1.same (fun i hi => k1.low i hi), Nat.le_of_lt (hpr u hu).2⟩
      · simp at hu
        subst hu
        exact ⟨hn.same hs1, Nat.le_refl _⟩
    · rintro e w2 ⟨rfl, h2, k2⟩
      exact ⟨rfl, ⟨_, _, _, _, _, ⟨rfl, rfl, rfl, rfl, rfl⟩, h2⟩, k2⟩
  · rintro e w' ⟨rfl, ⟨_, _, _, _, _, ⟨rfl, rfl, rfl, rfl, rfl⟩, h2⟩, k2⟩
    exact ⟨rfl, h2, k2⟩

theorem lastOf_append (last : Int) (o1 o2 : List UInt8) : lastOf (lastOf last o1) o2 = lastOf last (o1 ++ o2) := by
  unfold lastOf
  rw [List.getLast?_append]
  cases o2.getLast? with
  | none => cases o1.getLast? <;> rfl
  | some c => rfl

set_option maxHeartbeats 400000 in
theorem body_name (G : Value → List Value → Prop) {b q : Nat} {w0 : World} {s : ByteArray} (hq : q < b) (hc : w0.heap[q]? = some (Obj.cells #[.string s] 60 (0, 0))) :
    Body G b w0 0 q 63 s.data.toList := by
  intro w sc last text iv inn pr hs h _ _ _ hlen
  have c0 : w.cell? ⟨q, 0, none⟩ = some (.string s) := cell_at ((hs q hq).trans hc) rfl
  have hss : s.data.toList.length = s.size := by rw [Array.length_toList]; rfl
  have HW := Lib.hid (writeString_any h s (by omega))
  clear h hs hc hss
  go_enter Tryz.func63, Tryz.ntmps63
  go_wp2_with fail
  refine (HW.out).mono ?_
  rintro e w1 ⟨rfl, h1, k1⟩
  have X := Lib.hid (And.intro h1 k1)
  clear h1 k1
  go_wp2_with fail
  go_end0
  exact ⟨rfl, X.out⟩

theorem prints_name (G : Value → List Value → Prop) {I : Nat → Prop} {b : Nat} {w0 : World} {v : Value} {s : ByteArray} (h : IsName w0 I v s) (hv : blkOf v < b) : Prints G b w0 1 v s.data.toList := by
  obtain ⟨q, rfl, _, hc⟩ := h
  exact prints_of printer_name hc hv (body_name G hv hc)

theorem ptrTy_qual : PtrTy 137 := ptrTy_of (by kernel_rfl)
theorem printer_qual : Printer 137 132 := ⟨ptrTy_qual, fun _ _ => by kernel_rfl, fun _ _ => by kernel_rfl⟩

set_option maxRecDepth 100000 in
set_option maxHeartbeats 1000000 in
theorem body_qual {G : Value → List Value → Prop} {b q d : Nat} {w0 : World} {x y : Value} {l : Bool} {o1 o2 : List UInt8} (hq : q < b) (hc : w0.heap[q]? = some (Obj.cells #[x, y, .bool l] 139 (0, 0)))
    (hx : Prints G b w0 d x o1) (hy : Prints G b w0 d y o2) (bx : blkOf x < q) (by_ : blkOf y < q) :
    Body G b w0 d q 132 (o1 ++ [58, 58] ++ o2) := by
  intro w sc last text iv inn pr hs h hG hd hpr hlen
  simp only [List.length_append, List.length_cons, List.length_nil] at hlen
  have hcw := (hs q hq).trans hc
  have c0 : w.cell? ⟨q, 0, none⟩ = some x := cell_at hcw rfl
  have P1 := Lib.hid (hx.call w sc last text iv inn pr hs h hG hd (fun u hu => ⟨(hpr u hu).1, by have := (hpr u hu).2; omega⟩) (by omega))
  have HH := Lib.hid (And.intro hs (And.intro hG (And.intro hpr (And.intro hy hc))))
  clear h hs hcw hx hG hpr hy hc
  go_enter Tryz.func132, Tryz.ntmps132
  go_wp2_with fail
  refine (P1.out).mono ?_
  rintro e w1 ⟨rfl, h1, k1⟩
  have P2 := Lib.hid (writeString_any h1 ⟨#[58, 58]⟩ (by simp only [List.length_append]; show _ + _ + 2 ≤ _; omega))
  have K1 := Lib.hid k1
  clear h1 k1 P1 c0
  go_wp2_with fail
  refine (P2.out).mono ?_
  rintro e w2 ⟨rfl, h2, k2⟩
  obtain ⟨hs, hG, hpr, hy, hc⟩ := HH.out
  have k12 := K1.out.trans k2
  have hs2 := k12.same hs
  have c1 : w2.cell? ⟨q, 1, none⟩ = some y := cell_at ((hs2 q hq).trans hc) rfl
  have P3 := Lib.hid (hy.call w2 sc _ _ iv inn pr hs2 h2 hG hd (fun u hu => ⟨(hpr u hu).1.same (fun i hi => k12.low i hi), by have := (hpr u hu).2; omega⟩) (by simp only [List.length_append]; show _ + _ + 2 + _ ≤ _; omega))
  have K2 := Lib.hid k12
  clear h2 k2 P2 hs hG hpr hy hc k12 hs2 HH K1
  go_wp2_with fail
  refine (P3.out).mono ?_
  rintro e w3 ⟨rfl, h3, k3⟩
  rw [lastOf_append, lastOf_append, List.append_assoc, List.append_assoc, ← List.append_assoc o1] at h3
  have X := Lib.hid (And.intro h3 (K2.out.trans k3))
  clear h3 k3
  go_wp2_with fail
  go_end0
  exact ⟨rfl, X.out⟩


end Go.Proofs.YtcobcgkeojeagaaGreat
