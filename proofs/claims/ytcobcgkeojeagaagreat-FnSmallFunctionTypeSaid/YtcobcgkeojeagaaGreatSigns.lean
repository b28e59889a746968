/- A builtin type behind pointers and references. -/
import Derived.Test.YtcobcgkeojeagaaGreatBase2
namespace Go.Proofs.YtcobcgkeojeagaaGreat
open Go.RowKit

/-- whatever is still to be printed around, the type is printed as o -/
def Ty (b : Nat) (w0 : World) (d : Nat) (v : Value) (o : List UInt8) : Prop := ∀ inn : List Value, inn.length + d ≤ 1000000 → Prints2 b w0 d v inn inn AnyLast o

/-- in every later world -/
def PrT (w : World) (d : Nat) (v : Value) (o : List UInt8) : Prop := ∀ W, Below w.heap.size w W → Ty W.heap.size W d v o

theorem Ty.node {b : Nat} {w0 : World} {d : Nat} {v : Value} {o : List UInt8} (h : Ty b w0 d v o) (hd : d ≤ 1000000) : NodeAt b w0 v := (h [] (by simpa using hd)).node
theorem Ty.form {b : Nat} {w0 : World} {d : Nat} {v : Value} {o : List UInt8} (h : Ty b w0 d v o) (hd : d ≤ 1000000) : ∃ T q, v = .iface T (.pointer (some ⟨q, 0, none⟩)) := by
  obtain ⟨T, f, q, _, _, _, hv, _⟩ := h [] (by simpa using hd)
  exact ⟨T, q, hv⟩
theorem PrT.later {w w' : World} {d : Nat} {v : Value} {o : List UInt8} (h : PrT w d v o) (hb : Below w.heap.size w w') : PrT w' d v o := fun W hW => h W (hb.trans (hW.mono hb.size))
theorem PrT.now {w : World} {d : Nat} {v : Value} {o : List UInt8} (h : PrT w d v o) : Ty w.heap.size w d v o := h w (Below.refl _ _)

theorem Prints.ty {b : Nat} {w0 : World} {d : Nat} {v : Value} {o : List UInt8} (h : Prints AnyInner b w0 d v o) : Ty b w0 d v o := fun inn _ => h.two inn _
theorem Pr.ty {w : World} {d : Nat} {v : Value} {o : List UInt8} (h : Pr AnyInner w d v o) : PrT w d v o := fun W hW => (h W hW).ty

theorem prints2_of {b : Nat} {w0 : World} {d q : Nat} {T : TypeId} {f : FuncId} {inn inn' : List Value} {lp : Int → Prop} {o : List UInt8} (pf : Printer T f) {cs : Array Value} {t : TypeId} (hc : w0.heap[q]? = some (Obj.cells cs t (0, 0))) (hq : q < b)
    (hb : Body2 b w0 d q f inn inn' lp o) : Prints2 b w0 (d + 1) (.iface T (.pointer (some ⟨q, 0, none⟩))) inn inn' lp o := ⟨T, f, q, cs, t, d, rfl, pf, hc, hq, rfl, hb⟩

set_option maxHeartbeats 400000 in
theorem builtin_any (s : ByteArray) (w : World) :
    Calls Tryz.prog 16 #[.string s] w fun e w' => e = .returned (.iface 64 (.pointer (some ⟨w.heap.size, 0, none⟩))) ∧ w.alloc (.cells #[.string s] 65) = w' := by
  go_enter Tryz.func16, Tryz.ntmps16
  go_wp2
  go_ret
  exact ⟨rfl, rfl⟩

/-- a builtin type that is made now -/
theorem Pr.newBuiltin (G : Value → List Value → Prop) (w : World) (s : ByteArray) : Pr G (w.alloc (.cells #[.string s] 65)) 1 (.iface 64 (.pointer (some ⟨w.heap.size, 0, none⟩))) s.data.toList := by
  intro W hW
  have hs := hW.size
  simp at hs
  exact prints_of printer_builtin (last_block hW) (by omega) (body_builtin G (by omega) (last_block hW))

theorem printer_ptr : Printer 91 70 := ⟨ptrTy_of (by kernel_rfl), fun _ _ => by kernel_rfl, fun _ _ => by kernel_rfl⟩
theorem innerTy_ptr : InnerTy 91 71 := ⟨fun _ _ => by kernel_rfl, fun _ _ => by kernel_rfl, fun _ _ => by kernel_rfl⟩

set_option maxHeartbeats 400000 in
theorem sign_ptr (b : Nat) (w0 : World) (d q : Nat) (inn : List Value) : Body2 b w0 d q 71 inn inn AnyLast [42] := by
  intro w sc last text pr hs ⟨iv, h⟩ _ _ _ _ _ hlen
  have HW := Lib.hid (writeString_any h ⟨#[42]⟩ hlen)
  clear h hs
  go_enter Tryz.func71, Tryz.ntmps71
  go_wp2_with fail
  refine (HW.out).mono ?_
  rintro e w1 ⟨rfl, h1, k1⟩
  have X := Lib.hid (And.intro (show PI b sc (lastOf last [42]) (text ++ [42]) inn pr w1 from ⟨_, h1⟩) k1)
  clear h1 k1
  go_wp2_with fail
  go_end0
  exact ⟨rfl, X.out⟩

set_option maxRecDepth 100000 in
set_option maxHeartbeats 1000000 in
theorem body_ptr {b q d : Nat} {w0 : World} {x : Value} {inn : List Value} {o1 : List UInt8} (hq : q < b) (hc : w0.heap[q]? = some (Obj.cells #[x] 120 (0, 0)))
    (hx : Prints2 b w0 d x (inn ++ [.iface 91 (.pointer (some ⟨q, 0, none⟩))]) (inn ++ [.iface 91 (.pointer (some ⟨q, 0, none⟩))]) AnyLast o1) (bx : blkOf x < q) (hn : inn.length ≤ 1000000) :
    Body2 b w0 d q 70 inn inn AnyLast (o1 ++ [42]) := by
  intro w sc last text pr hs hp _ h0 h1 hd hpr hlen
  have c0 : w.cell? ⟨q, 0, none⟩ = some x := cell_at ((hs q hq).trans hc) rfl
  have HC := Lib.hid (printBase_any innerTy_ptr hx bx (sign_ptr b w0 d q _) w sc last text pr hs hp h0 h1 hd hn hpr hlen)
  obtain ⟨T, f, p, _, _, _, rfl, _⟩ := hx
  clear hc hs hp hpr
  go_enter Tryz.func70, Tryz.ntmps70
  go_wp2_with fail
  refine (HC.out).mono ?_
  rintro e w1 ⟨rfl, h1, k1⟩
  have X := Lib.hid (And.intro h1 k1)
  clear h1 k1
  go_wp2_with fail
  go_end0
  exact ⟨rfl, X.out⟩

theorem PrT.ptr {w : World} {d e : Nat} {x : Value} {o1 : List UInt8} (hx : PrT w d x o1) (hd : d < 1000000) (he : e = w.heap.size) :
    PrT (w.alloc (.cells #[x] 120)) (d + 1) (.iface 91 (.pointer (some ⟨e, 0, none⟩))) (o1 ++ [42]) := by
  subst he
  intro W hW inn hinn
  have hbW := ((Below.refl w.heap.size w).alloc (Nat.le_refl _) (.cells #[x] 120)).trans (hW.mono (by simp))
  have hs := hW.size
  simp at hs
  have hlt : w.heap.size < W.heap.size := by omega
  exact prints2_of printer_ptr (last_block hW) hlt (body_ptr hlt (last_block hW) (hx W hbW _ (by simp; omega)) (hx.now.node (by omega)).2 (by omega))

theorem printer_ref : Printer 92 75 := ⟨ptrTy_of (by kernel_rfl), fun _ _ => by kernel_rfl, fun _ _ => by kernel_rfl⟩
theorem innerTy_ref : InnerTy 92 76 := ⟨fun _ _ => by kernel_rfl, fun _ _ => by kernel_rfl, fun _ _ => by kernel_rfl⟩

set_option maxHeartbeats 400000 in
theorem sign_ref (b : Nat) (w0 : World) (d q : Nat) (inn : List Value) : Body2 b w0 d q 76 inn inn AnyLast [38] := by
  intro w sc last text pr hs ⟨iv, h⟩ _ _ _ _ _ hlen
  have HW := Lib.hid (writeString_any h ⟨#[38]⟩ hlen)
  clear h hs
  go_enter Tryz.func76, Tryz.ntmps76
  go_wp2_with fail
  refine (HW.out).mono ?_
  rintro e w1 ⟨rfl, h1, k1⟩
  have X := Lib.hid (And.intro (show PI b sc (lastOf last [38]) (text ++ [38]) inn pr w1 from ⟨_, h1⟩) k1)
  clear h1 k1
  go_wp2_with fail
  go_end0
  exact ⟨rfl, X.out⟩

set_option maxRecDepth 100000 in
set_option maxHeartbeats 1000000 in
theorem body_ref {b q d : Nat} {w0 : World} {x : Value} {inn : List Value} {o1 : List UInt8} (hq : q < b) (hc : w0.heap[q]? = some (Obj.cells #[x] 122 (0, 0)))
    (hx : Prints2 b w0 d x (inn ++ [.iface 92 (.pointer (some ⟨q, 0, none⟩))]) (inn ++ [.iface 92 (.pointer (some ⟨q, 0, none⟩))]) AnyLast o1) (bx : blkOf x < q) (hn : inn.length ≤ 1000000) :
    Body2 b w0 d q 75 inn inn AnyLast (o1 ++ [38]) := by
  intro w sc last text pr hs hp _ h0 h1 hd hpr hlen
  have c0 : w.cell? ⟨q, 0, none⟩ = some x := cell_at ((hs q hq).trans hc) rfl
  have HC := Lib.hid (printBase_any innerTy_ref hx bx (sign_ref b w0 d q _) w sc last text pr hs hp h0 h1 hd hn hpr hlen)
  obtain ⟨T, f, p, _, _, _, rfl, _⟩ := hx
  clear hc hs hp hpr
  go_enter Tryz.func75, Tryz.ntmps75
  go_wp2_with fail
  refine (HC.out).mono ?_
  rintro e w1 ⟨rfl, h1, k1⟩
  have X := Lib.hid (And.intro h1 k1)
  clear h1 k1
  go_wp2_with fail
  go_end0
  exact ⟨rfl, X.out⟩

theorem PrT.ref {w : World} {d e : Nat} {x : Value} {o1 : List UInt8} (hx : PrT w d x o1) (hd : d < 1000000) (he : e = w.heap.size) :
    PrT (w.alloc (.cells #[x] 122)) (d + 1) (.iface 92 (.pointer (some ⟨e, 0, none⟩))) (o1 ++ [38]) := by
  subst he
  intro W hW inn hinn
  have hbW := ((Below.refl w.heap.size w).alloc (Nat.le_refl _) (.cells #[x] 122)).trans (hW.mono (by simp))
  have hs := hW.size
  simp at hs
  have hlt : w.heap.size < W.heap.size := by omega
  exact prints2_of printer_ref (last_block hW) hlt (body_ref hlt (last_block hW) (hx W hbW _ (by simp; omega)) (hx.now.node (by omega)).2 (by omega))

theorem printer_rref : Printer 93 79 := ⟨ptrTy_of (by kernel_rfl), fun _ _ => by kernel_rfl, fun _ _ => by kernel_rfl⟩
theorem innerTy_rref : InnerTy 93 80 := ⟨fun _ _ => by kernel_rfl, fun _ _ => by kernel_rfl, fun _ _ => by kernel_rfl⟩

set_option maxHeartbeats 400000 in
theorem sign_rref (b : Nat) (w0 : World) (d q : Nat) (inn : List Value) : Body2 b w0 d q 80 inn inn AnyLast [38, 38] := by
  intro w sc last text pr hs ⟨iv, h⟩ _ _ _ _ _ hlen
  have HW := Lib.hid (writeString_any h ⟨#[38, 38]⟩ hlen)
  clear h hs
  go_enter Tryz.func80, Tryz.ntmps80
  go_wp2_with fail
  refine (HW.out).mono ?_
  rintro e w1 ⟨rfl, h1, k1⟩
  have X := Lib.hid (And.intro (show PI b sc (lastOf last [38, 38]) (text ++ [38, 38]) inn pr w1 from ⟨_, h1⟩) k1)
  clear h1 k1
  go_wp2_with fail
  go_end0
  exact ⟨rfl, X.out⟩

set_option maxRecDepth 100000 in
set_option maxHeartbeats 1000000 in
theorem body_rref {b q d : Nat} {w0 : World} {x : Value} {inn : List Value} {o1 : List UInt8} (hq : q < b) (hc : w0.heap[q]? = some (Obj.cells #[x] 123 (0, 0)))
    (hx : Prints2 b w0 d x (inn ++ [.iface 93 (.pointer (some ⟨q, 0, none⟩))]) (inn ++ [.iface 93 (.pointer (some ⟨q, 0, none⟩))]) AnyLast o1) (bx : blkOf x < q) (hn : inn.length ≤ 1000000) :
    Body2 b w0 d q 79 inn inn AnyLast (o1 ++ [38, 38]) := by
  intro w sc last text pr hs hp _ h0 h1 hd hpr hlen
  have c0 : w.cell? ⟨q, 0, none⟩ = some x := cell_at ((hs q hq).trans hc) rfl
  have HC := Lib.hid (printBase_any innerTy_rref hx bx (sign_rref b w0 d q _) w sc last text pr hs hp h0 h1 hd hn hpr hlen)
  obtain ⟨T, f, p, _, _, _, rfl, _⟩ := hx
  clear hc hs hp hpr
  go_enter Tryz.func79, Tryz.ntmps79
  go_wp2_with fail
  refine (HC.out).mono ?_
  rintro e w1 ⟨rfl, h1, k1⟩
  have X := Lib.hid (And.intro h1 k1)
  clear h1 k1
  go_wp2_with fail
  go_end0
  exact ⟨rfl, X.out⟩

theorem PrT.rref {w : World} {d e : Nat} {x : Value} {o1 : List UInt8} (hx : PrT w d x o1) (hd : d < 1000000) (he : e = w.heap.size) :
    PrT (w.alloc (.cells #[x] 123)) (d + 1) (.iface 93 (.pointer (some ⟨e, 0, none⟩))) (o1 ++ [38, 38]) := by
  subst he
  intro W hW inn hinn
  have hbW := ((Below.refl w.heap.size w).alloc (Nat.le_refl _) (.cells #[x] 123)).trans (hW.mono (by simp))
  have hs := hW.size
  simp at hs
  have hlt : w.heap.size < W.heap.size := by omega
  exact prints2_of printer_rref (last_block hW) hlt (body_rref hlt (last_block hW) (hx W hbW _ (by simp; omega)) (hx.now.node (by omega)).2 (by omega))


/-- what a sign is printed to -/
def signB (k : Int) : List UInt8 := if k = 0 then [42] else if k = 1 then [38] else [38, 38]

def signsB (s : List UInt8) (L : List Int) : List UInt8 := s ++ L.flatMap signB

theorem signsB_snoc (s : List UInt8) (L : List Int) {j : Nat} (h : j < L.length) : signsB s (L.take (j + 1)) = signsB s (L.take j) ++ signB L[j] := by
  rw [List.take_succ_eq_append_getElem h, signsB, List.flatMap_append]
  simp [signsB]

theorem signB_le (k : Int) : (signB k).length ≤ 2 := by unfold signB; split <;> (try split) <;> simp

theorem signsB_le (s : List UInt8) : ∀ L : List Int, (signsB s L).length ≤ s.length + 2 * L.length
  | [] => by simp [signsB]
  | k :: L => by
    have h := signsB_le s L
    have h2 := signB_le k
    simp only [signsB, List.flatMap_cons, List.length_append, List.length_cons] at h ⊢
    omega

def intv (L : List Int) : List Value := L.map (Value.int .i64)

theorem intv_get {L : List Int} {j : Nat} (h : j < L.length) : (intv L)[j]? = some (.int .i64 L[j]) := by simp [intv, h]

theorem SliceOf.ints {w : World} {I : Nat → Prop} {v : Value} {L : List Int} (h : SliceOf w I v (intv L)) :
    ∃ a cap, v = .slice a L.length cap ∧ L.length ≤ cap ∧ cap ≤ 9223372036854775807 ∧
      (L = [] ∨ ∃ b off, a = some ⟨b, off, none⟩ ∧ I b ∧ ∀ i (h : i < L.length), w.cell? ⟨b, off + i, none⟩ = some (.int .i64 L[i])) := by
  obtain ⟨a, cap, rfl, hl, hc, hr⟩ := h.lay
  have hlen : (intv L).length = L.length := by simp [intv]
  rw [hlen] at hl
  refine ⟨a, cap, by rw [hlen], hl, hc, ?_⟩
  rcases hr with hr | ⟨b, off, ha, hlt, hcell⟩
  · exact .inl (by simpa [intv] using hr)
  · exact .inr ⟨b, off, ha, hlt, fun i hi => hcell i _ (intv_get hi)⟩

end Go.Proofs.YtcobcgkeojeagaaGreat
