/- A builtin type behind pointers and references. -/
import Derived.Test.YtcobcgkeojeagaaBase2
namespace Go.Proofs.Ytcobcgkeojeagaa
open Go.RowKit

/-- whatever is still to be printed around, the type is printed as o -/
def Ty (b : Nat) (w0 : World) (d : Nat) (v : Value) (o : List UInt8) : Prop := ∀ inn : List Value, inn.length + d ≤ 1000000 → Prints2 b w0 d v inn inn AnyLast o

/-- in every later world -/
def PrT (w : World) (d : Nat) (v : Value) (o : List UInt8) : Prop := ∀ W, Below w.heap.size w W → Ty W.heap.size W d v o

theorem Ty.node {b : Nat} {w0 : World} {d : Nat} {v : Value} {o : List UInt8} (h : Ty b w0 d v o) (hd : d ≤ 1000000) : NodeAt b w0 v := (h [] (by simpa using hd)).node
theorem Ty.form {b : Nat} {w0 : World} {d : Nat} {v : Value} {o : List UInt8} (h : Ty b w0 d v o) (hd : d ≤ 1000000) : ∃ T q, v = .iface T (.pointer (some ⟨q, 0, none⟩)) := by
  obtain ⟨T, f, q, _, _, _, hv, _⟩ := h [] (by simpa using hd)
  exact ⟨T, q, hv⟩
theorem PrT.later {w w' : World} {d : Nat} {v : Value} {o : List UInt8} (h : PrT w d v o) (hb : Below w.heap.size w w') : PrT w' d v o := fun W hW => h W (hb.trans (hW.mono hb.size))
theorem PrT.now {w : World} {d : Nat} {v : Value} {o : List UInt8} (h : PrT w d v o) : Ty w.heap.size w d v o := h w (Below.refl _ _)

theorem Prints.ty {b : Nat} {w0 : World} {d : Nat} {v : Value} {o : List UInt8} (h : Prints AnyInner b w0 d v o) : Ty b w0 d v o := fun inn _ => h.two inn _
theorem Pr.ty {w : World} {d : Nat} {v : Value} {o : List UInt8} (h : Pr AnyInner w d v o) : PrT w d v o := fun W hW => (h W hW).ty

theorem prints2_of {b : Nat} {w0 : World} {d q : Nat} {T : TypeId} {f : FuncId} {inn inn' : List Value} {lp : Int → Prop} {o : List UInt8} (pf : Printer T f) {cs : Array Value} {t : TypeId} (hc : w0.heap[q]? = some (Obj.cells cs t (0, 0))) (hq : q < b)
    (hb : Body2 b w0 d q f inn inn' lp o) : Prints2 b w0 (d + 1) (.iface T (.pointer (some ⟨q, 0, none⟩))) inn inn' lp o := ⟨T, f, q, cs, t, d, rfl, pf, hc, hq, rfl, hb⟩

set_option maxHeartbeats 400000 in
theorem builtin_any (s : ByteArray) (w : World) :
    Calls Try.prog 31 #[.string s] w fun e w' => e = .returned (.iface 95 (.pointer (some ⟨w.heap.size, 0, none⟩))) ∧ w.alloc (.cells #[.string s] 96) = w' := by
  go_enter Try.func31, Try.ntmps31
  go_wp2
  go_ret
  exact ⟨rfl, rfl⟩

/-- a builtin type that is made now -/
theorem Pr.newBuiltin (G : Value → List Value → Prop) (w : World) (s : ByteArray) : Pr G (w.alloc (.cells #[.string s] 96)) 1 (.iface 95 (.pointer (some ⟨w.heap.size, 0, none⟩))) s.data.toList := by
  intro W hW
  have hs := hW.size
  simp at hs
  exact prints_of printer_builtin (last_block hW) (by omega) (body_builtin G (by omega) (last_block hW))

theorem printer_ptr : Printer 67 98 := ⟨ptrTy_of (by kernel_rfl), fun _ _ => by kernel_rfl, fun _ _ => by kernel_rfl⟩
theorem innerTy_ptr : InnerTy 67 155 := ⟨fun _ _ => by kernel_rfl, fun _ _ => by kernel_rfl, fun _ _ => by kernel_rfl⟩

set_option maxHeartbeats 400000 in
theorem sign_ptr (b : Nat) (w0 : World) (d q : Nat) (inn : List Value) : Body2 b w0 d q 155 inn inn AnyLast [42] := by
  intro w sc last text pr hs ⟨iv, h⟩ _ _ _ _ _ hlen
  have HW := Lib.hid (writeString_any h ⟨#[42]⟩ hlen)
  clear h hs
  go_enter Try.func155, Try.ntmps155
  go_wp2_with fail
  refine (HW.out).mono ?_
  rintro e w1 ⟨rfl, h1, k1⟩
  have X := Lib.hid (And.intro (show PI b sc (lastOf last [42]) (text ++ [42]) inn pr w1 from ⟨_, h1⟩) k1)
  clear h1 k1
  go_wp2_with fail
  go_end0
  exact ⟨rfl, X.out⟩

set_option maxRecDepth 100000 in
set_option maxHeartbeats 1000000 in
theorem body_ptr {b q d : Nat} {w0 : World} {x : Value} {inn : List Value} {o1 : List UInt8} (hq : q < b) (hc : w0.heap[q]? = some (Obj.cells #[x] 73 (0, 0)))
    (hx : Prints2 b w0 d x (inn ++ [.iface 67 (.pointer (some ⟨q, 0, none⟩))]) (inn ++ [.iface 67 (.pointer (some ⟨q, 0, none⟩))]) AnyLast o1) (bx : blkOf x < q) (hn : inn.length ≤ 1000000) :
    Body2 b w0 d q 98 inn inn AnyLast (o1 ++ [42]) := by
  intro w sc last text pr hs hp _ h0 h1 hd hpr hlen
  have c0 : w.cell? ⟨q, 0, none⟩ = some x := cell_at ((hs q hq).trans hc) rfl
  have HC := Lib.hid (printBase_any innerTy_ptr hx bx (sign_ptr b w0 d q _) w sc last text pr hs hp h0 h1 hd hn hpr hlen)
  obtain ⟨T, f, p, _, _, _, rfl, _⟩ := hx
  clear hc hs hp hpr
  go_enter Try.func98, Try.ntmps98
  go_wp2_with fail
  refine (HC.out).mono ?_
  rintro e w1 ⟨rfl, h1, k1⟩
  have X := Lib.hid (And.intro h1 k1)
  clear h1 k1
  go_wp2_with fail
  go_end0
  exact ⟨rfl, X.out⟩

theorem PrT.ptr {w : World} {d e : Nat} {x : Value} {o1 : List UInt8} (hx : PrT w d x o1) (hd : d < 1000000) (he : e = w.heap.size) :
    PrT (w.alloc (.cells #[x] 73)) (d + 1) (.iface 67 (.pointer (some ⟨e, 0, none⟩))) (o1 ++ [42]) := by
  subst he
  intro W hW inn hinn
  have hbW := ((Below.refl w.heap.size w).alloc (Nat.le_refl _) (.cells #[x] 73)).trans (hW.mono (by simp))
  have hs := hW.size
  simp at hs
  have hlt : w.heap.size < W.heap.size := by omega
  exact prints2_of printer_ptr (last_block hW) hlt (body_ptr hlt (last_block hW) (hx W hbW _ (by simp; omega)) (hx.now.node (by omega)).2 (by omega))

theorem printer_ref : Printer 103 127 := ⟨ptrTy_of (by kernel_rfl), fun _ _ => by kernel_rfl, fun _ _ => by kernel_rfl⟩
theorem innerTy_ref : InnerTy 103 128 := ⟨fun _ _ => by kernel_rfl, fun _ _ => by kernel_rfl, fun _ _ => by kernel_rfl⟩

set_option maxHeartbeats 400000 in
theorem sign_ref (b : Nat) (w0 : World) (d q : Nat) (inn : List Value) : Body2 b w0 d q 128 inn inn AnyLast [38] := by
  intro w sc last text pr hs ⟨iv, h⟩ _ _ _ _ _ hlen
  have HW := Lib.hid (writeString_any h ⟨#[38]⟩ hlen)
  clear h hs
  go_enter Try.func128, Try.ntmps128
  go_wp2_with fail
  refine (HW.out).mono ?_
  rintro e w1 ⟨rfl, h1, k1⟩
  have X := Lib.hid (And.intro (show PI b sc (lastOf last [38]) (text ++ [38]) inn pr w1 from ⟨_, h1⟩) k1)
  clear h1 k1
  go_wp2_with fail
  go_end0
  exact ⟨rfl, X.out⟩

set_option maxRecDepth 100000 in
set_option maxHeartbeats 1000000 in
theorem body_ref {b q d : Nat} {w0 : World} {x : Value} {inn : List Value} {o1 : List UInt8} (hq : q < b) (hc : w0.heap[q]? = some (Obj.cells #[x] 104 (0, 0)))
    (hx : Prints2 b w0 d x (inn ++ [.iface 103 (.pointer (some ⟨q, 0, none⟩))]) (inn ++ [.iface 103 (.pointer (some ⟨q, 0, none⟩))]) AnyLast o1) (bx : blkOf x < q) (hn : inn.length ≤ 1000000) :
    Body2 b w0 d q 127 inn inn AnyLast (o1 ++ [38]) := by
  intro w sc last text pr hs hp _ h0 h1 hd hpr hlen
  have c0 : w.cell? ⟨q, 0, none⟩ = some x := cell_at ((hs q hq).trans hc) rfl
  have HC := Lib.hid (printBase_any innerTy_ref hx bx (sign_ref b w0 d q _) w sc last text pr hs hp h0 h1 hd hn hpr hlen)
  obtain ⟨T, f, p, _, _, _, rfl, _⟩ := hx
  clear hc hs hp hpr
  go_enter Try.func127, Try.ntmps127
  go_wp2_with fail
  refine (HC.out).mono ?_
  rintro e w1 ⟨rfl, h1, k1⟩
  have X := Lib.hid (And.intro h1 k1)
  clear h1 k1
  go_wp2_with fail
  go_end0
  exact ⟨rfl, X.out⟩

theorem PrT.ref {w : World} {d e : Nat} {x : Value} {o1 : List UInt8} (hx : PrT w d x o1) (hd : d < 1000000) (he : e = w.heap.size) :
    PrT (w.alloc (.cells #[x] 104)) (d + 1) (.iface 103 (.pointer (some ⟨e, 0, none⟩))) (o1 ++ [38]) := by
  subst he
  intro W hW inn hinn
  have hbW := ((Below.refl w.heap.size w).alloc (Nat.le_refl _) (.cells #[x] 104)).trans (hW.mono (by simp))
  have hs := hW.size
  simp at hs
  have hlt : w.heap.size < W.heap.size := by omega
  exact prints2_of printer_ref (last_block hW) hlt (body_ref hlt (last_block hW) (hx W hbW _ (by simp; omega)) (hx.now.node (by omega)).2 (by omega))

theorem printer_rref : Printer 105 131 := ⟨ptrTy_of (by kernel_rfl), fun _ _ => by kernel_rfl, fun _ _ => by kernel_rfl⟩
theorem innerTy_rref : InnerTy 105 132 := ⟨fun _ _ => by kernel_rfl, fun _ _ => by kernel_rfl, fun _ _ => by kernel_rfl⟩

set_option maxHeartbeats 400000 in
theorem sign_rref (b : Nat) (w0 : World) (d q : Nat) (inn : List Value) : Body2 b w0 d q 132 inn inn AnyLast [38, 38] := by
  intro w sc last text pr hs ⟨iv, h⟩ _ _ _ _ _ hlen
  have HW := Lib.hid (writeString_any h ⟨#[38, 38]⟩ hlen)
  clear h hs
  go_enter Try.func132, Try.ntmps132
  go_wp2_with fail
  refine (HW.out).mono ?_
  rintro e w1 ⟨rfl, h1, k1⟩
  have X := Lib.hid (And.intro (show PI b sc (lastOf last [38, 38]) (text ++ [38, 38]) inn pr w1 from ⟨_, h1⟩) k1)
  clear h1 k1
  go_wp2_with fail
  go_end0
  exact ⟨rfl, X.out⟩

set_option maxRecDepth 100000 in
set_option maxHeartbeats 1000000 in
theorem body_rref {b q d : Nat} {w0 : World} {x : Value} {inn : List Value} {o1 : List UInt8} (hq : q < b) (hc : w0.heap[q]? = some (Obj.cells #[x] 106 (0, 0)))
    (hx : Prints2 b w0 d x (inn ++ [.iface 105 (.pointer (some ⟨q, 0, none⟩))]) (inn ++ [.iface 105 (.pointer (some ⟨q, 0, none⟩))]) AnyLast o1) (bx : blkOf x < q) (hn : inn.length ≤ 1000000) :
    Body2 b w0 d q 131 inn inn AnyLast (o1 ++ [38, 38]) := by
  intro w sc last text pr hs hp _ h0 h1 hd hpr hlen
  have c0 : w.cell? ⟨q, 0, none⟩ = some x := cell_at ((hs q hq).trans hc) rfl
  have HC := Lib.hid (printBase_any innerTy_rref hx bx (sign_rref b w0 d q _) w sc last text pr hs hp h0 h1 hd hn hpr hlen)
  obtain ⟨T, f, p, _, _, _, rfl, _⟩ := hx
  clear hc hs hp hpr
  go_enter Try.func131, Try.ntmps131
  go_wp2_with fail
  refine (HC.out).mono ?_
  rintro e w1 ⟨rfl, h1, k1⟩
  have X := Lib.hid (And.intro h1 k1)
  clear h1 k1
  go_wp2_with fail
  go_end0
  exact ⟨rfl, X.out⟩

theorem PrT.rref {w : World} {d e : Nat} {x : Value} {o1 : List UInt8} (hx : PrT w d x o1) (hd : d < 1000000) (he : e = w.heap.size) :
    PrT (w.alloc (.cells #[x] 106)) (d + 1) (.iface 105 (.pointer (some ⟨e, 0, none⟩))) (o1 ++ [38, 38]) := by
  subst he
  intro W hW inn hinn
  have hbW := ((Below.refl w.heap.size w).alloc (Nat.le_refl _) (.cells #[x] 106)).trans (hW.mono (by simp))
  have hs := hW.size
  simp at hs
  have hlt : w.heap.size < W.heap.size := by omega
  exact prints2_of printer_rref (last_block hW) hlt (body_rref hlt (last_block hW) (hx W hbW _ (by simp; omega)) (hx.now.node (by omega)).2 (by omega))


/-- what a sign is printed to -/
def signB (k : Int) : List UInt8 := if k = 0 then [42] else if k = 1 then [38] else [38, 38]

def signsB (s : List UInt8) (L : List Int) : List UInt8 := s ++ L.flatMap signB

theorem signsB_snoc (s : List UInt8) (L : List Int) {j : Nat} (h : j < L.length) : signsB s (L.take (j + 1)) = signsB s (L.take j) ++ signB L[j] := by
  rw [List.take_succ_eq_append_getElem h, signsB, List.flatMap_append]
  simp [signsB]

theorem signB_le (k : Int) : (signB k).length ≤ 2 := by unfold signB; split <;> (try split) <;> simp

theorem signsB_le (s : List UInt8) : ∀ L : List Int, (signsB s L).length ≤ s.length + 2 * L.length
  | [] => by simp [signsB]
  | k :: L => by
    have h := signsB_le s L
    have h2 := signB_le k
    simp only [signsB, List.flatMap_cons, List.length_append, List.length_cons] at h ⊢
    omega

def intv (L : List Int) : List Value := L.map (Value.int .i64)

theorem intv_get {L : List Int} {j : Nat} (h : j < L.length) : (intv L)[j]? = some (.int .i64 L[j]) := by simp [intv, h]

theorem SliceOf.ints {w : World} {I : Nat → Prop} {v : Value} {L : List Int} (h : SliceOf w I v (intv L)) :
    ∃ a cap, v = .slice a L.length cap ∧ L.length ≤ cap ∧ cap ≤ 9223372036854775807 ∧
      (L = [] ∨ ∃ b off, a = some ⟨b, off, none⟩ ∧ I b ∧ ∀ i (h : i < L.length), w.cell? ⟨b, off + i, none⟩ = some (.int .i64 L[i])) := by
  obtain ⟨a, cap, rfl, hl, hc, hr⟩ := h.lay
  have hlen : (intv L).length = L.length := by simp [intv]
  rw [hlen] at hl
  refine ⟨a, cap, by rw [hlen], hl, hc, ?_⟩
  rcases hr with hr | ⟨b, off, ha, hlt, hcell⟩
  · exact .inl (by simpa [intv] using hr)
  · exact .inr ⟨b, off, ha, hlt, fun i hi => hcell i _ (intv_get hi)⟩

set_option maxRecDepth 100000 in
set_option maxHeartbeats 2000000 in
theorem signs_any (w : World) {I : Nat → Prop} (hI : ∀ i, I i → i < w.heap.size) (s : ByteArray) (v : Value) (L : List Int) (h : SliceOf w I v (intv L)) (hL : L.length ≤ 2000) :
    Calls Try.prog 33 #[.string s, v] w fun e w' => ∃ a, e = .returned a ∧ PrT w' (L.length + 1) a (signsB s.data.toList L) ∧ Below w.heap.size w w' := by
  obtain ⟨la, lc, rfl, hl1, hl2, hlr⟩ := h.ints
  have HR := Lib.hid hlr
  have HI := Lib.hid hI
  clear h hlr hI hl1 hl2
  go_enter Try.func33, Try.ntmps33
  go_wp2_with fail
  refine (builtin_any _ _).mono ?_
  rintro e w1 ⟨rfl, rfl⟩
  go_wp2_with fail
  go_loopg [5, 12] (L.length) (fun k a i wr => ∃ j : Nat, j + k = L.length ∧ i = .int .i64 j ∧ Hid (PrT wr (j + 1) a (signsB s.data.toList (L.take j))) ∧ Hid (Below w.heap.size w wr))
  case atStart => exact ⟨0, by omega, rfl, by show PrT _ _ _ _; simpa [signsB] using (Pr.newBuiltin AnyInner w s).ty, (Below.refl _ _).alloc (Nat.le_refl _) _⟩
  case round =>
    obtain ⟨j, hj, rfl, hp, hb⟩ := hrel
    by_cases hlt : j < L.length
    · rcases HR.out with rfl | ⟨b, off, rfl, hbI, hcell⟩
      · simp at hlt
      have hbl := HI.out _ hbI
      have hc1 : wr.cell? ⟨b, off + j, none⟩ = some (.int .i64 L[j]) := by rw [hb.out.cell (p := ⟨b, off + j, none⟩) hbl]; exact hcell j hlt
      have hws := hb.out.size
      obtain ⟨T, q, hv⟩ := hp.out.now.form (by omega)
      subst hv
      have hsn := signsB_snoc s.data.toList L hlt
      clear hcell hbI
      generalize hk : L[j] = k at *
      by_cases k0 : k = 0
      · subst k0
        have HS := Lib.hid (show PrT _ (j + 1 + 1) _ (signsB s.data.toList (L.take (j + 1))) from (by rw [hsn]; exact PrT.ptr hp.out (by omega) rfl))
        clear hsn hk
        go_wp2_with fail
        go_roundg (gk - 1)
        case measure => omega
        case rel => exact ⟨j + 1, by omega, by go_num, HS.out, (hb.out.alloc hws _)⟩
      · have e0 : (k == 0) = false := beq_eq_false_iff_ne.2 k0
        by_cases k1 : k = 1
        · subst k1
          have HS := Lib.hid (show PrT _ (j + 1 + 1) _ (signsB s.data.toList (L.take (j + 1))) from (by rw [hsn]; exact PrT.ref hp.out (by omega) rfl))
          clear hsn hk
          go_wp2_with fail
          go_roundg (gk - 1)
          case measure => omega
          case rel => exact ⟨j + 1, by omega, by go_num, HS.out, (hb.out.alloc hws _)⟩
        · have e1 : (k == 1) = false := beq_eq_false_iff_ne.2 k1
          have HS := Lib.hid (show PrT _ (j + 1 + 1) _ (signsB s.data.toList (L.take (j + 1))) from (by rw [hsn, signB, if_neg k0, if_neg k1]; exact PrT.rref hp.out (by omega) rfl))
          clear hsn hk
          go_wp2_with fail
          go_roundg (gk - 1)
          case measure => omega
          case rel => exact ⟨j + 1, by omega, by go_num, HS.out, (hb.out.alloc hws _)⟩
    · have hj' : j = L.length := by omega
      have HJ := Lib.hid hj'
      clear hj'
      go_wp2_with fail
      go_ret
      have h5 := hp.out
      rw [HJ.out, List.take_length] at h5
      exact ⟨_, rfl, h5, hb.out⟩

set_option maxRecDepth 100000 in
set_option maxHeartbeats 1000000 in
theorem printSigns_any (w : World) {I : Nat → Prop} (hI : ∀ i, I i → i < w.heap.size) (s : ByteArray) (v : Value) (L : List Int) (h : SliceOf w I v (intv L)) (hL : L.length ≤ 2000) (hs : s.size ≤ 2147483647) :
    Calls Try.prog 24 #[.string s, v] w fun e w' => e = .returned (.string ⟨(signsB s.data.toList L).toArray⟩) ∧ Below w.heap.size w w' := by
  have HC := Lib.hid (signs_any w hI s v L h hL)
  have hz := signsB_le s.data.toList L
  rw [ba_size] at hz
  have HZ := Lib.hid hz
  obtain ⟨la, lc, rfl, _⟩ := h.ints
  clear h hI hz
  go_enter Try.func24, Try.ntmps24
  go_wp2_with fail
  refine (HC.out).mono ?_
  rintro e w1 ⟨a, rfl, hp, hb⟩
  have HT := Lib.hid (toString_two (hp.now [] (by simp; omega)) trivial (by omega) (by have := HZ.out; omega))
  have HB := Lib.hid hb
  clear hp hb HC
  go_wp2_with fail
  refine (HT.out).mono ?_
  rintro e w2 ⟨rfl, b2⟩
  have HX := Lib.hid (HB.out.trans (b2.mono HB.out.size))
  clear b2
  go_wp2_with fail
  go_ret
  exact ⟨rfl, HX.out⟩

end Go.Proofs.Ytcobcgkeojeagaa
