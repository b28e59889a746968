/- The calls that print a function. -/
import Derived.Test.YtcobcgkeojeagaaGreatFuncTop
import Derived.Test.YtcobcgkeojeagaaGreatSmList
namespace Go.Proofs.YtcobcgkeojeagaaGreat
open Go.RowKit

set_option maxRecDepth 100000 in
set_option maxHeartbeats 2000000 in
/-- ASTToString without options, of an element whose method needs to know that it is the first -/
theorem toString_top {w : World} {T : TypeId} {f : FuncId} {q : Nat} {o : List UInt8} (pf : Printer T f) (hlen : o.length ≤ 140737488355328)
    (hb : ∀ W, Same (Low w.heap.size) w W → PSt w.heap.size 1 0 [] (.slice none 0 0) [] [] W →
      Calls Tryz.prog f #[.pointer (some ⟨q, 0, none⟩), .pointer (some ⟨w.heap.size, 0, none⟩)] W fun e w' => e = .returned (.tuple #[]) ∧ PI w.heap.size 1 (lastOf 0 o) ([] ++ o) [] [] w' ∧ Kept w.heap.size W w') :
    Calls Tryz.prog 13 #[.iface T (.pointer (some ⟨q, 0, none⟩)), .slice none 0 0] w fun e w' => e = .returned (.string ⟨o.toArray⟩) ∧ Below w.heap.size w w' := by
  have HBd := Lib.hid hb
  clear hb
  go_enter Tryz.func13, Tryz.ntmps13
  go_wp2_with fail
  go_loopg [5, 6, 7, 8, 15] 0 (fun k x5 x6 x7 x8 i wr => w = wr ∧ i = .int .i64 0 ∧ x5 = .bool true ∧ x6 = .bool true ∧ x7 = .bool false ∧ x8 = .int .i64 0)
  case atStart => exact ⟨rfl, rfl, rfl, rfl, rfl, rfl⟩
  case round =>
    obtain ⟨rfl, rfl, rfl, rfl, rfl, rfl⟩ := hrel
    have hd0 : decide ((0 : Int) < 0) = false := by decide
    go_wp2_with fail
    have HM : ∀ (nm : String) (W' : World), nm = mname → (method 263 T (.pointer (some ⟨q, 0, none⟩)) nm).run Tryz.prog W' = .ok (f, .pointer (some ⟨q, 0, none⟩)) W' := fun nm W' e => e ▸ pf.m q W'
    rw [HM]
    rotate_left
    kernel_rfl
    simp only [Result.andThen]
    rw [pf.call]
    rw [Oper.upon_enter]
    have p0 : PSt w.heap.size 1 0 [] (.slice none 0 0) [] [] (w.alloc (.cells (psCells 1 none (.slice none 0 0) 0 (.slice none 0 0) (.slice none 0 0)) 54)) :=
      ⟨none, .slice none 0 0, .slice none 0 0, heap_alloc_new w _, .inl rfl, World.ownsRow_nil _ _ _ _, World.ownsRow_nil _ _ _ _, World.ownsRow_nil _ _ _ _, .inl rfl⟩
    have hcall := HBd.out _ (fun i hi => Below.heap_alloc w _ i hi) p0
    have HC := Lib.hid hcall
    clear hcall p0 HM
    refine (HC.out).mono ?_
    rintro e w1 ⟨rfl, ⟨iv1, h1⟩, k1⟩
    have HS := Lib.hid (bString_any h1 (by simpa using hlen))
    have HK := Lib.hid ((((Below.refl w.heap.size w).alloc (Nat.le_refl _) _).trans k1.below))
    clear h1 k1 HC HBd
    go_wp2_with fail
    refine (HS.out).mono ?_
    rintro e w2 ⟨rfl, b2⟩
    have HX := Lib.hid (HK.out.trans b2)
    clear b2 HS HK
    go_wp2_with fail
    go_ret
    exact ⟨rfl, HX.out⟩


set_option maxHeartbeats 1000000 in
/-- impl.functionType: the parameters, and the type behind them -/
theorem functionType_any (w : World) {I : Nat → Prop} (hI : ∀ i, I i → i < w.heap.size) (x : Value) (hx : x = .nilIface ∨ ∃ T q, x = .iface T (.pointer (some ⟨q, 0, none⟩))) (v : Value) (A : List ByteArray) (h : SliceOf w I v (strv A)) (hA : A.length ≤ 1000) :
    Calls Tryz.prog 15 #[x, v] w fun e w' => ∃ w1 sv vs, e = .returned (.pointer (some ⟨w1.heap.size, 0, none⟩)) ∧ w' = w1.alloc (.cells #[x, sv, .bool false] 63) ∧ SliceOf w1 (Made w w1) sv vs ∧ Names w1 (Made w w1) vs A ∧ Below w.heap.size w w1 := by
  have HN := Lib.hid (names_any w (I := I) hI v A h (by omega))
  obtain ⟨a1, c1, rfl, _⟩ := h.strs
  clear h hI
  rcases hx with rfl | ⟨T, q, rfl⟩
  · go_enter Tryz.func15, Tryz.ntmps15
    go_wp2_with fail
    refine (HN.out).mono ?_
    rintro e w1 ⟨sv, vs, rfl, hs, hn, hb⟩
    have H := Lib.hid (And.intro hs (And.intro hn hb))
    obtain ⟨a2, c2, rfl, _⟩ := hs.lay
    clear hs hn hb HN
    go_wp2_with fail
    go_ret
    exact ⟨w1, _, vs, rfl, rfl, H.out⟩
  · go_enter Tryz.func15, Tryz.ntmps15
    go_wp2_with fail
    refine (HN.out).mono ?_
    rintro e w1 ⟨sv, vs, rfl, hs, hn, hb⟩
    have H := Lib.hid (And.intro hs (And.intro hn hb))
    obtain ⟨a2, c2, rfl, _⟩ := hs.lay
    clear hs hn hb HN
    go_wp2_with fail
    go_ret
    exact ⟨w1, _, vs, rfl, rfl, H.out⟩

/-- the parameters, in a later world -/
theorem params_of {b q : Nat} {w0 : World} {I : Nat → Prop} (hI : ∀ i, I i → i < b) (hq : ∀ i, I i → i < q) {vs : List Value} {A : List ByteArray} (h : Names w0 I vs A) :
    ∃ its : List Piece, its.map (·.v) = vs ∧ its.map (·.o) = A.map (fun s => s.data.toList) ∧ Params b w0 1 q its := by
  obtain ⟨its, h1, h2, h3⟩ := names_pieces AnyInner hI h
  refine ⟨its, h1, h2, fun it hit => ⟨(h3 it hit).1, hq _ (h3 it hit).2, ?_⟩⟩
  have hv : it.v ∈ vs := by rw [← h1]; exact List.mem_map_of_mem hit
  obtain ⟨s, p, hs, _⟩ := h.all _ hv
  rw [hs]
  exact empt_no b w0 noPack_name p

theorem Params.more {b d e q : Nat} {w0 : World} {its : List Piece} (h : Params b w0 d q its) (he : d ≤ e) : Params b w0 e q its := fun it hit => ⟨(h it hit).1.more he, (h it hit).2⟩

/-- a FunctionType, its block last, in a world W behind it -/
theorem ft_last {w w1 W : World} {x sv : Value} {vs : List Value} {A : List ByteArray} (hs : SliceOf w1 (Made w w1) sv vs) (hn : Names w1 (Made w w1) vs A) (hW : Below (w1.heap.size + 1) (w1.alloc (.cells #[x, sv, .bool false] 63)) W) :
    W.heap[w1.heap.size]? = some (Obj.cells #[x, sv, .bool false] 63 (0, 0)) ∧ w1.heap.size < W.heap.size ∧ ∃ (its : List Piece) (la : Option Addr) (lc : Nat), sv = .slice la its.length lc ∧ its.map (·.o) = A.map (fun s => s.data.toList) ∧
      Params W.heap.size W 1 w1.heap.size its ∧ SliceOf W (Low W.heap.size) (.slice la its.length lc) (its.map (·.v)) := by
  have hsz := hW.size
  simp at hsz
  have k : Below w1.heap.size w1 W := ((Below.refl _ _).alloc (Nat.le_refl _) (.cells #[x, sv, .bool false] 63)).trans (hW.mono (by omega))
  have hn' : Names W (Made w w1) vs A := hn.same (Same.below k fun i hi => hi.2)
  have hs' : SliceOf W (Made w w1) sv vs := hs.same (Same.below k fun i hi => hi.2)
  obtain ⟨its, h1, h2, h3⟩ := params_of (b := W.heap.size) (q := w1.heap.size) (fun i hi => by have := hi.2; omega) (fun i hi => hi.2) hn'
  obtain ⟨la, lc, hv, _⟩ := hs'.lay
  have hl : vs.length = its.length := by rw [← h1, List.length_map]
  rw [hl] at hv
  refine ⟨?_, by omega, its, la, lc, hv, h2, h3, ?_⟩
  · rw [hW.block _ (by omega)]
    exact heap_alloc_new w1 _
  · rw [h1, ← hv]
    exact hs'.mono fun i hi => by show i < W.heap.size; have := hi.2; omega

end Go.Proofs.YtcobcgkeojeagaaGreat
