/- ASTToString without options: the bytes that the element is printed to. -/
import Derived.Test.YtcobcgkeojeagaaGreatPlain
namespace Go.Proofs.YtcobcgkeojeagaaGreat
open Go.RowKit

/-- nothing is still to be printed around -/
def Bare (iv : Value) (inn : List Value) : Prop := iv = .slice none 0 0 ∧ inn = []

theorem cells_byte : Tryz.prog.cellsOf 5 = 1 := by kernel_rfl

theorem unsafeString_zero (W : World) (q : Option Addr) : (Builtin.unsafeString_ #[67, 3] 9 #[.pointer q, .int .i64 0]).run Tryz.prog W = .ok (.string .empty) W := Lib.run_unsafeString_none W _ _ _ q

set_option maxRecDepth 100000 in
set_option maxHeartbeats 2000000 in
theorem bString_any {b : Nat} {sc last : Int} {text : List UInt8} {iv : Value} {inn pr : List Value} {w : World} (h : PSt b sc last text iv inn pr w) (hlen : text.length ≤ 140737488355328) :
    Calls Tryz.prog 19 #[.pointer (some ⟨b, 5, none⟩)] w fun e w' => e = .returned (.string ⟨text.toArray⟩) ∧ Below b w w' := by
  obtain ⟨ad, buf, pv, h⟩ := h
  have hbs := lt_of_block h.block
  rcases h.bufOwn.2 with ⟨rfl, h1⟩ | ⟨g, cap, cur, rfl, hB, hg, hnc, hcm, hcs, htake⟩
  · have ht : text = [] := List.eq_nil_of_length_eq_zero h1
    subst ht
    have hUS := unsafeString_zero
    have c6 : w.drew.cell? ⟨b, 6, none⟩ = some (.slice none 0 0) := h.cells.2.2.2.2.2.2.1
    have hSD : (Builtin.unsafeSliceData_ #[49] 67 #[.slice none 0 0]).run Tryz.prog w.drew = .ok (.pointer none) w.drew := rfl
    clear h h1
    go_enter Tryz.func19, Tryz.ntmps19
    go_wp2_with fail
    go_region
    all_goals (go_wp2; go_ret; exact ⟨rfl, Below.drew (Below.refl b w)⟩)
  · by_cases h0 : text = []
    · subst h0
      have hUS := unsafeString_zero
      by_cases hc0 : cap = 0
      · subst hc0
        have c6 : w.drew.cell? ⟨b, 6, none⟩ = some (.slice (some ⟨g, 0, none⟩) 0 0) := h.cells.2.2.2.2.2.2.1
        have hSD : (Builtin.unsafeSliceData_ #[49] 67 #[.slice (some ⟨g, 0, none⟩) 0 0]).run Tryz.prog w.drew = .ok (.pointer (some ⟨w.drew.heap.size, 0, none⟩)) (w.drew.alloc (.view ⟨g, 0, none⟩ 5)) :=
          Lib.run_unsafeSliceData_zero w.drew _ _ 5 Tryz.underlying67 ⟨g, 0, none⟩ 0 (5, cur.size) (by have hg' : w.drew.heap[g]? = some (.cells cur 5 (0, 0)) := hg; simp only [World.shape?, hg'])
        have c7 : (w.drew.alloc (.view ⟨g, 0, none⟩ 5)).cell? ⟨b, 6, none⟩ = some (.slice (some ⟨g, 0, none⟩) 0 0) := by
          rw [World.cell?_of_block (w := w.drew) (Below.heap_alloc w.drew _ b hbs)]
          exact c6
        have c8 : (w.alloc (.view ⟨g, 0, none⟩ 5)).drew.cell? ⟨b, 6, none⟩ = some (.slice (some ⟨g, 0, none⟩) 0 0) := c7
        have c9 : w.cell? ⟨b, 6, none⟩ = some (.slice (some ⟨g, 0, none⟩) 0 0) := c6
        clear h hnc hcm hcs htake hg
        go_enter Tryz.func19, Tryz.ntmps19
        go_wp2_with fail
        go_region
        all_goals (go_wp2; go_ret; exact ⟨rfl, (Below.drew (Below.refl b w)).alloc (by show b ≤ w.heap.size; omega) _⟩)
      · have c6 : w.drew.cell? ⟨b, 6, none⟩ = some (.slice (some ⟨g, 0, none⟩) 0 cap) := h.cells.2.2.2.2.2.2.1
        have hSD : (Builtin.unsafeSliceData_ #[49] 67 #[.slice (some ⟨g, 0, none⟩) 0 cap]).run Tryz.prog w.drew = .ok (.pointer (some ⟨g, 0, none⟩)) w.drew :=
          Lib.run_unsafeSliceData_row _ _ _ _ _ _ hc0
        clear h hnc hcm hcs htake hg hc0
        go_enter Tryz.func19, Tryz.ntmps19
        go_wp2_with fail
        go_region
        all_goals (go_wp2; go_ret; exact ⟨rfl, Below.drew (Below.refl b w)⟩)
    · have hl0 : 0 < text.length := List.length_pos_iff.2 h0
      have c6 : w.drew.cell? ⟨b, 6, none⟩ = some (.slice (some ⟨g, 0, none⟩) text.length cap) := h.cells.2.2.2.2.2.2.1
      have hSD : (Builtin.unsafeSliceData_ #[49] 67 #[.slice (some ⟨g, 0, none⟩) text.length cap]).run Tryz.prog w.drew = .ok (.pointer (some ⟨g, 0, none⟩)) w.drew :=
        Lib.run_unsafeSliceData_row _ _ _ _ _ _ (by omega)
      have hUS : (Builtin.unsafeString_ #[67, 3] 9 #[.pointer (some ⟨g, 0, none⟩), .int .i64 text.length]).run Tryz.prog w.drew = .ok (.string ⟨text.toArray⟩) (w.drew.freeze ⟨g, 0, none⟩ text.length) := by
        refine Lib.run_unsafeString_row w.drew 67 3 9 5 Tryz.underlying67 cells_byte g cur.size (by have hg' : w.drew.heap[g]? = some (.cells cur 5 (0, 0)) := hg; simp only [World.shape?, hg']) text h0 (by omega) (by omega) ?_
        intro j x hx
        exact h.bufOwn.cells (g := g) rfl j (.int .u8 x.toNat) (by simp [Lib.byteCells, hx])
      have HB := Lib.hid hB
      clear h hnc hcm hcs htake hg hl0 h0 hB
      go_enter Tryz.func19, Tryz.ntmps19
      go_wp2_with fail
      go_region
      all_goals (go_wp2; go_ret; exact ⟨rfl, Lib.below_freeze (Below.drew (Below.refl b w)) (p := ⟨g, 0, none⟩) HB.out _⟩)

set_option maxRecDepth 100000 in
set_option maxHeartbeats 2000000 in
theorem toString_any {G : Value → List Value → Prop} (hG : G (.slice none 0 0) []) {w : World} {d : Nat} {v : Value} {o : List UInt8} (h : Prints G w.heap.size w d v o) (hd : d ≤ 1000000) (hlen : o.length ≤ 140737488355328) :
    Calls Tryz.prog 13 #[v, .slice none 0 0] w fun e w' => e = .returned (.string ⟨o.toArray⟩) ∧ Below w.heap.size w w' := by
  obtain ⟨T, f, q, cs, t, d', rfl, pf, hc, hq, rfl, hb⟩ := h
  have HBd := Lib.hid hb
  clear hb hc
  go_enter Tryz.func13, Tryz.ntmps13
  go_wp2_with fail
  go_loopg [5, 6, 7, 8, 15] 0 (fun k x5 x6 x7 x8 i wr => w = wr ∧ i = .int .i64 0 ∧ x5 = .bool true ∧ x6 = .bool true ∧ x7 = .bool false ∧ x8 = .int .i64 0)
  case atStart => exact ⟨rfl, rfl, rfl, rfl, rfl, rfl⟩
  case round =>
    obtain ⟨rfl, rfl, rfl, rfl, rfl, rfl⟩ := hrel
    have hd0 : decide ((0 : Int) < 0) = false := by decide
    go_wp2_with fail
    have HM : ∀ (nm : String) (W' : World), nm = mname → (method 263 T (.pointer (some ⟨q, 0, none⟩)) nm).run Tryz.prog W' = .ok (f, .pointer (some ⟨q, 0, none⟩)) W' := fun nm W' e => e ▸ pf.m q W'
    rw [HM]
    rotate_left
    kernel_rfl
    simp only [Result.andThen]
    rw [pf.call]
    rw [Oper.upon_enter]
    have p0 : PSt w.heap.size 1 0 [] (.slice none 0 0) [] [] (w.alloc (.cells (psCells 1 none (.slice none 0 0) 0 (.slice none 0 0) (.slice none 0 0)) 54)) :=
      ⟨none, .slice none 0 0, .slice none 0 0, heap_alloc_new w _, .inl rfl, World.ownsRow_nil _ _ _ _, World.ownsRow_nil _ _ _ _, World.ownsRow_nil _ _ _ _, .inl rfl⟩
    have hcall := HBd.out _ 1 0 [] (.slice none 0 0) [] [] (fun i hi => Below.heap_alloc w _ i hi) p0 hG (by simp; omega) (fun u hu => by cases hu) (by simpa using hlen)
    have HC := Lib.hid hcall
    clear hcall p0 HM hG
    refine (HC.out).mono ?_
    rintro e w1 ⟨rfl, h1, k1⟩
    have HS := Lib.hid (bString_any h1 (by simpa using hlen))
    have HK := Lib.hid ((((Below.refl w.heap.size w).alloc (Nat.le_refl _) _).trans k1.below))
    clear h1 k1 HC HBd
    go_wp2_with fail
    refine (HS.out).mono ?_
    rintro e w2 ⟨rfl, b2⟩
    have HX := Lib.hid (HK.out.trans b2)
    clear b2 HS HK
    go_wp2_with fail
    go_ret
    exact ⟨rfl, HX.out⟩

end Go.Proofs.YtcobcgkeojeagaaGreat
