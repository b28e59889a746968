/- last, tail: parts of a good tree. -/
import Derived.Test.YtnhccgbkalpcnaaGreatDoorArg
namespace Go.Proofs.YtnhccgbkalpcnaaGreatDoor
open Go.RowKit

theorem good_qual {k x : ByteArray} {n : Int} {ks : List Tree} (h : Good (.node k x n ks)) (hk : k = ⟨#[81, 117, 97, 108, 105, 102, 105, 101, 100]⟩) : ∃ p q, ks = [p, q] ∧ Good p ∧ Good q := by
  subst hk
  cases h with
  | qualified ha hb => exact ⟨_, _, rfl, ha, hb⟩
theorem good_tmpl {k x : ByteArray} {n : Int} {ks : List Tree} (h : Good (.node k x n ks)) (hk : k = ⟨#[84, 101, 109, 112, 108, 97, 116, 101]⟩) : ∃ p l, ks = p :: l ∧ Good p := by
  subst hk
  cases h with
  | template ha hb => exact ⟨_, _, rfl, ha⟩
theorem good_tag {k x : ByteArray} {n : Int} {ks : List Tree} (h : Good (.node k x n ks)) (hk : k = ⟨#[84, 97, 103, 103, 101, 100, 78, 97, 109, 101]⟩) : ∃ p l, ks = p :: l ∧ Good p := by
  subst hk
  cases h with
  | taggedName ha hb => exact ⟨_, _, rfl, ha⟩

/-- a tree in a call's own box, a result's box behind it -/
structure Boxed (W0 w wr : World) (a b c d : Value) : Prop where
  later : Later W0 wr
  below : Below w.heap.size w wr
  size : w.heap.size + 1 < wr.heap.size
  box : wr.heap[w.heap.size]? = some (.cells #[a, b, c, d] 24 (0, 0))
  res : wr.heap[w.heap.size + 1]? = some (.cells #[.string ⟨#[]⟩, .string ⟨#[]⟩, .int .i64 0, .slice none 0 0] 24 (0, 0))

theorem Boxed.start {W0 w : World} (hw : Later W0 w) (a b c d : Value) : Boxed W0 w ((w.alloc (.cells #[a, b, c, d] 24)).alloc (.cells #[.string ⟨#[]⟩, .string ⟨#[]⟩, .int .i64 0, .slice none 0 0] 24)) a b c d := by
  have h1 := box_below w (.cells #[a, b, c, d] 24)
  have h2 := box_below (w.alloc (.cells #[a, b, c, d] 24)) (.cells #[.string ⟨#[]⟩, .string ⟨#[]⟩, .int .i64 0, .slice none 0 0] 24)
  refine ⟨(hw.on h1).on h2, h1.trans (h2.mono (by simp)), by simp, ?_, ?_⟩
  · rw [h2.block _ (by simp)]
    exact heap_alloc_new w _
  · have := heap_alloc_new (w.alloc (.cells #[a, b, c, d] 24)) (.cells #[.string ⟨#[]⟩, .string ⟨#[]⟩, .int .i64 0, .slice none 0 0] 24)
    simpa using this
theorem Boxed.cells {W0 w wr : World} {a b c d : Value} (h : Boxed W0 w wr a b c d) : wr.cell? ⟨w.heap.size, 0, none⟩ = some a ∧ wr.cell? ⟨w.heap.size, 1, none⟩ = some b ∧ wr.cell? ⟨w.heap.size, 2, none⟩ = some c ∧ wr.cell? ⟨w.heap.size, 3, none⟩ = some d := by
  simp [World.cell?, h.box]
theorem Boxed.free {W0 w wr : World} {a b c d : Value} (h : Boxed W0 w wr a b c d) : ∀ i, wr.frozen? ⟨w.heap.size, i, none⟩ = false := fun i => by simp [World.frozen?, h.box]
theorem Boxed.freeR {W0 w wr : World} {a b c d : Value} (h : Boxed W0 w wr a b c d) : ∀ i, wr.frozen? ⟨w.heap.size + 1, i, none⟩ = false := fun i => by simp [World.frozen?, h.res]
theorem Boxed.cellsR {W0 w wr : World} {a b c d : Value} (h : Boxed W0 w wr a b c d) : wr.cell? ⟨w.heap.size + 1, 0, none⟩ = some (.string ⟨#[]⟩) ∧ wr.cell? ⟨w.heap.size + 1, 1, none⟩ = some (.string ⟨#[]⟩) ∧ wr.cell? ⟨w.heap.size + 1, 2, none⟩ = some (.int .i64 0) ∧ wr.cell? ⟨w.heap.size + 1, 3, none⟩ = some (.slice none 0 0) := by
  simp [World.cell?, h.res]
/-- another tree laid into the box -/
theorem Boxed.put {W0 w wr : World} {a b c d : Value} (h : Boxed W0 w wr a b c d) (hw : Later W0 w) (a' b' c' d' : Value) :
    Boxed W0 w ((((wr.setCell ⟨w.heap.size, 0, none⟩ a').setCell ⟨w.heap.size, 1, none⟩ b').setCell ⟨w.heap.size, 2, none⟩ c').setCell ⟨w.heap.size, 3, none⟩ d') a' b' c' d' := by
  have hB : Below w.heap.size wr ((((wr.setCell ⟨w.heap.size, 0, none⟩ a').setCell ⟨w.heap.size, 1, none⟩ b').setCell ⟨w.heap.size, 2, none⟩ c').setCell ⟨w.heap.size, 3, none⟩ d') :=
    ((((Below.refl _ wr).setCell (p := ⟨w.heap.size, 0, none⟩) (Nat.le_refl _) a').setCell (p := ⟨w.heap.size, 1, none⟩) (Nat.le_refl _) b').setCell (p := ⟨w.heap.size, 2, none⟩) (Nat.le_refl _) c').setCell (p := ⟨w.heap.size, 3, none⟩) (Nat.le_refl _) d'
  refine ⟨⟨h.later.below.trans (hB.mono hw.below.size), h.later.tables.below (by have := hw.tables.1; omega) hB⟩, h.below.trans hB, by have := hB.size; have := h.size; omega, ?_, ?_⟩
  · simpa using heap_setCell_same (k := 3) (v := d') (heap_setCell_same (k := 2) (v := c') (heap_setCell_same (k := 1) (v := b') (heap_setCell_same (k := 0) (v := a') h.box)))
  · rw [Below.heap_setCell _ _ _ _ (by simp), Below.heap_setCell _ _ _ _ (by simp), Below.heap_setCell _ _ _ _ (by simp), Below.heap_setCell _ _ _ _ (by simp)]
    exact h.res

/-- a good part of the tree -/
def PartR (W0 w : World) (e : Ending) (w' : World) : Prop := ∃ t v, e = .returned v ∧ At W0 t v ∧ Good t ∧ Below w.heap.size w w'

set_option maxRecDepth 100000 in
set_option maxHeartbeats 4000000 in
theorem last_any (W0 : World) (t : Tree) (hg : Good t) (v : Value) (hv : At W0 t v) (w : World) (hw : Later W0 w) : Calls Tryz.prog 59 #[v] w fun e w' => PartR W0 w e w' := by
  obtain ⟨k, x, n, ks⟩ := t
  have HV := Lib.hid hv
  have HG := Lib.hid hg
  have HW := Lib.hid hw
  obtain ⟨a, c, rfl, _⟩ := hv.shut
  have B0 := Lib.hid (Boxed.start hw (.string k) (.string x) (.int .i64 n) (.slice a ks.length c))
  clear hv hg hw
  go_enter Tryz.func59, Tryz.ntmps59
  go_wp2_with fail
  go_loopg [] ((Tree.node k x n ks).sz) (fun m wr => ∃ (k' x' : ByteArray) (n' : Int) (ks' : List Tree) (a' : Option Addr) (c' : Nat), (Tree.node k' x' n' ks').sz = m ∧ Hid (Good (.node k' x' n' ks')) ∧ Hid (At W0 (.node k' x' n' ks') (.agg #[.string k', .string x', .int .i64 n', .slice a' ks'.length c'])) ∧
    Hid (Boxed W0 w wr (.string k') (.string x') (.int .i64 n') (.slice a' ks'.length c')))
  case atStart => exact ⟨k, x, n, ks, a, c, rfl, HG.out, HV.out, B0.out⟩
  case round =>
    obtain ⟨k', x', n', ks', a', c', hm, hg, hat, HB⟩ := hrel
    obtain ⟨y0, y1, y2, y3⟩ := HB.out.cells
    have f0 := HB.out.free
    by_cases hk : k' = ⟨#[81, 117, 97, 108, 105, 102, 105, 101, 100]⟩
    · subst hk
      obtain ⟨p, q, rfl, _, hgp⟩ := good_qual hg.out rfl
      obtain ⟨b, off, cc, pa, pc, qa, qc, e, hc1, hc2, hkid, _, hpa⟩ := hat.out.two
      simp only [Value.agg.injEq, Array.mk.injEq, List.cons.injEq, Value.slice.injEq, and_true, true_and, List.length_cons, List.length_nil] at e
      obtain ⟨rfl, rfl⟩ := e
      simp only [List.length_cons, List.length_nil, Nat.zero_add] at y3
      obtain ⟨_, ⟨p0, p1, p2, p3⟩⟩ := hkid wr HB.out.later
      have X := Lib.hid (HB.out.put HW.out (.string q.kind) (.string q.text) (.int .i64 q.num) (.slice qa q.kids.length qc))
      have PA' := Lib.hid (And.intro hgp hpa)
      have hsz : q.sz < gk := by rw [← hm]; exact Tree.sz_lt (t := .node _ x' n' [p, q]) (by simp [Tree.kids])
      clear hpa hgp hkid
      go_wp2_with fail
      go_roundg q.sz
      case measure => exact hsz
      case rel =>
        obtain ⟨k3, x3, n3, l3⟩ := q
        exact ⟨k3, x3, n3, l3, qa, qc, rfl, PA'.out.1, PA'.out.2, X.out⟩
    have hk1 : (k'.toList == [81, 117, 97, 108, 105, 102, 105, 101, 100]) = false := ne_of hk
    clear hk
    by_cases hk : k' = ⟨#[84, 101, 109, 112, 108, 97, 116, 101]⟩
    · subst hk
      obtain ⟨p, l, rfl, hgp⟩ := good_tmpl hg.out rfl
      obtain ⟨sv, e, hl⟩ := hat.out.kids
      simp only [Value.agg.injEq, Array.mk.injEq, List.cons.injEq, and_true, true_and] at e
      subst e
      obtain ⟨b, off, c2, pa, pc, e, hc1, hc2, hkid, hpa⟩ := hl.first
      simp only [Value.slice.injEq, true_and, List.length_cons] at e
      obtain ⟨rfl, rfl⟩ := e
      simp only [List.length_cons] at y3
      obtain ⟨p0, p1, p2, p3⟩ := hkid wr HB.out.later
      have X := Lib.hid (HB.out.put HW.out (.string p.kind) (.string p.text) (.int .i64 p.num) (.slice pa p.kids.length pc))
      have PA' := Lib.hid (And.intro hgp hpa)
      have hsz : p.sz < gk := by rw [← hm]; exact Tree.sz_lt (t := .node _ x' n' (p :: l)) (by simp [Tree.kids])
      clear hpa hgp hkid
      go_wp2_with fail
      go_roundg p.sz
      case measure => exact hsz
      case rel =>
        obtain ⟨k3, x3, n3, l3⟩ := p
        exact ⟨k3, x3, n3, l3, pa, pc, rfl, PA'.out.1, PA'.out.2, X.out⟩
    have hk2 : (k'.toList == [84, 101, 109, 112, 108, 97, 116, 101]) = false := ne_of hk
    clear hk
    by_cases hk : k' = ⟨#[84, 97, 103, 103, 101, 100, 78, 97, 109, 101]⟩
    · subst hk
      obtain ⟨p, l, rfl, hgp⟩ := good_tag hg.out rfl
      obtain ⟨sv, e, hl⟩ := hat.out.kids
      simp only [Value.agg.injEq, Array.mk.injEq, List.cons.injEq, and_true, true_and] at e
      subst e
      obtain ⟨b, off, c2, pa, pc, e, hc1, hc2, hkid, hpa⟩ := hl.first
      simp only [Value.slice.injEq, true_and, List.length_cons] at e
      obtain ⟨rfl, rfl⟩ := e
      simp only [List.length_cons] at y3
      obtain ⟨p0, p1, p2, p3⟩ := hkid wr HB.out.later
      have X := Lib.hid (HB.out.put HW.out (.string p.kind) (.string p.text) (.int .i64 p.num) (.slice pa p.kids.length pc))
      have PA' := Lib.hid (And.intro hgp hpa)
      have hsz : p.sz < gk := by rw [← hm]; exact Tree.sz_lt (t := .node _ x' n' (p :: l)) (by simp [Tree.kids])
      clear hpa hgp hkid
      go_wp2_with fail
      go_roundg p.sz
      case measure => exact hsz
      case rel =>
        obtain ⟨k3, x3, n3, l3⟩ := p
        exact ⟨k3, x3, n3, l3, pa, pc, rfl, PA'.out.1, PA'.out.2, X.out⟩
    have hk3 : (k'.toList == [84, 97, 103, 103, 101, 100, 78, 97, 109, 101]) = false := ne_of hk
    clear hk
    have fr := HB.out.freeR
    obtain ⟨z0, z1, z2, z3⟩ := HB.out.cellsR
    have X := Lib.hid (show ∀ a b c d, Below w.heap.size w ((((wr.setCell ⟨w.heap.size + 1, 0, none⟩ a).setCell ⟨w.heap.size + 1, 1, none⟩ b).setCell ⟨w.heap.size + 1, 2, none⟩ c).setCell ⟨w.heap.size + 1, 3, none⟩ d) from fun a b c d =>
      HB.out.below.trans (((((Below.refl _ wr).setCell (p := ⟨w.heap.size + 1, 0, none⟩) (by simp) a).setCell (p := ⟨w.heap.size + 1, 1, none⟩) (by simp) b).setCell (p := ⟨w.heap.size + 1, 2, none⟩) (by simp) c).setCell (p := ⟨w.heap.size + 1, 3, none⟩) (by simp) d))
    go_wp2_with fail
    (try simp only [Exit.inBlock, Exit.then])
    refine bodyPost_ret (by simp [results, Tryz.results59, go_sem, z0, z1, z2, z3]; try rfl) rfl ?_
    exact ⟨_, _, rfl, hat.out, hg.out, X.out _ _ _ _⟩

end Go.Proofs.YtnhccgbkalpcnaaGreatDoor
