/- isFunctionType, isReturn. -/
import Derived.Test.YtnhccgbkalpcnaaGreatDoorSmalls
namespace Go.Proofs.YtnhccgbkalpcnaaGreatDoor
open Go.RowKit

set_option maxRecDepth 100000 in
set_option maxHeartbeats 2000000 in
theorem isFunctionType_step (W0 : World) (t : Tree) (hre : ∀ p ∈ t.kids, Test W0 33 p (Good p)) (hty : ∀ p ∈ t.kids, Test W0 53 p (Good p)) : Test W0 68 t (Good t) := by
  intro v hv w hw
  obtain ⟨k, x, n, ks⟩ := t
  by_cases hk : k = ⟨#[70, 117, 110, 99, 116, 105, 111, 110, 84, 121, 112, 101]⟩
  · subst hk
    by_cases hx : x = ⟨#[]⟩
    · subst hx
      by_cases hn : n = 0
      · subst hn
        obtain ⟨sv, rfl, hl⟩ := hv.kids
        match ks, hl, hre, hty with
        | [], hl, _, _ =>
          obtain ⟨a, c, rfl, _⟩ := hl
          have S0 := Lib.hid (St.start hw (.string ⟨#[70, 117, 110, 99, 116, 105, 111, 110, 84, 121, 112, 101]⟩) (.string ⟨#[]⟩) (.int .i64 0) (.slice a 0 c))
          simp only [List.length_nil]
          clear hv
          go_enter Tryz.func68, Tryz.ntmps68
          go_wp2_with fail
          go_ret
          exact ⟨says_no rfl, S0.out.below⟩
        | p :: l, hl, hre, hty =>
          obtain ⟨b, off, c, pa, pc, rfl, hc1, hc2, hkid, hp⟩ := hl.first
          obtain ⟨_, _, e, _, ht, _⟩ := AtL.tail hl
          simp only [Option.some.injEq, Addr.mk.injEq, and_true] at e
          obtain ⟨rfl, rfl⟩ := e
          have IR := Lib.hid (hre p (by simp [Tree.kids]) _ hp)
          have hd0 : decide ((0 : Int) < (l.length : Int) + 1) = true := decide_eq_true (by omega)
          by_cases hcc : c = 1
          · subst hcc
            obtain rfl : l = [] := List.eq_nil_of_length_eq_zero (by omega)
            have IP := Lib.hid (areParams_step W0 [] (fun t h => by cases h) (.slice (some ⟨b, off, none⟩) 0 0) ⟨_, _, rfl, by simp, by omega, .inl rfl⟩)
            simp only [List.length_nil, Nat.zero_add] at *
            have HK := Lib.hid hkid
            have S0 := Lib.hid (St.start hw (.string ⟨#[70, 117, 110, 99, 116, 105, 111, 110, 84, 121, 112, 101]⟩) (.string ⟨#[]⟩) (.int .i64 0) (.slice (some ⟨b, off, none⟩) 1 1))
            obtain ⟨p0, p1, p2, p3⟩ := HK.out _ S0.out.later
            clear hv hl hkid hp ht hre hty hw
            go_enter Tryz.func68, Tryz.ntmps68
            go_wp2_with fail
            refine (IR.out _ S0.out.later).mono ?_
            rintro e w1 ⟨⟨r, rfl, hr⟩, b⟩
            have S1 := Lib.hid (S0.out.on b)
            clear b
            cases r with
            | false =>
              clear hr
              obtain ⟨p0, p1, p2, p3⟩ := HK.out _ S1.out.later
              obtain ⟨x0, x1, x2, x3⟩ := S1.out.box
              go_wp2_with fail
              go_ret
              exact ⟨says_no rfl, S1.out.below⟩
            | true =>
              have R1 := Lib.hid (hr rfl)
              clear hr
              obtain ⟨p0, p1, p2, p3⟩ := HK.out _ S1.out.later
              obtain ⟨x0, x1, x2, x3⟩ := S1.out.box
              go_wp2_with fail
              refine (IP.out w1 S1.out.later).mono ?_
              rintro e w2 ⟨⟨r, rfl, hr⟩, b⟩
              have S2 := Lib.hid (S1.out.on b)
              clear b
              clear p0 p1 p2 p3 x0 x1 x2 x3
              cases r with
              | false =>
                clear hr
                obtain ⟨p0, p1, p2, p3⟩ := HK.out _ S2.out.later
                obtain ⟨x0, x1, x2, x3⟩ := S2.out.box
                go_wp2_with fail
                go_ret
                exact ⟨says_no rfl, S2.out.below⟩
              | true =>
                have R2 := Lib.hid (hr rfl)
                clear hr
                obtain ⟨p0, p1, p2, p3⟩ := HK.out _ S2.out.later
                obtain ⟨x0, x1, x2, x3⟩ := S2.out.box
                go_wp2_with fail
                go_ret
                exact ⟨⟨_, rfl, fun _ => .functionType R1.out R2.out⟩, S2.out.below⟩
          · have IP := Lib.hid (areParams_step W0 l (fun t h => hty t (by simp [Tree.kids, h])) _ ht)
            have HK := Lib.hid hkid
            have S0 := Lib.hid (St.start hw (.string ⟨#[70, 117, 110, 99, 116, 105, 111, 110, 84, 121, 112, 101]⟩) (.string ⟨#[]⟩) (.int .i64 0) (.slice (some ⟨b, off, none⟩) (l.length + 1) c))
            obtain ⟨p0, p1, p2, p3⟩ := HK.out _ S0.out.later
            clear hv hl hkid hp ht hre hty hw
            go_enter Tryz.func68, Tryz.ntmps68
            go_wp2_with fail
            refine (IR.out _ S0.out.later).mono ?_
            rintro e w1 ⟨⟨r, rfl, hr⟩, b⟩
            have S1 := Lib.hid (S0.out.on b)
            clear b
            cases r with
            | false =>
              clear hr
              obtain ⟨p0, p1, p2, p3⟩ := HK.out _ S1.out.later
              obtain ⟨x0, x1, x2, x3⟩ := S1.out.box
              go_wp2_with fail
              go_ret
              exact ⟨says_no rfl, S1.out.below⟩
            | true =>
              have R1 := Lib.hid (hr rfl)
              clear hr
              obtain ⟨p0, p1, p2, p3⟩ := HK.out _ S1.out.later
              obtain ⟨x0, x1, x2, x3⟩ := S1.out.box
              go_wp2_with fail
              refine (IP.out w1 S1.out.later).mono ?_
              rintro e w2 ⟨⟨r, rfl, hr⟩, b⟩
              have S2 := Lib.hid (S1.out.on b)
              clear b
              clear p0 p1 p2 p3 x0 x1 x2 x3
              cases r with
              | false =>
                clear hr
                obtain ⟨p0, p1, p2, p3⟩ := HK.out _ S2.out.later
                obtain ⟨x0, x1, x2, x3⟩ := S2.out.box
                go_wp2_with fail
                go_ret
                exact ⟨says_no rfl, S2.out.below⟩
              | true =>
                have R2 := Lib.hid (hr rfl)
                clear hr
                obtain ⟨p0, p1, p2, p3⟩ := HK.out _ S2.out.later
                obtain ⟨x0, x1, x2, x3⟩ := S2.out.box
                go_wp2_with fail
                go_ret
                exact ⟨⟨_, rfl, fun _ => .functionType R1.out R2.out⟩, S2.out.below⟩
      · have hb0 : (n == 0) = false := beq_eq_false_iff_ne.2 hn
        obtain ⟨a, c, rfl, _⟩ := hv.shut
        have S0 := Lib.hid (St.start hw (.string ⟨#[70, 117, 110, 99, 116, 105, 111, 110, 84, 121, 112, 101]⟩) (.string ⟨#[]⟩) (.int .i64 n) (.slice a ks.length c))
        clear hv
        go_enter Tryz.func68, Tryz.ntmps68
        go_wp2_with fail
        go_ret
        exact ⟨says_no rfl, S0.out.below⟩
    · have hx0 : x.toList.isEmpty = false := ne_empty hx
      obtain ⟨a, c, rfl, _⟩ := hv.shut
      have S0 := Lib.hid (St.start hw (.string ⟨#[70, 117, 110, 99, 116, 105, 111, 110, 84, 121, 112, 101]⟩) (.string x) (.int .i64 n) (.slice a ks.length c))
      clear hv
      go_enter Tryz.func68, Tryz.ntmps68
      go_wp2_with fail
      go_ret
      exact ⟨says_no rfl, S0.out.below⟩
  · have hk' : (k.toList == [70, 117, 110, 99, 116, 105, 111, 110, 84, 121, 112, 101]) = false := ne_of hk
    obtain ⟨a, c, rfl, _⟩ := hv.shut
    have S0 := Lib.hid (St.start hw (.string k) (.string x) (.int .i64 n) (.slice a ks.length c))
    clear hv
    go_enter Tryz.func68, Tryz.ntmps68
    go_wp2_with fail
    go_ret
    exact ⟨says_no rfl, S0.out.below⟩

/-- a store into a block that is known whole -/
theorem heap_setCell_same {w : World} {b k : Nat} {cs : Array Value} {t : TypeId} {fz : Nat × Nat} {v : Value} (h : w.heap[b]? = some (Obj.cells cs t fz)) : (w.setCell ⟨b, k, none⟩ v).heap[b]? = some (Obj.cells (cs.setIfInBounds k v) t fz) := by
  have hlt := lt_of_block h
  have h' : w.heap[b] = .cells cs t fz := by simpa [Array.getElem?_eq_getElem hlt] using h
  show (w.heap.modify b _)[b]? = _
  rw [Array.getElem?_eq_getElem (by simpa using hlt), Array.getElem_modify_self, h']
  rfl

theorem Tables.below {w w' : World} {B : Nat} (h : Tables w) (h1 : 1 < B) (hb : Below B w w') : Tables w' := by
  obtain ⟨h0, h2, h3⟩ := h
  refine ⟨Nat.lt_of_lt_of_le h0 hb.size, fun i hi => ?_, fun i hi => ?_⟩
  · obtain ⟨s, hs⟩ := h2 i hi
    exact ⟨s, by rw [hb.cell (p := ⟨0, i, none⟩) (by show 0 < _; omega)]; exact hs⟩
  · obtain ⟨s, hs⟩ := h3 i hi
    exact ⟨s, by rw [hb.cell (p := ⟨1, i, none⟩) (by show 1 < _; omega)]; exact hs⟩

/-- a store into a block of the call's own, behind the box -/
theorem St.put {W0 w wi : World} {a b c d : Value} (h : St W0 w a b c d wi) (hw : W0.heap.size ≤ w.heap.size) (h1 : 1 < W0.heap.size) (g : Nat) (hg : w.heap.size < g) (i : Nat) (v : Value) : St W0 w a b c d (wi.setCell ⟨g, i, none⟩ v) :=
  ⟨⟨h.later.below.setCell (p := ⟨g, i, none⟩) (by show _ ≤ g; omega) v, h.later.tables.below (B := g) (by omega) ((Below.refl g wi).setCell (p := ⟨g, i, none⟩) (Nat.le_refl g) v)⟩, h.b.setCell (p := ⟨g, i, none⟩) (by show _ ≤ g; omega) v, by simpa [World.setCell] using h.sz⟩

/-- a PointerType that is good has one kid, which is good -/
theorem good_ptr {k x : ByteArray} {n : Int} {ks : List Tree} (h : Good (.node k x n ks)) (hk : k = ⟨#[80, 111, 105, 110, 116, 101, 114, 84, 121, 112, 101]⟩) : ∃ p, ks = [p] ∧ Good p := by
  subst hk
  cases h with
  | pointerType ha => exact ⟨_, rfl, ha⟩

set_option maxRecDepth 100000 in
set_option maxHeartbeats 2000000 in
theorem isReturn_step (W0 : World) (hb1 : 1 < W0.heap.size) (t : Tree) (hty : Test W0 53 t (Good t)) : Test W0 33 t (Good t) := by
  have htu := turned_any W0 t
  intro v hv w hw
  obtain ⟨k, x, n, ks⟩ := t
  have HV := Lib.hid hv
  obtain ⟨a, c, rfl, _⟩ := hv.shut
  have HT := Lib.hid (hty _ hv)
  have HU := Lib.hid (htu _ hv)
  have S0 := Lib.hid (St.start hw (.string k) (.string x) (.int .i64 n) (.slice a ks.length c))
  have HW := Lib.hid hw
  have HT0 := Lib.hid hb1
  clear hv hw hty htu
  go_enter Tryz.func33, Tryz.ntmps33
  go_wp2_with fail
  refine (HT.out _ S0.out.later).mono ?_
  rintro e w1 ⟨⟨r, rfl, hr⟩, b⟩
  have S1 := Lib.hid (S0.out.on b)
  clear b
  obtain ⟨x0, x1, x2, x3⟩ := S1.out.box
  cases r with
  | false =>
    clear hr
    go_wp2_with fail
    go_ret
    exact ⟨says_no rfl, S1.out.below⟩
  | true =>
    have G := Lib.hid (hr rfl)
    clear hr
    go_wp2_with fail
    refine (HU.out _ S1.out.later).mono ?_
    rintro e w2 ⟨⟨r, rfl, _⟩, b⟩
    have S2 := Lib.hid (S1.out.on b)
    clear b x0 x1 x2 x3
    obtain ⟨x0, x1, x2, x3⟩ := S2.out.box
    cases r with
    | false =>
      go_wp2_with fail
      go_ret
      exact ⟨⟨_, rfl, fun _ => G.out⟩, S2.out.below⟩
    | true =>
      have hb2 := heap_alloc_new w2 (.cells #[.string k, .string x, .int .i64 n, .slice a ks.length c] 24)
      have SB := Lib.hid (S2.out.on (box_below w2 (.cells #[.string k, .string x, .int .i64 n, .slice a ks.length c] 24)))
      have HB2 := Lib.hid hb2
      have hlt2 : w.heap.size < w2.heap.size := S2.out.sz
      clear hb2
      go_wp2_with fail
      go_loopg [] ((Tree.node k x n ks).sz) (fun m wr => ∃ (k' x' : ByteArray) (n' : Int) (ks' : List Tree) (a' : Option Addr) (c' : Nat), (Tree.node k' x' n' ks').sz = m ∧ Hid (Good (.node k' x' n' ks')) ∧ Hid (At W0 (.node k' x' n' ks') (.agg #[.string k', .string x', .int .i64 n', .slice a' ks'.length c'])) ∧
        Hid (wr.heap[w2.heap.size]? = some (Obj.cells #[.string k', .string x', .int .i64 n', .slice a' ks'.length c'] 24 (0, 0))) ∧ Hid (St W0 w (.string k) (.string x) (.int .i64 n) (.slice a ks.length c) wr))
      case atStart => exact ⟨k, x, n, ks, a, c, rfl, G.out, HV.out, HB2.out, SB.out⟩
      case round =>
        obtain ⟨k', x', n', ks', a', c', hm, hg, hat, hbx, hst⟩ := hrel
        have y0 : wr.cell? ⟨w2.heap.size, 0, none⟩ = some (.string k') := by simp [World.cell?, hbx.out]
        have y3 : wr.cell? ⟨w2.heap.size, 3, none⟩ = some (.slice a' ks'.length c') := by simp [World.cell?, hbx.out]
        by_cases hk : k' = ⟨#[80, 111, 105, 110, 116, 101, 114, 84, 121, 112, 101]⟩
        · subst hk
          obtain ⟨p, rfl, hp⟩ := good_ptr hg.out rfl
          obtain ⟨b, off, cc, pa, pc, e, hc1, hc2, hkid, hpa⟩ := hat.out.one
          simp only [Value.agg.injEq, Array.mk.injEq, List.cons.injEq, Value.slice.injEq, and_true, true_and, List.length_cons, List.length_nil] at e
          obtain ⟨rfl, rfl⟩ := e
          obtain ⟨p0, p1, p2, p3⟩ := hkid wr hst.out.later
          simp only [List.length_cons, List.length_nil, Nat.zero_add] at y3
          have f0 : ∀ i, wr.frozen? ⟨w2.heap.size, i, none⟩ = false := fun i => by simp [World.frozen?, hbx.out]
          have y1 : wr.cell? ⟨w2.heap.size, 1, none⟩ = some (.string x') := by simp [World.cell?, hbx.out]
          have y2 : wr.cell? ⟨w2.heap.size, 2, none⟩ = some (.int .i64 n') := by simp [World.cell?, hbx.out]
          have hlt3 : W0.heap.size ≤ w.heap.size := HW.out.below.size
          have X1 := Lib.hid ((((hst.out.put hlt3 HT0.out w2.heap.size hlt2 0 (.string p.kind)).put hlt3 HT0.out w2.heap.size hlt2 1 (.string p.text)).put hlt3 HT0.out w2.heap.size hlt2 2 (.int .i64 p.num)).put hlt3 HT0.out w2.heap.size hlt2 3 (.slice pa p.kids.length pc))
          have X2 := Lib.hid (heap_setCell_same (k := 3) (v := .slice pa p.kids.length pc) (heap_setCell_same (k := 2) (v := .int .i64 p.num) (heap_setCell_same (k := 1) (v := .string p.text) (heap_setCell_same (k := 0) (v := .string p.kind) hbx.out))))
          have PA := Lib.hid (And.intro hp hpa)
          have hsz : p.sz < gk := by rw [← hm]; exact Tree.sz_lt (t := .node _ x' n' [p]) (by simp [Tree.kids])
          clear hpa hp hkid
          go_wp2_with fail
          go_roundg p.sz
          case measure => exact hsz
          case rel =>
            obtain ⟨k3, x3, n3, l3⟩ := p
            exact ⟨k3, x3, n3, l3, pa, pc, rfl, PA.out.1, PA.out.2, X2.out, X1.out⟩
        · have hk' : (k'.toList == [80, 111, 105, 110, 116, 101, 114, 84, 121, 112, 101]) = false := ne_of hk
          obtain ⟨x0, x1, x2, x3⟩ := hst.out.box
          go_wp2_with fail
          all_goals go_ret
          all_goals exact ⟨⟨_, rfl, fun _ => G.out⟩, hst.out.below⟩

end Go.Proofs.YtnhccgbkalpcnaaGreatDoor
