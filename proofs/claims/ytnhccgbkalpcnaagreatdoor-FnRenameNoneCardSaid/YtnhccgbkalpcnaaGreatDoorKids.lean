/- impl.treeOf: kid and kids. -/
import Derived.Test.YtnhccgbkalpcnaaGreatDoorRep
import Derived.Maps.AppendAt
namespace Go.Proofs.YtnhccgbkalpcnaaGreatDoor
open Go.RowKit

theorem infoAST : (Tryz.prog.info? 38).map (fun i => (i.zero, i.size, i.bytes)) = some (some .nilIface, 1, 16) := by kernel_rfl

theorem ownsRow_below {w w' : World} {base : Nat} {e : TypeId} {size : Nat} {v : Value} {n : Nat} {xs : List Value} (h : w.ownsRow base e size v n xs) {B : Nat} (hb : Below B w w') (hB : w.heap.size ≤ B) : w'.ownsRow base e size v n xs := by
  refine ⟨h.1, ?_⟩
  rcases h.2 with h2 | ⟨g, cap, cur, hv, hg, hh, r⟩
  · exact .inl h2
  · exact .inr ⟨g, cap, cur, hv, hg, by rw [hb.block g (Nat.lt_of_lt_of_le (lt_of_block hh) hB)]; exact hh, r⟩

/-- what a function makes of a tree: R tells what the element is, its blocks made from a place on -/
def Makes (W0 : World) (f : FuncId) (t : Tree) (R : Nat → World → Value → Prop) : Prop :=
  ∀ (v : Value), At W0 t v → ∀ w, Later W0 w → Calls Tryz.prog f #[v] w fun e w' => ∃ u, e = .returned u ∧ R w.heap.size w' u ∧ Below w.heap.size w w'
def MakesRep (W0 : World) (f : FuncId) (t : Tree) : Prop := Makes W0 f t fun B w u => RepM B w t u
/-- R is kept when the place is set lower -/
def Lowers (R : Nat → World → Value → Prop) : Prop := ∀ B B' w u, B' ≤ B → R B w u → R B' w u
theorem lowers_rep (t : Tree) : Lowers fun B w u => RepM B w t u := fun _ _ _ _ h k => k.from h
theorem lowers_quals (t : Tree) : Lowers fun B w u => RepQM B w t u := fun _ _ _ _ h k => k.from h
theorem lowers_nil : Lowers fun _ _ u => u = .nilIface := fun _ _ _ _ _ k => k

set_option maxRecDepth 100000 in
set_option maxHeartbeats 2000000 in
theorem kid_ok {W0 : World} {t p : Tree} {i : Nat} (hi : t.kids[i]? = some p) {R : Nat → World → Value → Prop} (hR : Lowers R) (h : Makes W0 21 p R) (v : Value) (hv : At W0 t v) (w : World) (hw : Later W0 w) :
    Calls Tryz.prog 41 #[v, .int .i64 i] w fun e w' => ∃ u, e = .returned u ∧ R w.heap.size w' u ∧ Below w.heap.size w w' := by
  obtain ⟨hlt, hp⟩ := List.getElem?_eq_some_iff.1 hi
  obtain ⟨a, c, rfl, h1, h2, h3⟩ := hv.lay
  obtain ⟨b, off, rfl, hk⟩ := h3.resolve_left (by intro e; rw [e] at hlt; simp at hlt)
  obtain ⟨ka, kc, hkid, hat⟩ := hk i hlt
  rw [hp] at hkid hat
  have S0 := Lib.hid (St.start hw (.string t.kind) (.string t.text) (.int .i64 t.num) (.slice (some ⟨b, off, none⟩) t.kids.length c))
  have HC := Lib.hid (h _ hat _ S0.out.later)
  have HR := Lib.hid hR
  obtain ⟨p0, p1, p2, p3⟩ := hkid _ S0.out.later
  have hlt' : (i : Int) < (t.kids.length : Int) := by omega
  have hge : ¬ ((t.kids.length : Int) ≤ (i : Int)) := by omega
  have i0 : (0 : Int) ≤ (i : Int) := by omega
  have hwz := Lib.hid (box_below w (.cells #[.string t.kind, .string t.text, .int .i64 t.num, .slice (some ⟨b, off, none⟩) t.kids.length c] 24))
  clear hk hkid hat hp hi hR h hv h3 hw
  unfold val
  go_enter Tryz.func41, Tryz.ntmps41
  go_wp2_with fail
  refine (HC.out).mono ?_
  rintro e w1 ⟨u, rfl, hr, b1⟩
  have X := Lib.hid (And.intro (HR.out _ w.heap.size _ _ (by simp) hr) (hwz.out.trans (b1.mono (by simp))))
  clear hr b1
  go_wp2_with fail
  go_ret
  exact ⟨u, rfl, X.out.1, X.out.2⟩

/-- the loop of kids -/
def KInv (B : Nat) (w : World) (x : Value) (vs : List Value) (l : List Tree) : Prop :=
  w.ownsRow B 38 1 x vs.length vs ∧ ∀ i (h : i < vs.length) (h2 : i < l.length), Rep w (fun b => B ≤ b ∧ b < w.heap.size ∧ some b ≠ x.ownBlock) l[i] vs[i]

theorem kids_step {B : Nat} {wr w1 w2 : World} {x v2 u : Value} {vs : List Value} {l : List Tree} {j : Nat} (hj : vs.length = j) (hl : j < l.length) (hI : KInv B wr x vs l) (hB : B ≤ wr.heap.size)
    (hr : RepM wr.heap.size w1 l[j] u) (b1 : Below wr.heap.size wr w1)
    (hown2 : w2.ownsRow B 38 1 v2 (vs.length + 1) (vs ++ [u])) (hg : (w1.alloc (.cells #[u] 38)).grownBy w2 x.ownBlock)
    (hat : v2.ownBlock = x.ownBlock ∨ v2.ownBlock = some (w1.alloc (.cells #[u] 38)).heap.size) : KInv B w2 v2 (vs ++ [u]) l ∧ Below B wr w2 := by
  obtain ⟨hown, hrep⟩ := hI
  have hx := hown.lt
  have hz1 := b1.size
  have hz2 := hg.size
  simp at hz2
  have hne : ∀ b, b < w1.heap.size → some b ≠ x.ownBlock → some b ≠ v2.ownBlock := fun b h1 h2 h3 => by
    rcases hat with h | h
    · exact h2 (h3.trans h)
    · rw [h] at h3
      simp at h3
      omega
  refine ⟨⟨by simpa using hown2, fun i h h2 => ?_⟩, ?_⟩
  · rcases Nat.lt_or_ge i vs.length with hi | hi
    · rw [List.getElem_append_left hi]
      refine (hrep i hi h2).move (fun b hb => ?_) (fun b hb => ⟨hb.1, by omega, hne b (by omega) hb.2.2⟩)
      rw [hg.block b (by simp; omega) hb.2.2, Below.heap_alloc _ _ _ (by omega), b1.block b hb.2.1]
    · have hi' : i = j := by simp at h; omega
      subst hi'
      rw [List.getElem_append_right (by omega)]
      simp only [show i - vs.length = 0 by omega, List.getElem_cons_zero]
      have hnx : ∀ b, wr.heap.size ≤ b → some b ≠ x.ownBlock := fun b hb e => by have := (hx b e.symm).2; omega
      refine Rep.move (fun b hb => ?_) (fun b hb => ⟨by omega, by omega, hne b hb.2 (hnx b hb.1)⟩) hr
      rw [hg.block b (by simp; omega) (hnx b hb.1), Below.heap_alloc _ _ _ hb.2]
  · refine ((b1.mono hB).alloc (by omega) _).grown hg (by simp; omega) (fun k hk => (hx k hk).1)

theorem Tables.below2 {w w' : World} {B : Nat} (h : Tables w) (h1 : 1 < B) (hb : Below B w w') : Tables w' := by
  obtain ⟨h0, h2, h3⟩ := h
  refine ⟨Nat.lt_of_lt_of_le h0 hb.size, fun i hi => ?_, fun i hi => ?_⟩
  · obtain ⟨s, hs⟩ := h2 i hi
    exact ⟨s, by rw [hb.cell (p := ⟨0, i, none⟩) (by show 0 < _; omega)]; exact hs⟩
  · obtain ⟨s, hs⟩ := h3 i hi
    exact ⟨s, by rw [hb.cell (p := ⟨1, i, none⟩) (by show 1 < _; omega)]; exact hs⟩

theorem St.over {W0 w wi w2 : World} {a b c d : Value} (h : St W0 w a b c d wi) (hw : Later W0 w) (hb : Below (w.heap.size + 1) wi w2) : St W0 w a b c d w2 :=
  ⟨⟨h.later.below.trans (hb.mono (by have := hw.below.size; omega)), h.later.tables.below2 (by have := hw.tables.1; omega) hb⟩, h.b.trans hb, Nat.lt_of_lt_of_le h.sz hb.size⟩

set_option maxRecDepth 100000 in
set_option maxHeartbeats 2000000 in
theorem kids_ok {W0 : World} {t : Tree} (j0 : Nat) (hj0 : j0 ≤ t.kids.length) (hn : t.kids.length ≤ 1000) (ih : ∀ p ∈ t.kids.drop j0, MakesRep W0 21 p) (v : Value) (hv : At W0 t v) (w : World) (hw : Later W0 w) :
    Calls Tryz.prog 42 #[v, .int .i64 j0] w fun e w' => ∃ u, e = .returned u ∧ RepL w.heap.size w' (t.kids.drop j0) u ∧ Below w.heap.size w w' := by
  obtain ⟨a, c, rfl, h1, h2, h3⟩ := hv.lay
  have HK := Lib.hid h3
  have IH := Lib.hid ih
  have S0 := Lib.hid (St.start hw (.string t.kind) (.string t.text) (.int .i64 t.num) (.slice a t.kids.length c))
  have HW := Lib.hid hw
  obtain ⟨i0, hi, hz0, hz1, hz2⟩ := info_parts infoAST
  have hdl : (t.kids.drop j0).length = t.kids.length - j0 := List.length_drop
  clear ih hv h3 hw
  unfold val
  go_enter Tryz.func42, Tryz.ntmps42
  go_wp2_with fail
  go_loopg [5, 6] (t.kids.length - j0) (fun k x i wr => ∃ j : Nat, j + k = t.kids.length - j0 ∧ i = .int .i64 ((j0 + j : Nat) : Int) ∧ ∃ vs : List Value, vs.length = j ∧ Hid (KInv (w.heap.size + 1) wr x vs (t.kids.drop j0)) ∧
    Hid (St W0 w (.string t.kind) (.string t.text) (.int .i64 t.num) (.slice a t.kids.length c) wr))
  case atStart => exact ⟨0, by omega, rfl, [], rfl, ⟨World.ownsRow_nil _ _ _ _, fun i h => by simp at h⟩, S0.out⟩
  case round =>
    obtain ⟨j, hj, rfl, vs, hvl, hinv, hst⟩ := hrel
    obtain ⟨x0, x1, x2, x3⟩ := hst.out.box
    by_cases hlt : j0 + j < t.kids.length
    · obtain ⟨b, off, rfl, hk⟩ := HK.out.resolve_left (by intro e; rw [e] at hlt; simp at hlt)
      obtain ⟨ka, kc, hkid, hat⟩ := hk (j0 + j) hlt
      obtain ⟨p0, p1, p2, p3⟩ := hkid wr hst.out.later
      have hjl : j < (t.kids.drop j0).length := by omega
      have hge : (t.kids.drop j0)[j] = t.kids[j0 + j] := List.getElem_drop
      have HC := Lib.hid (IH.out t.kids[j0 + j] (by rw [← hge]; exact List.getElem_mem hjl) _ hat _ hst.out.later)
      have hlt' : ((j0 + j : Nat) : Int) < (t.kids.length : Int) := by omega
      have i0' : (0 : Int) ≤ ((j0 + j : Nat) : Int) := by omega
      have hwr : w.heap.size + 1 ≤ wr.heap.size := hst.out.sz
      have HGE := Lib.hid hge
      have HJL := Lib.hid hjl
      have HVL := Lib.hid hvl
      clear hk hkid hat hvl
      go_wp2_with fail
      refine (HC.out).mono ?_
      rintro e w1 ⟨u, rfl, hr, b1⟩
      have HR := Lib.hid (show RepM wr.heap.size w1 ((t.kids.drop j0)[j]'HJL.out) u by rw [HGE.out]; exact hr)
      have B1 := Lib.hid b1
      have OW := Lib.hid ((ownsRow_below hinv.out.1 b1 (Nat.le_refl _)).alloc (.cells #[u] 38))
      obtain ⟨T, bb, rfl, _⟩ := Rep.form hr
      have hw1 : wr.heap.size ≤ w1.heap.size := b1.size
      have hvs : vs.length ≤ 1000 := by rw [HVL.out]; omega
      clear hr b1 HC p0 p1 p2 p3 x0 x1 x2 x3
      go_wp2_with (first
        | (at_builtin; refine wpList_append_own_at _ rfl _ _ 70 rfl (w.heap.size + 1) 38 i0 .nilIface 1 16 Tryz.underlying70 hi hz0 hz1 hz2 rfl (by omega) _ vs.length vs rfl OW.out ⟨w1.heap.size, 0, none⟩ 1 1 [.iface T (.pointer (some ⟨bb, 0, none⟩))] rfl rfl ?c1 ?c2 ?c3 ?c4 ?c5 ?_
           rotate_left 5
           intro v2 w2 hown2 hg2 _ hat2
           have X := Lib.hid (kids_step HVL.out HJL.out hinv.out hwr HR.out B1.out hown2 hg2 hat2)
           clear hown2 hg2 hat2))
      case c1 =>
        intro k y hy
        cases k with
        | zero =>
          simp at hy
          subst hy
          exact cell_of_one (heap_alloc_new w1 _)
        | succ k => simp at hy
      case c2 => exact fun y hy => by simp at hy; subst hy; rfl
      case c3 => unfold maxLen; omega
      case c4 => omega
      case c5 => simp; omega
      go_roundg (gk - 1)
      case measure => omega
      case rel => exact ⟨j + 1, by omega, by go_num, _, by simp [HVL.out], X.out.1, hst.out.over HW.out X.out.2⟩
    · have hlt' : ¬ ((j0 + j : Nat) : Int) < (t.kids.length : Int) := by omega
      have HJ := Lib.hid (show vs.length = (t.kids.drop j0).length by omega)
      go_wp2_with fail
      go_ret
      refine ⟨_, rfl, ⟨vs, ?_, HJ.out, fun i h h2 => ?_⟩, hst.out.below⟩
      · exact SliceOf.owned (base := w.heap.size + 1) hinv.out.1 (fun i h1 h2 => ⟨by omega, h2⟩)
      · exact (hinv.out.2 i h2 h).move (fun _ _ => rfl) (fun b hb => ⟨by omega, hb.2.1⟩)

end Go.Proofs.YtnhccgbkalpcnaaGreatDoor
