/- kids of Qualifiers. -/
import Derived.Test.YtnhccgbkalpcnaaGreatDoorKids
import Derived.Deep.RegionWith
namespace Go.Proofs.YtnhccgbkalpcnaaGreatDoor
open Go.RowKit

def MakesQ1 (W0 : World) (f : FuncId) (t : Tree) : Prop := Makes W0 f t fun B w u => RepQ1M B w t u
/-- the loop of kids -/
def KInvQ (B : Nat) (w : World) (x : Value) (vs : List Value) (l : List Tree) : Prop :=
  w.ownsRow B 38 1 x vs.length vs ∧ ∀ i (h : i < vs.length) (h2 : i < l.length), RepQ1 w (fun b => B ≤ b ∧ b < w.heap.size ∧ some b ≠ x.ownBlock) l[i] vs[i]

theorem kidsQ_step {B : Nat} {wr w1 w2 : World} {x v2 u : Value} {vs : List Value} {l : List Tree} {j : Nat} (hj : vs.length = j) (hl : j < l.length) (hI : KInvQ B wr x vs l) (hB : B ≤ wr.heap.size)
    (hr : RepQ1M wr.heap.size w1 l[j] u) (b1 : Below wr.heap.size wr w1)
    (hown2 : w2.ownsRow B 38 1 v2 (vs.length + 1) (vs ++ [u])) (hg : (w1.alloc (.cells #[u] 38)).grownBy w2 x.ownBlock)
    (hat : v2.ownBlock = x.ownBlock ∨ v2.ownBlock = some (w1.alloc (.cells #[u] 38)).heap.size) : KInvQ B w2 v2 (vs ++ [u]) l ∧ Below B wr w2 := by
  obtain ⟨hown, hrep⟩ := hI
  have hx := hown.lt
  have hz1 := b1.size
  have hz2 := hg.size
  simp at hz2
  have hne : ∀ b, b < w1.heap.size → some b ≠ x.ownBlock → some b ≠ v2.ownBlock := fun b h1 h2 h3 => by
    rcases hat with h | h
    · exact h2 (h3.trans h)
    · rw [h] at h3
      simp at h3
      omega
  refine ⟨⟨by simpa using hown2, fun i h h2 => ?_⟩, ?_⟩
  · rcases Nat.lt_or_ge i vs.length with hi | hi
    · rw [List.getElem_append_left hi]
      refine (hrep i hi h2).move (fun b hb => ?_) (fun b hb => ⟨hb.1, by omega, hne b (by omega) hb.2.2⟩)
      rw [hg.block b (by simp; omega) hb.2.2, Below.heap_alloc _ _ _ (by omega), b1.block b hb.2.1]
    · have hi' : i = j := by simp at h; omega
      subst hi'
      rw [List.getElem_append_right (by omega)]
      simp only [show i - vs.length = 0 by omega, List.getElem_cons_zero]
      have hnx : ∀ b, wr.heap.size ≤ b → some b ≠ x.ownBlock := fun b hb e => by have := (hx b e.symm).2; omega
      refine RepQ1.move (fun b hb => ?_) (fun b hb => ⟨by omega, by omega, hne b hb.2 (hnx b hb.1)⟩) hr
      rw [hg.block b (by simp; omega) (hnx b hb.1), Below.heap_alloc _ _ _ hb.2]
  · refine ((b1.mono hB).alloc (by omega) _).grown hg (by simp; omega) (fun k hk => (hx k hk).1)

set_option maxRecDepth 100000 in
set_option maxHeartbeats 2000000 in
theorem kidsQ_ok {W0 : World} {t : Tree} (j0 : Nat) (hj0 : j0 ≤ t.kids.length) (hn : t.kids.length ≤ 1000) (ih : ∀ p ∈ t.kids.drop j0, MakesQ1 W0 21 p) (v : Value) (hv : At W0 t v) (w : World) (hw : Later W0 w) :
    Calls Tryz.prog 42 #[v, .int .i64 j0] w fun e w' => ∃ u, e = .returned u ∧ RepQL w.heap.size w' (t.kids.drop j0) u ∧ Below w.heap.size w w' := by
  obtain ⟨a, c, rfl, h1, h2, h3⟩ := hv.lay
  have HK := Lib.hid h3
  have IH := Lib.hid ih
  have S0 := Lib.hid (St.start hw (.string t.kind) (.string t.text) (.int .i64 t.num) (.slice a t.kids.length c))
  have HW := Lib.hid hw
  obtain ⟨i0, hi, hz0, hz1, hz2⟩ := info_parts infoAST
  have hdl : (t.kids.drop j0).length = t.kids.length - j0 := List.length_drop
  clear ih hv h3 hw
  unfold val
  go_enter Tryz.func42, Tryz.ntmps42
  go_wp2_with fail
  go_loopg [5, 6] (t.kids.length - j0) (fun k x i wr => ∃ j : Nat, j + k = t.kids.length - j0 ∧ i = .int .i64 ((j0 + j : Nat) : Int) ∧ ∃ vs : List Value, vs.length = j ∧ Hid (KInvQ (w.heap.size + 1) wr x vs (t.kids.drop j0)) ∧
    Hid (St W0 w (.string t.kind) (.string t.text) (.int .i64 t.num) (.slice a t.kids.length c) wr))
  case atStart => exact ⟨0, by omega, rfl, [], rfl, ⟨World.ownsRow_nil _ _ _ _, fun i h => by simp at h⟩, S0.out⟩
  case round =>
    obtain ⟨j, hj, rfl, vs, hvl, hinv, hst⟩ := hrel
    obtain ⟨x0, x1, x2, x3⟩ := hst.out.box
    by_cases hlt : j0 + j < t.kids.length
    · obtain ⟨b, off, rfl, hk⟩ := HK.out.resolve_left (by intro e; rw [e] at hlt; simp at hlt)
      obtain ⟨ka, kc, hkid, hat⟩ := hk (j0 + j) hlt
      obtain ⟨p0, p1, p2, p3⟩ := hkid wr hst.out.later
      have hjl : j < (t.kids.drop j0).length := by omega
      have hge : (t.kids.drop j0)[j] = t.kids[j0 + j] := List.getElem_drop
      have HC := Lib.hid (IH.out t.kids[j0 + j] (by rw [← hge]; exact List.getElem_mem hjl) _ hat _ hst.out.later)
      have hlt' : ((j0 + j : Nat) : Int) < (t.kids.length : Int) := by omega
      have i0' : (0 : Int) ≤ ((j0 + j : Nat) : Int) := by omega
      have hwr : w.heap.size + 1 ≤ wr.heap.size := hst.out.sz
      have HGE := Lib.hid hge
      have HJL := Lib.hid hjl
      have HVL := Lib.hid hvl
      clear hk hkid hat hvl
      go_wp2_with fail
      refine (HC.out).mono ?_
      rintro e w1 ⟨u, rfl, hr, b1⟩
      have HR := Lib.hid (show RepQ1M wr.heap.size w1 ((t.kids.drop j0)[j]'HJL.out) u by rw [HGE.out]; exact hr)
      have B1 := Lib.hid b1
      have OW := Lib.hid ((ownsRow_below hinv.out.1 b1 (Nat.le_refl _)).alloc (.cells #[u] 38))
      obtain ⟨T, bb, rfl, _⟩ := RepQ1.form hr
      have hw1 : wr.heap.size ≤ w1.heap.size := b1.size
      have hvs : vs.length ≤ 1000 := by rw [HVL.out]; omega
      clear hr b1 HC p0 p1 p2 p3 x0 x1 x2 x3
      go_wp2_with (first
        | (at_builtin; refine wpList_append_own_at _ rfl _ _ 70 rfl (w.heap.size + 1) 38 i0 .nilIface 1 16 Tryz.underlying70 hi hz0 hz1 hz2 rfl (by omega) _ vs.length vs rfl OW.out ⟨w1.heap.size, 0, none⟩ 1 1 [.iface T (.pointer (some ⟨bb, 0, none⟩))] rfl rfl ?c1 ?c2 ?c3 ?c4 ?c5 ?_
           rotate_left 5
           intro v2 w2 hown2 hg2 _ hat2
           have X := Lib.hid (kidsQ_step HVL.out HJL.out hinv.out hwr HR.out B1.out hown2 hg2 hat2)
           clear hown2 hg2 hat2))
      case c1 =>
        intro k y hy
        cases k with
        | zero =>
          simp at hy
          subst hy
          exact cell_of_one (heap_alloc_new w1 _)
        | succ k => simp at hy
      case c2 => exact fun y hy => by simp at hy; subst hy; rfl
      case c3 => unfold maxLen; omega
      case c4 => omega
      case c5 => simp; omega
      go_roundg (gk - 1)
      case measure => omega
      case rel => exact ⟨j + 1, by omega, by go_num, _, by simp [HVL.out], X.out.1, hst.out.over HW.out X.out.2⟩
    · have hlt' : ¬ ((j0 + j : Nat) : Int) < (t.kids.length : Int) := by omega
      have HJ := Lib.hid (show vs.length = (t.kids.drop j0).length by omega)
      go_wp2_with fail
      go_ret
      refine ⟨_, rfl, ⟨vs, ?_, HJ.out, fun i h h2 => ?_⟩, hst.out.below⟩
      · exact SliceOf.owned (base := w.heap.size + 1) hinv.out.1 (fun i h1 h2 => ⟨by omega, h2⟩)
      · exact (hinv.out.2 i h2 h).move (fun _ _ => rfl) (fun b hb => ⟨by omega, hb.2.1⟩)

set_option maxRecDepth 100000 in
set_option maxHeartbeats 2000000 in
theorem treeOf_qualifier (W0 : World) (s : ByteArray) : MakesQ1 W0 21 (.node ⟨#[81, 117, 97, 108, 105, 102, 105, 101, 114]⟩ s 0 []) := by
  intro v hv w hw
  have K0 := Lib.hid (fun W hW => kidsQ_ok (W0 := W0) (t := .node ⟨#[81, 117, 97, 108, 105, 102, 105, 101, 114]⟩ s 0 []) 0 (by simp [Tree.kids]) (by simp [Tree.kids]) (by intro p hp; simp [Tree.kids] at hp) _ hv W hW)
  obtain ⟨a', c', rfl, _⟩ := hv.shut
  have S0 := Lib.hid ((St.start hw (.string ⟨#[81, 117, 97, 108, 105, 102, 105, 101, 114]⟩) (.string s) (.int .i64 0) (.slice a' ([] : List Tree).length c')).on (Below.refl _ _).drew)
  have S0' := Lib.hid (St.start hw (.string ⟨#[81, 117, 97, 108, 105, 102, 105, 101, 114]⟩) (.string s) (.int .i64 0) (.slice a' ([] : List Tree).length c'))
  clear hv hw
  go_enter Tryz.func21, Tryz.ntmps21
  go_wp2_with fail
  go_region_with (first
    | (go_at_call_of 42 (Value.int IntKind.i64 0); refine (K0.out _ S0.out.later).mono ?_; rintro e w1 ⟨sv, rfl, r, b⟩; obtain ⟨sa, sn, sc, rfl⟩ := RepQL.form r; have R0 := Lib.hid (r.from (show w.heap.size ≤ _ from S0.out.below.size)); have S1 := Lib.hid (S0.out.on b); obtain ⟨x0, x1, x2, x3⟩ := S1.out.box; clear b K0 r)
    )
  all_goals
    go_wp2_with fail
    go_ret
    obtain ⟨kv, hs, hm, _⟩ := R0.out.on (box_below _ (.cells #[.string s, .slice sa sn sc] 99))
    obtain rfl : kv = [] := List.eq_nil_of_length_eq_zero (by simpa [Tree.kids] using hm)
    exact ⟨_, rfl, ⟨s, _, _, rfl, rfl, ⟨S1.out.below.size, by simp⟩, heap_alloc_new _ _, hs⟩, (S1.out.below).alloc (S1.out.below.size) _⟩

set_option maxRecDepth 100000 in
set_option maxHeartbeats 2000000 in
theorem treeOf_qualifiers (W0 : World) (q : Tree) (hq : Quals q) (hn : q.kids.length ≤ 900) : Makes W0 21 q fun B w u => RepQM B w q u := by
  obtain ⟨qs, rfl, hqs⟩ := hq
  have hm1 : ∀ p ∈ qs, MakesQ1 W0 21 p := fun p hp => by
    obtain ⟨s, rfl⟩ := hqs p hp
    exact treeOf_qualifier W0 s
  have hn' : qs.length ≤ 900 := hn
  clear hqs hn
  intro v hv w hw
  have K0 := Lib.hid (fun W hW => kidsQ_ok (W0 := W0) (t := .node ⟨#[81, 117, 97, 108, 105, 102, 105, 101, 114, 115]⟩ ⟨#[]⟩ 0 qs) 0 (by simp [Tree.kids]) (by simp only [Tree.kids]; omega) hm1 _ hv W hW)
  obtain ⟨a', c', rfl, _⟩ := hv.shut
  have S0 := Lib.hid ((St.start hw (.string ⟨#[81, 117, 97, 108, 105, 102, 105, 101, 114, 115]⟩) (.string ⟨#[]⟩) (.int .i64 0) (.slice a' qs.length c')).on (Below.refl _ _).drew)
  have S0' := Lib.hid (St.start hw (.string ⟨#[81, 117, 97, 108, 105, 102, 105, 101, 114, 115]⟩) (.string ⟨#[]⟩) (.int .i64 0) (.slice a' qs.length c'))
  clear hv hw hm1
  go_enter Tryz.func21, Tryz.ntmps21
  go_wp2_with fail
  refine (K0.out _ S0'.out.later).mono ?_
  rintro e w1 ⟨sv, rfl, r, b⟩
  obtain ⟨sa, sn, sc, rfl⟩ := RepQL.form r
  have R0 := Lib.hid (r.from (show w.heap.size ≤ _ from S0'.out.below.size))
  have S1 := Lib.hid (S0'.out.on b)
  clear r b K0
  go_wp2_with fail
  go_ret
  obtain ⟨kv, hs, hm, hl⟩ := R0.out.on (box_below _ (.cells #[.slice sa sn sc] 96))
  exact ⟨_, rfl, ⟨qs, _, _, kv, rfl, rfl, ⟨S1.out.below.size, by simp⟩, heap_alloc_new _ _, hs, by simpa [Tree.kids] using hm, hl⟩, (S1.out.below).alloc (S1.out.below.size) _⟩

end Go.Proofs.YtnhccgbkalpcnaaGreatDoor
