/- impl.words: Qualifiers of plain words; a type with them is printed. -/
import Derived.Test.YtcobcgkeojeagaaQuals
namespace Go.Proofs.Ytcobcgkeojeagaa
open Go.RowKit

/-- the values are Qualifiers with these words, each in a block of its own -/
def IsWords (w : World) (I : Nat → Prop) (vs : List Value) (ss : List ByteArray) : Prop :=
  vs.length = ss.length ∧ ∀ i (h : i < ss.length), ∃ q, vs[i]? = some (.iface 100 (.pointer (some ⟨q, 0, none⟩))) ∧ I q ∧ w.heap[q]? = some (.cells #[.string ss[i], .slice none 0 0] 102 (0, 0))

theorem IsWords.imp {w w' : World} {I J : Nat → Prop} {vs : List Value} {ss : List ByteArray} (h : IsWords w I vs ss) (f : ∀ q s, I q → w.heap[q]? = some (.cells #[.string s, .slice none 0 0] 102 (0, 0)) → J q ∧ w'.heap[q]? = some (.cells #[.string s, .slice none 0 0] 102 (0, 0))) : IsWords w' J vs ss := by
  refine ⟨h.1, fun i hi => ?_⟩
  obtain ⟨q, h1, h2, h3⟩ := h.2 i hi
  exact ⟨q, h1, (f q _ h2 h3).1, (f q _ h2 h3).2⟩

theorem IsWords.snoc {w : World} {I : Nat → Prop} {vs : List Value} {L : List ByteArray} {j q : Nat} (hj : j < L.length) (h : IsWords w I vs (L.take j)) (hI : I q) (hq : w.heap[q]? = some (.cells #[.string L[j], .slice none 0 0] 102 (0, 0))) :
    IsWords w I (vs ++ [.iface 100 (.pointer (some ⟨q, 0, none⟩))]) (L.take (j + 1)) := by
  have hl : vs.length = j := by rw [h.1, List.length_take]; omega
  refine ⟨by rw [List.length_append, hl, List.length_take]; simp; omega, fun i hi => ?_⟩
  rw [List.length_take] at hi
  rcases Nat.lt_or_ge i j with h' | h'
  · obtain ⟨p, h1, h2, h3⟩ := h.2 i (by rw [List.length_take]; omega)
    refine ⟨p, by rw [List.getElem?_append_left (by omega)]; exact h1, h2, ?_⟩
    rw [h3]
    simp
  · obtain rfl : i = j := by omega
    refine ⟨q, by rw [List.getElem?_append_right (by omega), hl]; simp, hI, ?_⟩
    rw [hq]
    simp

set_option maxRecDepth 100000 in
set_option maxHeartbeats 2000000 in
theorem words_any (w : World) {I : Nat → Prop} (hI : ∀ i, I i → i < w.heap.size) (v : Value) (L : List ByteArray) (h : SliceOf w I v (strv L)) (hL : L.length ≤ 1000) :
    Calls Try.prog 32 #[v] w fun e w' => ∃ x vs, e = .returned (.iface 97 (.pointer (some ⟨w.heap.size, 0, none⟩))) ∧ w'.heap[w.heap.size]? = some (.cells #[x] 99 (0, 0)) ∧
      SliceOf w' (Made w w') x vs ∧ IsWords w' (Made w w') vs L ∧ w.heap.size < w'.heap.size ∧ Below w.heap.size w w' := by
  obtain ⟨la, lc, rfl, hl1, hl2, hlr⟩ := h.strs
  have HR := Lib.hid hlr
  have HI := Lib.hid hI
  clear h hlr hI hl1 hl2
  obtain ⟨i0, hi, hz0, hz1, hz2⟩ := info_parts infoAST
  go_enter Try.func32, Try.ntmps32
  go_wp2_with fail
  go_loopg [10] (L.length) (fun k i wr => ∃ j : Nat, j + k = L.length ∧ i = .int .i64 j ∧ ∃ x vs, Hid (wr.heap[w.heap.size]? = some (Obj.cells #[x] 99 (0, 0))) ∧
    Hid (wr.ownsRow w.heap.size 47 1 x j vs) ∧ Hid (IsWords wr (Made w wr) vs (L.take j)) ∧ Hid (Below w.heap.size w wr))
  case atStart => exact ⟨0, by omega, rfl, _, [], heap_alloc_new w _, World.ownsRow_nil _ _ _ _, ⟨rfl, fun i hi => by simp at hi⟩, (Below.refl _ _).alloc (Nat.le_refl _) _⟩
  case round =>
    obtain ⟨j, hj, rfl, x, vs, hq, hown, hw, hb⟩ := hrel
    have hws := lt_of_block hq.out
    by_cases hlt : j < L.length
    · rcases HR.out with rfl | ⟨b, off, rfl, hbI, hcell⟩
      · simp at hlt
      have hbl := HI.out _ hbI
      have hc1 : wr.cell? ⟨b, off + j, none⟩ = some (.string L[j]) := by rw [hb.out.cell (p := ⟨b, off + j, none⟩) hbl]; exact hcell j hlt
      obtain ⟨xa, xc, hxe, _⟩ := (SliceOf.owned (I := fun _ => True) hown.out (fun _ _ _ => trivial)).lay
      have c0 : wr.cell? ⟨w.heap.size, 0, none⟩ = some x := cell_at hq.out rfl
      obtain ⟨v', w2, hrun, hown2, hg2⟩ := run_append_row (P := Try.prog) ((wr.alloc (.cells #[.string L[j], .slice none 0 0] 102)).alloc (.cells #[.iface 100 (.pointer (some ⟨wr.heap.size, 0, none⟩))] 47)) w.heap.size 59 59 47 i0 .nilIface 16 Try.underlying59 hi hz0 hz1 hz2 rfl
        x j vs ((hown.out.alloc _).alloc _) (.slice (some ⟨wr.heap.size + 1, 0, none⟩) 1 1) [.iface 100 (.pointer (some ⟨wr.heap.size, 0, none⟩))] (I := fun _ => True) (SliceOf.one _ _ _ _ (by simp) trivial) (fun u hu => by simp at hu; subst hu; rfl) (by simp [maxLen]; omega) (by simp; omega) (by simp; omega)
      have hq2 : ((wr.alloc (.cells #[.string L[j], .slice none 0 0] 102)).alloc (.cells #[.iface 100 (.pointer (some ⟨wr.heap.size, 0, none⟩))] 47)).heap[w.heap.size]? = some (Obj.cells #[x] 99 (0, 0)) := by
        rw [Below.heap_alloc _ _ _ (by simp; omega), Below.heap_alloc _ _ _ hws]
        exact hq.out
      have hq3 : w2.heap[w.heap.size]? = some (Obj.cells #[x] 99 (0, 0)) := by
        rw [hg2.block _ (by simp; omega) (ne_ownBlock ((hown.out.alloc _).alloc _) hq2 (by decide))]
        exact hq2
      have d0 : w2.cell? ⟨w.heap.size, 0, none⟩ = some x := cell_at hq3 rfl
      have f0 : w2.frozen? ⟨w.heap.size, 0, none⟩ = false := free_at hq3
      obtain ⟨a2, c2, hv2, _, _, _⟩ := (SliceOf.owned (I := fun _ => True) hown2 (fun _ _ _ => trivial)).lay
      simp only [List.length_append, List.length_cons, List.length_nil, Nat.zero_add] at hv2
      have hsz2 : wr.heap.size + 2 ≤ w2.heap.size := by have := hg2.size; simpa using this
      have keep : ∀ (q : Nat) (s : ByteArray), wr.heap[q]? = some (Obj.cells #[.string s, .slice none 0 0] 102 (0, 0)) → (w2.setCell ⟨w.heap.size, 0, none⟩ v').heap[q]? = some (Obj.cells #[.string s, .slice none 0 0] 102 (0, 0)) := by
        intro q s hc
        have hlq := lt_of_block hc
        have hc2 : ((wr.alloc (.cells #[.string L[j], .slice none 0 0] 102)).alloc (.cells #[.iface 100 (.pointer (some ⟨wr.heap.size, 0, none⟩))] 47)).heap[q]? = some (Obj.cells #[.string s, .slice none 0 0] 102 (0, 0)) := by
          rw [Below.heap_alloc _ _ _ (by simp; omega), Below.heap_alloc _ _ _ hlq]
          exact hc
        rw [Below.heap_setCell _ _ _ _ (by
          intro e
          have e' : q = w.heap.size := e
          subst e'
          rw [hq2] at hc2
          simp at hc2), hg2.block _ (by simp; omega) (ne_ownBlock ((hown.out.alloc _).alloc _) hc2 (by decide))]
        exact hc2
      have hnew : (w2.setCell ⟨w.heap.size, 0, none⟩ v').heap[wr.heap.size]? = some (Obj.cells #[.string L[j], .slice none 0 0] 102 (0, 0)) := by
        have hc2 : ((wr.alloc (.cells #[.string L[j], .slice none 0 0] 102)).alloc (.cells #[.iface 100 (.pointer (some ⟨wr.heap.size, 0, none⟩))] 47)).heap[wr.heap.size]? = some (Obj.cells #[.string L[j], .slice none 0 0] 102 (0, 0)) := by
          rw [Below.heap_alloc _ _ _ (by simp)]
          exact heap_alloc_new wr _
        rw [Below.heap_setCell _ _ _ _ (by show wr.heap.size ≠ w.heap.size; omega), hg2.block _ (by simp; omega) (ne_ownBlock ((hown.out.alloc _).alloc _) hc2 (by decide))]
        exact hc2
      have hszW : (w2.setCell ⟨w.heap.size, 0, none⟩ v').heap.size = w2.heap.size := by simp [World.setCell]
      have X1 := Lib.hid (IsWords.snoc (I := Made w (w2.setCell ⟨w.heap.size, 0, none⟩ v')) hlt (hw.out.imp (J := Made w (w2.setCell ⟨w.heap.size, 0, none⟩ v')) fun q s hq hc => ⟨⟨hq.1, by rw [hszW]; have := hq.2; omega⟩, keep q s hc⟩) ⟨by omega, by rw [hszW]; omega⟩ hnew)
      have X2 := Lib.hid (show (w2.setCell ⟨w.heap.size, 0, none⟩ v').heap[w.heap.size]? = some (Obj.cells #[v'] 99 (0, 0)) from heap_setCell_same hq3)
      have X3 := Lib.hid (show (w2.setCell ⟨w.heap.size, 0, none⟩ v').ownsRow w.heap.size 47 1 v' (j + 1) _ from ownsRow_setCell_other hown2 (a := ⟨w.heap.size, 0, none⟩) (Ne.symm (ne_ownBlock hown2 hq3 (by decide))) _)
      have X4 := Lib.hid (show Below w.heap.size w (w2.setCell ⟨w.heap.size, 0, none⟩ v') from (((hb.out.alloc (by omega) _).alloc (by simp; omega) _).grown hg2 (by simp; omega) (fun k hk => (hown.out.lt k hk).1)).setCell (p := ⟨w.heap.size, 0, none⟩) (Nat.le_refl _) _)
      have HRUN := Lib.hid hrun
      subst hv2
      subst hxe
      clear hcell hbI hrun hown2 hg2 hq2 hq3 keep hnew hszW hown hw hq
      go_wp2_with (at_builtin; refine wpList_append_run rfl _ _ _ _ rfl _ _ _ _ rfl rfl HRUN.out ?_)
      go_roundg (gk - 1)
      case measure => omega
      case rel => exact ⟨j + 1, by omega, by go_num, _, _, X2.out, X3.out, X1.out, X4.out⟩
    · have hj' : j = L.length := by omega
      have H1 := Lib.hid (show IsWords wr (Made w wr) vs L by have := hw.out; rw [hj', List.take_length] at this; exact this)
      have H2 := Lib.hid (SliceOf.owned (I := Made w wr) hown.out (fun i h1 h2 => ⟨h1, h2⟩))
      clear hj' hw hown
      go_wp2_with fail
      go_ret
      exact ⟨_, _, rfl, hq.out, H2.out, H1.out, hws, hb.out⟩

theorem words_pieces {b : Nat} {w0 : World} {I : Nat → Prop} (G : Value → List Value → Prop) (hI : ∀ i, I i → i < b) {vs : List Value} {A : List ByteArray} (h : IsWords w0 I vs A) :
    ∃ its : List QPiece, its.map (·.v) = vs ∧ its.map (·.o) = A.map (fun s => s.data.toList) ∧ ∀ it ∈ its, Leaf G b w0 it.v it.o := by
  refine ⟨(vs.zip (A.map (fun s => s.data.toList))).map fun p => ⟨p.1, p.2⟩, ?_, ?_, ?_⟩
  · rw [List.map_map]
    exact List.map_fst_zip (by rw [List.length_map, h.1]; exact Nat.le_refl _)
  · rw [List.map_map]
    exact List.map_snd_zip (by rw [List.length_map, h.1]; exact Nat.le_refl _)
  · intro it hit
    obtain ⟨p, hp, rfl⟩ := List.mem_map.1 hit
    obtain ⟨i, hi, hpi⟩ := List.mem_iff_getElem.1 hp
    have hi1 : i < A.length := by rw [List.length_zip, List.length_map, h.1] at hi; omega
    have hi2 : i < vs.length := by rw [h.1]; exact hi1
    obtain ⟨q, h1, h2, h3⟩ := h.2 i hi1
    rw [List.getElem_zip, List.getElem_map] at hpi
    rw [List.getElem?_eq_getElem hi2] at h1
    have h1' := Option.some.inj h1
    subst hpi
    simp only [h1']
    exact leaf_qualifier G (hI _ h2) h3

def js (L : List ByteArray) : List UInt8 := joinS (L.map fun s => s.data.toList)

/-- the Qualifiers are printed, in every later world -/
theorem words_pr (G : Value → List Value → Prop) {w w' : World} {x : Value} {vs : List Value} {L : List ByteArray} (hq : w'.heap[w.heap.size]? = some (Obj.cells #[x] 99 (0, 0))) (hs : SliceOf w' (Made w w') x vs) (hw : IsWords w' (Made w w') vs L) :
    Pr G w' 1 (.iface 97 (.pointer (some ⟨w.heap.size, 0, none⟩))) (js L) := by
  intro W hW
  have hlt := lt_of_block hq
  have hsz := hW.size
  have sm : Same (Made w w') w' W := Same.below hW fun i hi => hi.2
  have hq' : W.heap[w.heap.size]? = some (Obj.cells #[x] 99 (0, 0)) := (hW.block _ hlt).trans hq
  have hw' : IsWords W (Made w w') vs L := hw.imp fun q s h1 h2 => ⟨h1, by rw [sm q h1]; exact h2⟩
  have hIn : ∀ i, Made w w' i → i < W.heap.size := fun i hi => Nat.lt_of_lt_of_le hi.2 hsz
  obtain ⟨its, h1, h2, h3⟩ := words_pieces (b := W.heap.size) G hIn hw'
  have hb := body_quals (G := G) (d := 0) (its := its) (Nat.lt_of_lt_of_le hlt hsz) hq' h3 (by rw [h1]; exact (hs.same sm).mono hIn)
  rw [h2] at hb
  exact prints_of printer_quals hq' (Nat.lt_of_lt_of_le hlt hsz) hb

set_option maxRecDepth 100000 in
set_option maxHeartbeats 2000000 in
theorem body_twq {b d q : Nat} {w0 : World} {x y : Value} {inn : List Value} {o1 o2 : List UInt8} (hq : q < b) (hc : w0.heap[q]? = some (Obj.cells #[x, y] 71 (0, 0)))
    (hx : Prints2 b w0 d x (inn ++ [.iface 68 (.pointer (some ⟨q, 0, none⟩))]) (inn ++ [.iface 68 (.pointer (some ⟨q, 0, none⟩))]) AnyLast o1) (bx : blkOf x < q)
    (hy : Prints AnyInner b w0 d y o2) (by_ : blkOf y < q) (hn : inn.length ≤ 1000000) :
    Body2 b w0 d q 102 inn inn AnyLast (o1 ++ [32] ++ o2) := by
  intro w sc last text pr hs hp _ h0 h1 hd hpr hlen
  have c0 : w.cell? ⟨q, 0, none⟩ = some x := cell_at ((hs q hq).trans hc) rfl
  obtain ⟨iv, ad, buf, pv, hp⟩ := hp
  rw [List.length_append, List.length_append, List.length_cons, List.length_nil] at hlen
  have hbl := lt_of_block hp.block
  obtain ⟨iv2, w2, hrun, p2, k2, d8, f8, g2, n2, hiv2⟩ := inner_push hp hn (.iface 68 (.pointer (some ⟨q, 0, none⟩))) rfl
  have c8 := hp.cells.2.2.2.2.2.2.2.2.1
  have HR := Lib.hid hrun
  have hs2 := k2.same hs
  have hpr2 : ∀ u ∈ pr, NodeAt b (w2.setCell ⟨b, 8, none⟩ iv2) u ∧ q ≤ blkOf u := fun u hu => ⟨(hpr u hu).1.same (fun i hi => k2.low i hi), (hpr u hu).2⟩
  have PX := Lib.hid (hx.call _ sc last text pr hs2 ⟨_, _, _, _, p2⟩ trivial h0 h1 hd (fun u hu => ⟨(hpr2 u hu).1, Nat.lt_of_lt_of_le bx (hpr2 u hu).2⟩) (by omega))
  have q0 : (w2.setCell ⟨b, 8, none⟩ iv2).cell? ⟨q, 0, none⟩ = some x := cell_at ((hs2 q hq).trans hc) rfl
  have HH := Lib.hid (And.intro hs2 (And.intro hpr2 (And.intro k2 (And.intro hy hc))))
  obtain ⟨pa, pc, hivl, _⟩ := (SliceOf.owned (I := fun _ => True) hp.ivOwn (fun _ _ _ => trivial)).lay
  obtain ⟨Ty, qy, hyv⟩ : ∃ T q, y = .iface T (.pointer (some ⟨q, 0, none⟩)) := by obtain ⟨T, f, q, _, _, _, hv, _⟩ := hy; exact ⟨T, q, hv⟩
  subst hivl
  subst hiv2
  clear hp p2 k2 hs hs2 hpr hpr2 hrun hx hy hc c0
  go_enter Try.func102, Try.ntmps102
  go_wp2_with (at_builtin; refine wpList_append_run rfl _ _ _ _ rfl _ _ _ _ rfl rfl HR.out ?_)
  refine (PX.out).mono ?_
  rintro e w3 ⟨rfl, ⟨iv3, ad3, buf3, pv3, p3⟩, k3⟩
  obtain ⟨hs2, hpr2, k2, hy, hc⟩ := HH.out
  have W4 := Lib.hid (writeByte_any ⟨_, _, _, p3⟩ 32 (by rw [List.length_append]; omega))
  have c8 := p3.cells.2.2.2.2.2.2.2.2.1
  obtain ⟨g3, n3, rfl, _, _⟩ := p3.ivOwn.form (by simp)
  have K3 := Lib.hid k3
  clear hs2 hpr2 k2 k3 hy p3 PX HR d8 f8 q0
  simp only [List.length_append, List.length_cons, List.length_nil, Nat.zero_add] at c8
  go_wp2_with fail
  refine (W4.out).mono ?_
  rintro e w4 ⟨rfl, h4, k4⟩
  obtain ⟨hs2, hpr2, k2, hy, hc⟩ := HH.out
  have k34 := K3.out.trans k4
  have P5 := Lib.hid (hy.call w4 sc _ _ _ _ pr (k34.same hs2) h4 trivial hd (fun u hu => ⟨(hpr2 u hu).1.same (fun i hi => k34.low i hi), Nat.lt_of_lt_of_le by_ (hpr2 u hu).2⟩) (by simp only [List.length_append, List.length_cons, List.length_nil]; omega))
  have q1 : w4.cell? ⟨q, 1, none⟩ = some y := cell_at ((k34.same hs2 q hq).trans hc) rfl
  have K4 := Lib.hid (k2.trans k34)
  rw [hyv] at P5 q1
  clear hs2 hpr2 k2 h4 k4 k34 hy hc W4 c8 HH K3
  go_wp2_with fail
  refine (P5.out).mono ?_
  rintro e w5 ⟨rfl, ⟨ad5, buf5, pv5, h5⟩, k5⟩
  have hn5 : inn.length + 1 ≤ n3 := by
    rcases h5.ivOwn.2 with ⟨e, _⟩ | ⟨g', cap', cur, e, _, _, hnc, _⟩
    · cases e
    · cases e; simpa using hnc
  have e8 := h5.cells.2.2.2.2.2.2.2.2.1
  have f8 : w5.frozen? ⟨b, 8, none⟩ = false := free_at h5.block
  simp only [List.length_append, List.length_cons, List.length_nil, Nat.zero_add] at e8
  have h6 : PI b sc (lastOf last (o1 ++ [32] ++ o2)) (text ++ (o1 ++ [32] ++ o2)) inn pr (w5.drew.setCell ⟨b, 8, none⟩ (.slice (some ⟨g3, 0, none⟩) inn.length n3)) := by
    have e1 : lastOf last (o1 ++ [32] ++ o2) = lastOf (UInt8.toNat 32 : Int) o2 := by rw [← lastOf_append, ← lastOf_append]; rfl
    rw [e1]
    have e2 : text ++ (o1 ++ [32] ++ o2) = text ++ o1 ++ [32] ++ o2 := by simp
    rw [e2]
    have h7 := h5.drewN 1
    exact inner_pop h7
  have H6 := Lib.hid h6
  have K5 := Lib.hid (K4.out.trans k5)
  clear h5 k5 h6 P5 q1 K4
  go_wp2_with fail
  go_region
  go_end0
  exact ⟨rfl, H6.out, (K5.out.drew).setOwn _ _⟩

theorem PrT.twq {w : World} {d e : Nat} {x y : Value} {o1 o2 : List UInt8} (hx : PrT w d x o1) (hy : Pr AnyInner w d y o2) (hd : d < 1000000) (he : e = w.heap.size) :
    PrT (w.alloc (.cells #[x, y] 71)) (d + 1) (.iface 68 (.pointer (some ⟨e, 0, none⟩))) (o1 ++ [32] ++ o2) := by
  subst he
  intro W hW inn hinn
  have hbW := ((Below.refl w.heap.size w).alloc (Nat.le_refl _) (.cells #[x, y] 71)).trans (hW.mono (by simp))
  have hs := hW.size
  simp at hs
  have hlt : w.heap.size < W.heap.size := by omega
  exact prints2_of printer_twq (last_block hW) hlt (body_twq hlt (last_block hW) (hx W hbW _ (by simp; omega)) (hx.now.node (by omega)).2 (hy W hbW) hy.lt (by omega))

theorem PrT.alloc {w : World} {d : Nat} {v : Value} {o : List UInt8} (h : PrT w d v o) (x : Obj) : PrT (w.alloc x) d v o := h.later ((Below.refl _ _).alloc (Nat.le_refl _) _)
theorem PrT.more {w : World} {d e : Nat} {v : Value} {o : List UInt8} (h : PrT w d v o) (he : d ≤ e) : PrT w e v o := by
  intro W hW inn hinn
  obtain ⟨T, f, q, cs, t, d', hv, pf, hc, hq, rfl, hb⟩ := h W hW inn (by omega)
  refine ⟨T, f, q, cs, t, e - 1, hv, pf, hc, hq, by omega, ?_⟩
  intro w sc last text pr h1 h2 h3 h4 h5 h6 h7 h8
  exact hb w sc last text pr h1 h2 h3 h4 h5 (by omega) h7 h8

set_option maxRecDepth 100000 in
set_option maxHeartbeats 2000000 in
theorem printPointerQuals_any (w : World) {I : Nat → Prop} (hI : ∀ i, I i → i < w.heap.size) (s : ByteArray) (lv mv : Value) (L M : List ByteArray) (hl : SliceOf w I lv (strv L)) (hm : SliceOf w I mv (strv M)) (hL : L.length ≤ 1000) (hM : M.length ≤ 1000)
    (hz : s.size + (js L).length + (js M).length ≤ 100000000000000) :
    Calls Try.prog 23 #[.string s, lv, mv] w fun e w' => e = .returned (.string ⟨(s.data.toList ++ [32] ++ js L ++ [42] ++ [32] ++ js M).toArray⟩) ∧ Below w.heap.size w w' := by
  have b1 := (Below.refl w.heap.size w).alloc (Nat.le_refl _) (.cells #[.string s] 96)
  have HW1 := Lib.hid (words_any (w.alloc (.cells #[.string s] 96)) (I := I) (fun i hi => by have := hI i hi; simp; omega) lv L (hl.same (Same.below b1 hI)) hL)
  have HM := Lib.hid (fun W (k : Below w.heap.size w W) => hm.same (Same.below k hI))
  have HI := Lib.hid hI
  have P0 := Lib.hid (Pr.newBuiltin AnyInner w s).ty
  have B1 := Lib.hid b1
  have HZ := Lib.hid hz
  obtain ⟨a1, c1, rfl, _⟩ := hl.strs
  obtain ⟨a2, c2, rfl, _⟩ := hm.strs
  clear hI hl hm b1 hz
  go_enter Try.func23, Try.ntmps23
  go_wp2_with fail
  refine (builtin_any _ _).mono ?_
  rintro e w1 ⟨rfl, rfl⟩
  go_wp2_with fail
  refine (HW1.out).mono ?_
  rintro e w2 ⟨x, vs, rfl, hq, hs, hw, hlt, hb2⟩
  have p2 := words_pr AnyInner hq hs hw
  have b2 := B1.out.trans (hb2.mono (by simp))
  have t1 := PrT.ptr (PrT.twq (P0.out.later hb2) p2 (by omega) rfl) (by omega) (e := w2.heap.size + 1) (by simp)
  have b3 := (b2.alloc b2.size (.cells #[.iface 95 (.pointer (some ⟨w.heap.size, 0, none⟩)), .iface 97 (.pointer (some ⟨(w.alloc (.cells #[.string s] 96)).heap.size, 0, none⟩))] 71)).alloc (by simp; have := b2.size; omega) (.cells #[.iface 68 (.pointer (some ⟨w2.heap.size, 0, none⟩))] 73)
  simp only [World.size_alloc] at t1 b3
  have HW2 := Lib.hid (words_any _ (I := I) (fun i hi => by have := HI.out i hi; have := b3.size; omega) (.slice a2 M.length c2) M (HM.out _ b3) hM)
  have T1 := Lib.hid t1
  have B3 := Lib.hid b3
  clear hq hs hw hlt hb2 p2 b2 t1 b3 HW1 B1 P0
  simp only [World.size_alloc]
  go_wp2_with fail
  refine (HW2.out).mono ?_
  rintro e w4 ⟨x, vs, rfl, hq, hs, hw, hlt, hb4⟩
  have p4 := words_pr AnyInner hq hs hw
  have t4 := PrT.twq (T1.out.later hb4) (p4.more (by omega)) (by omega) (e := w4.heap.size) rfl
  have b4 := B3.out.trans (hb4.mono B3.out.size)
  have HT := Lib.hid (toString_two (t4.now [] (by simp)) trivial (by omega) (by simp only [List.length_append, ba_size, List.length_cons, List.length_nil]; have := HZ.out; omega))
  have HB := Lib.hid (b4.alloc b4.size (.cells #[.iface 67 (.pointer (some ⟨w2.heap.size + 1, 0, none⟩)), .iface 97 (.pointer (some ⟨w2.heap.size + 1 + 1, 0, none⟩))] 71))
  clear hq hs hw hlt hb4 p4 t4 b4 HW2 T1 B3
  simp only [World.size_alloc] at HT ⊢
  go_wp2_with fail
  refine (HT.out).mono ?_
  rintro e w5 ⟨rfl, b5⟩
  have HX := Lib.hid (HB.out.trans (b5.mono (by have := HB.out.size; simpa using this)))
  clear b5
  go_wp2_with fail
  go_ret
  exact ⟨ret_str (ba_ext (by simp)), HX.out⟩

end Go.Proofs.Ytcobcgkeojeagaa
