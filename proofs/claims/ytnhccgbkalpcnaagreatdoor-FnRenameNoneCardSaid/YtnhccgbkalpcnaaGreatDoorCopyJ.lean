/- Copy: the array of copies. -/
import Derived.Test.YtnhccgbkalpcnaaGreatDoorCopyD
import Derived.Test.YtnhccgbkalpcnaaGreatDoorKids
import Derived.Test.YtnhccgbkalpcnaaGreatDoorRet
import Derived.Deep.OwnRows
namespace Go.Proofs.YtnhccgbkalpcnaaGreatDoor
open Go.RowKit

/-- the array of copies: j of them are laid -/
structure LS (w0 : World) (I : Nat → Prop) (f t s : ByteArray) (w wj : World) (l : List Tree) (n : Nat) (wr : World) (cur : Array Value) (j : Nat) : Prop where
  old : Below wj.heap.size wj wr
  gt : wj.heap.size < wr.heap.size
  arr : wr.heap[wj.heap.size]? = some (.cells cur 38 (0, 0))
  size : cur.size = n
  rep : ∀ i (_ : i < j) (h2 : i < l.length) (h3 : i < cur.size), Rep wr (fun b => NI I w.heap.size wr b ∧ b ≠ wj.heap.size) (renT f t s l[i]) cur[i]

theorem LS.start {w0 : World} {I : Nat → Prop} {f t s : ByteArray} {w wj : World} (l : List Tree) (n : Nat) : LS w0 I f t s w wj l n (wj.alloc (.cells (madeCells #[.nilIface] n) 38)) (madeCells #[.nilIface] n) 0 :=
  ⟨box_below wj _, by simp, heap_alloc_new wj _, size_madeCells _ _, fun i h => by omega⟩

theorem LS.step {w0 : World} {I : Nat → Prop} {f t s : ByteArray} {w wj : World} {l : List Tree} {n : Nat} {wr w2 : World} {cur : Array Value} {j : Nat} (h : LS w0 I f t s w wj l n wr cur j) (hj : j < l.length) (b2 : Below wr.heap.size wr w2) {v : Value}
    (hr : Rep w2 (fun b => NI I w.heap.size w2 b ∧ b ≠ wj.heap.size) (renT f t s l[j]) v) : LS w0 I f t s w wj l n (w2.setCell ⟨wj.heap.size, j, none⟩ v) (cur.setIfInBounds j v) (j + 1) := by
  have hg := h.gt
  have hz := b2.size
  have hz2 : (w2.setCell ⟨wj.heap.size, j, none⟩ v).heap.size = w2.heap.size := by simp [World.setCell]
  have hne : ∀ b, b ≠ wj.heap.size → (w2.setCell ⟨wj.heap.size, j, none⟩ v).heap[b]? = w2.heap[b]? := fun b hb => Below.heap_setCell _ _ _ _ hb
  have a2 : w2.heap[wj.heap.size]? = some (.cells cur 38 (0, 0)) := by rw [b2.block _ hg]; exact h.arr
  refine ⟨(h.old.trans (b2.mono (by omega))).setCell (p := ⟨wj.heap.size, j, none⟩) (Nat.le_refl _) v, by omega, heap_setCell_same a2, by simp [h.size], fun i hi h2 h3 => ?_⟩
  have h3' : i < cur.size := by simpa using h3
  by_cases hij : i = j
  · subst hij
    simp only [Array.getElem_setIfInBounds_self]
    exact Rep.move (fun b hb => hne b hb.2) (fun b hb => ⟨⟨hb.1.1, by rw [hz2]; exact hb.1.2⟩, hb.2⟩) hr
  · rw [Array.getElem_setIfInBounds_ne h3' (fun e => hij e.symm)]
    exact Rep.move (fun b hb => by rw [hne b hb.2, b2.block b hb.1.2]) (fun b hb => ⟨⟨hb.1.1, by rw [hz2]; exact Nat.lt_of_lt_of_le hb.1.2 hz⟩, hb.2⟩) (h.rep i (by omega) h2 h3')

theorem LS.old_rep {w0 : World} {I : Nat → Prop} {fb tb sb : Nat} {f t s : ByteArray} {w wj w2 : World} (hlt : ∀ i, I i → i < wj.heap.size) (hc : CS w0 I fb tb sb f t s w w2) {a : Tree} {v : Value} (h0 : hitT f s a = false) (hr : Rep w0 I a v) :
    Rep w2 (fun b => NI I w.heap.size w2 b ∧ b ≠ wj.heap.size) (renT f t s a) v := by
  rw [ren_same f t s a h0]
  exact Rep.move (fun i hi => hc.same i hi) (fun i hi => ⟨⟨.inl hi, hc.lt i hi⟩, by have := hlt i hi; omega⟩) hr
theorem LS.new_rep {I : Nat → Prop} {w wj wr w2 : World} (hlt : ∀ i, I i → i < wj.heap.size) (hg : wj.heap.size < wr.heap.size) (hw : w.heap.size ≤ wr.heap.size) {a : Tree} {v : Value} (hr : RepN I wr.heap.size w2 a v) :
    Rep w2 (fun b => NI I w.heap.size w2 b ∧ b ≠ wj.heap.size) a v :=
  Rep.move (fun _ _ => rfl) (fun i hi => ⟨⟨hi.1.imp id (Nat.le_trans hw), hi.2⟩, by rcases hi.1 with h | h; have := hlt i h; omega; omega⟩) hr

theorem LS.done {w0 : World} {I : Nat → Prop} {f t s : ByteArray} {w wj : World} {l : List Tree} {n : Nat} {wr : World} {cur : Array Value} {j : Nat} (h : LS w0 I f t s w wj l n wr cur j) (hj : ¬ j < n) (hn : n = l.length) (hm : n ≤ 1000) (hw : w.heap.size ≤ wj.heap.size) :
    RepNL I w.heap.size wr (renL f t s l) (.slice (some ⟨wj.heap.size, 0, none⟩) n n) := by
  have hg := h.gt
  have hs := h.size
  refine ⟨cur.toList, .inr ⟨⟨wj.heap.size, 0, none⟩, n, by simp [hs], by simp [hs], by unfold maxLen; omega, fun _ => ⟨.inr hw, hg⟩, fun i u hu => ?_⟩, by rw [renL_length]; simp [hs, hn], fun i h1 h2 => ?_⟩
  · have hu' : cur[i]? = some u := by simpa using hu
    have : (⟨wj.heap.size, 0, none⟩ : Addr).add i = ⟨wj.heap.size, i, none⟩ := by unfold Addr.add; split <;> simp_all
    rw [this]
    simp [World.cell?, h.arr, hu']
  · have h2' : i < cur.size := by simpa using h2
    have h1' : i < l.length := by omega
    rw [renL_get f t s l i h1' h1]
    have := h.rep i (by omega) h1' h2'
    have this' : Rep wr (fun b => NI I w.heap.size wr b ∧ b ≠ wj.heap.size) (renT f t s l[i]) cur.toList[i] := by simpa using this
    exact Rep.move (fun _ _ => rfl) (fun _ hb => hb.1) this'

theorem hitL_all (f s : ByteArray) {l : List Tree} {j : Nat} (h : ¬ j < l.length) : hitL f s (l.take j) = hitL f s l := by rw [List.take_of_length_le (by omega)]

end Go.Proofs.YtnhccgbkalpcnaaGreatDoor

namespace Go.Proofs.YtnhccgbkalpcnaaGreatDoor
open Go.RowKit

set_option maxRecDepth 100000 in
set_option maxHeartbeats 2000000 in
theorem copy_template {fb tb sb : Nat} {f t s : ByteArray} {w0 : World} {I : Nat → Prop} (b : Nat) {a : Tree} {u : Value} {Lz : List Tree} {sv : Value} {Vz : List Value} (hI : I b) (hb : w0.heap[b]? = some (.cells #[u, sv] 73 (0, 0))) (ru : Rep w0 I a u) (hu : CopyOK fb tb sb f t s w0 I u (CopyR I f t s a)) (hsz : SliceOf w0 I sv Vz) (hmz : Vz.length = Lz.length) (hnz : Vz.length ≤ 1000) (rlz : ∀ i (h : i < Lz.length) (h2 : i < Vz.length), Rep w0 I Lz[i] Vz[i]) (hkz : ∀ i (h : i < Lz.length) (h2 : i < Vz.length), CopyOK fb tb sb f t s w0 I Vz[i] (CopyR I f t s Lz[i])) : CopyOK fb tb sb f t s w0 I (.iface 69 (.pointer (some ⟨b, 0, none⟩))) (CopyR I f t s (.node ⟨#[84, 101, 109, 112, 108, 97, 116, 101]⟩ ⟨#[]⟩ 0 (a :: Lz))) := by
  refine ⟨_, _, b, rfl, fun W => mc_template ⟨b, 0, none⟩ W, fun _ _ => by kernel_rfl, ?_⟩
  intro w hS hI2 hE
  have C0 := Lib.hid (show CS w0 I fb tb sb f t s w w from ⟨hS, hI2, hE, Below.refl _ _⟩)
  have HB := Lib.hid (show ∀ W, Same I w0 W → W.heap[b]? = some (.cells #[u, sv] 73 (0, 0)) from fun W h => (h b hI).trans hb)
  have HK := Lib.hid (fun W (hE : W.heap[sb]? = some (.cells #[.string s] 9 (0, 0))) => skipping (kindOf_template ⟨b, 0, none⟩) W hE)
  have HF := Lib.hid (fun q W => fn_other (fb := fb) (tb := tb) 69 q (fun W => ta_template ⟨q, 0, none⟩ W) W)
  have hnn := fun W => nil_nn W
  have hny := fun W => nil_yes W
  have hno := fun T q W => nil_no T ⟨q, 0, none⟩ W
  have hne := fun T q W => nil_ne T ⟨q, 0, none⟩ W
  obtain ⟨i0, hi, hz0, hz1, hz2⟩ := info_parts infoAST
  obtain ⟨Tuu, guu, quu, rfl, muu, cuu, hcuu⟩ := hu
  have CUu := Lib.hid hcuu
  have Ru := Lib.hid ru
  clear hcuu ru
  obtain ⟨az, nz, rfl, _, hcz, h3z⟩ := hsz.lay
  have H3z := Lib.hid h3z
  have HMz := Lib.hid hmz
  have HNz := Lib.hid hnz
  have RLz := Lib.hid rlz
  have CKz := Lib.hid hkz
  clear h3z rlz hkz hsz hmz
  clear hS hI2 hE hb hI
  go_enter Tryz.func112, Tryz.ntmps112
  go_wp2_with fail
  refine (HK.out _ C0.out.env.s).mono ?_
  rintro e w1 ⟨rfl, b1⟩
  have C1 := Lib.hid (C0.out.on b1)
  clear b1 HK
  cases hh : ((⟨#[84, 101, 109, 112, 108, 97, 116, 101]⟩ : ByteArray).toList == s.toList) with
  | true =>
    have HH := Lib.hid hh
    clear hh
    go_wp2_with fail
    go_ret
    exact ⟨C1.out.below, _, rfl, .inl ⟨hit_skip HH.out, rfl⟩⟩
  | false =>
    have HH := Lib.hid hh
    clear hh
    obtain ⟨c0, c1⟩ := cells2 (HB.out w1 C1.out.same)
    go_wp2_with fail
    refine (CUu.out _ C1.out.same C1.out.lt C1.out.env).mono ?_
    rintro e w2 ⟨b2, r, rfl, hr⟩
    have C2 := Lib.hid (C1.out.on b2)
    clear b2 c0 c1
    obtain ⟨c0, c1⟩ := cells2 (HB.out w2 C2.out.same)
    rcases hr with ⟨h0, rfl⟩ | ⟨h0, hr⟩
    · have Hu := Lib.hid h0
      clear h0
      have CMz := Lib.hid (C2.out.on (box_below w2 (.cells (madeCells #[.nilIface] Vz.length) 38)))
      obtain ⟨d0, d1⟩ := cells2 (HB.out _ CMz.out.same)
      go_wp2_with (first
        | (at_make; refine wpList_make_row _ rfl _ _ 70 rfl 38 i0 .nilIface Tryz.underlying70 hi hz0 hz1 rfl .i64 .i64 Vz.length rfl rfl (by rw [hz2]; omega) (by omega) ?_))
      have L0z := Lib.hid (LS.start (w0 := w0) (I := I) (f := f) (t := t) (s := s) (w := w) (wj := w2) Lz Vz.length)
      go_loopg [8, 38] (Vz.length) (fun k' c i wr => ∃ j : Nat, j + k' = Vz.length ∧ i = .int .i64 j ∧ ∃ ch : Bool, c = .bool ch ∧ Hid (ch = (false || hitL f s (Lz.take j))) ∧ ∃ cur : Array Value, Hid (LS w0 I f t s w w2 Lz Vz.length wr cur j))
      case atStart => exact ⟨0, by omega, rfl, false, rfl, by show _ = _; simp [hitL], _, L0z.out⟩
      case round =>
        obtain ⟨j, hj, rfl, ch, rfl, hch, cur, hls⟩ := hrel
        have CLz := Lib.hid (C2.out.on hls.out.old)
        obtain ⟨c0, c1⟩ := cells2 (HB.out wr CLz.out.same)
        by_cases hlt : j < Vz.length
        · have hlt' : j < Lz.length := by have := HMz.out; omega
          obtain ⟨Tv, gv, qv, hu, mv, cv, hcv⟩ := CKz.out j hlt' hlt
          obtain ⟨bb, off, rfl, hbb, hcell⟩ := H3z.out.resolve_left (by intro e; rw [e] at hlt; simp at hlt)
          have hc3 : wr.cell? ⟨bb, off + j, none⟩ = some (.iface Tv (.pointer (some ⟨qv, 0, none⟩))) := by
            rw [World.cell?_of_block (w := w0) (CLz.out.same bb hbb), ← hu]
            exact hcell j _ (List.getElem?_eq_getElem hlt)
          have CU := Lib.hid hcv
          have HU := Lib.hid hu
          clear hcell hcv hu hbb
          go_wp2_with fail
          refine (CU.out _ CLz.out.same CLz.out.lt CLz.out.env).mono ?_
          rintro e w4 ⟨b4, r, rfl, hr⟩
          have BB := Lib.hid b4
          have C4 := Lib.hid (CLz.out.on b4)
          have a4 : w4.heap[w2.heap.size]? = some (.cells cur 38 (0, 0)) := by rw [b4.block _ hls.out.gt]; exact hls.out.arr
          have hjc : j < cur.size := by rw [hls.out.size]; exact hlt
          obtain ⟨z4, s4⟩ : ∃ z, w4.cell? ⟨w2.heap.size, j, none⟩ = some z := ⟨cur[j], by simp [World.cell?, a4, hjc]⟩
          have f4 : w4.frozen? ⟨w2.heap.size, j, none⟩ = false := by simp [World.frozen?, a4]
          clear b4 a4 hjc
          rcases hr with ⟨h0, rfl⟩ | ⟨h0, hr⟩
          · have LN := Lib.hid (LS.step hls.out hlt' BB.out (LS.old_rep (v := .iface Tv (.pointer (some ⟨qv, 0, none⟩))) (fun i hi => C2.out.lt i hi) C4.out h0 (by rw [← HU.out]; exact RLz.out j hlt' hlt)))
            have HT := Lib.hid (show ch = (false || hitL f s (Lz.take (j + 1))) by rw [hitL_take f s Lz hlt', h0, Bool.or_false]; exact hch.out)
            clear h0
            go_wp2_with fail
            go_roundg (gk - 1)
            case measure => omega
            case rel => exact ⟨j + 1, by omega, by go_num, ch, rfl, HT.out, _, LN.out⟩
          · obtain ⟨T5, q5, rfl, _⟩ := Rep.form hr
            have LN := Lib.hid (LS.step hls.out hlt' BB.out (LS.new_rep (fun i hi => C2.out.lt i hi) hls.out.gt CLz.out.below.size hr))
            have HT := Lib.hid (show true = (false || hitL f s (Lz.take (j + 1))) by rw [hitL_take f s Lz hlt', h0]; simp)
            clear h0 hr
            go_wp2_with fail
            go_roundg (gk - 1)
            case measure => omega
            case rel => exact ⟨j + 1, by omega, by go_num, true, rfl, HT.out, _, LN.out⟩
        · have HTz := Lib.hid (show ch = (false || hitL f s Lz) by have := hch.out; rwa [hitL_all f s (by have := HMz.out; omega)] at this)
          have LDz := Lib.hid (LS.done hls.out hlt HMz.out HNz.out C2.out.below.size)
          have OLz := Lib.hid hls.out.old
          have Wz := Lib.hid (show w2.heap.size ≤ wr.heap.size from OLz.out.size)
          clear hch hls
          cases ch with
          | false =>
            have HBz := Lib.hid (show hitL f s Lz = false by have := HTz.out; simpa using this.symm)
            go_wp2_with fail
            refine (HF.out b _).mono ?_
            rintro e w9 ⟨rfl, b9⟩
            have CC := Lib.hid (CLz.out.on b9)
            clear b9
            go_wp2_with fail
            go_ret
            exact ⟨CC.out.below, _, rfl, .inl ⟨by rw [hit_node (by kernel_rfl) HH.out]; simp [hitL, Hu.out, HBz.out], rfl⟩⟩
          | true =>
            have HBz := Lib.hid (show hitL f s Lz = true by have := HTz.out; simpa using this.symm)
            go_wp2_with fail
            refine (HF.out wr.heap.size _).mono ?_
            rintro e w9 ⟨rfl, b9⟩
            have R := Lib.hid (RepN.on (madeN_template (w := wr) CLz.out.below.size (CLz.out.keep Hu.out Ru.out) LDz.out) b9)
            have CC := Lib.hid ((CLz.out.on (box_below _ _)).on b9)
            clear b9
            go_wp2_with fail
            go_ret
            exact ⟨CC.out.below, _, rfl, .inr ⟨by rw [hit_node (by kernel_rfl) HH.out]; simp [hitL, Hu.out, HBz.out], by rw [ren_node (by kernel_rfl) HH.out]; (try simp only [renL]); exact R.out⟩⟩
    · have Hu := Lib.hid h0
      obtain ⟨Tn, qn, rfl, _⟩ := Rep.form hr
      have Ku := Lib.hid (RepN.from hr C1.out.below.size)
      clear h0 hr
      have CMz := Lib.hid (C2.out.on (box_below w2 (.cells (madeCells #[.nilIface] Vz.length) 38)))
      obtain ⟨d0, d1⟩ := cells2 (HB.out _ CMz.out.same)
      go_wp2_with (first
        | (at_make; refine wpList_make_row _ rfl _ _ 70 rfl 38 i0 .nilIface Tryz.underlying70 hi hz0 hz1 rfl .i64 .i64 Vz.length rfl rfl (by rw [hz2]; omega) (by omega) ?_))
      have L0z := Lib.hid (LS.start (w0 := w0) (I := I) (f := f) (t := t) (s := s) (w := w) (wj := w2) Lz Vz.length)
      go_loopg [8, 38] (Vz.length) (fun k' c i wr => ∃ j : Nat, j + k' = Vz.length ∧ i = .int .i64 j ∧ ∃ ch : Bool, c = .bool ch ∧ Hid (ch = (true || hitL f s (Lz.take j))) ∧ ∃ cur : Array Value, Hid (LS w0 I f t s w w2 Lz Vz.length wr cur j))
      case atStart => exact ⟨0, by omega, rfl, true, rfl, by show _ = _; simp [hitL], _, L0z.out⟩
      case round =>
        obtain ⟨j, hj, rfl, ch, rfl, hch, cur, hls⟩ := hrel
        have CLz := Lib.hid (C2.out.on hls.out.old)
        obtain ⟨c0, c1⟩ := cells2 (HB.out wr CLz.out.same)
        by_cases hlt : j < Vz.length
        · have hlt' : j < Lz.length := by have := HMz.out; omega
          obtain ⟨Tv, gv, qv, hu, mv, cv, hcv⟩ := CKz.out j hlt' hlt
          obtain ⟨bb, off, rfl, hbb, hcell⟩ := H3z.out.resolve_left (by intro e; rw [e] at hlt; simp at hlt)
          have hc3 : wr.cell? ⟨bb, off + j, none⟩ = some (.iface Tv (.pointer (some ⟨qv, 0, none⟩))) := by
            rw [World.cell?_of_block (w := w0) (CLz.out.same bb hbb), ← hu]
            exact hcell j _ (List.getElem?_eq_getElem hlt)
          have CU := Lib.hid hcv
          have HU := Lib.hid hu
          clear hcell hcv hu hbb
          go_wp2_with fail
          refine (CU.out _ CLz.out.same CLz.out.lt CLz.out.env).mono ?_
          rintro e w4 ⟨b4, r, rfl, hr⟩
          have BB := Lib.hid b4
          have C4 := Lib.hid (CLz.out.on b4)
          have a4 : w4.heap[w2.heap.size]? = some (.cells cur 38 (0, 0)) := by rw [b4.block _ hls.out.gt]; exact hls.out.arr
          have hjc : j < cur.size := by rw [hls.out.size]; exact hlt
          obtain ⟨z4, s4⟩ : ∃ z, w4.cell? ⟨w2.heap.size, j, none⟩ = some z := ⟨cur[j], by simp [World.cell?, a4, hjc]⟩
          have f4 : w4.frozen? ⟨w2.heap.size, j, none⟩ = false := by simp [World.frozen?, a4]
          clear b4 a4 hjc
          rcases hr with ⟨h0, rfl⟩ | ⟨h0, hr⟩
          · have LN := Lib.hid (LS.step hls.out hlt' BB.out (LS.old_rep (v := .iface Tv (.pointer (some ⟨qv, 0, none⟩))) (fun i hi => C2.out.lt i hi) C4.out h0 (by rw [← HU.out]; exact RLz.out j hlt' hlt)))
            have HT := Lib.hid (show ch = (true || hitL f s (Lz.take (j + 1))) by rw [hitL_take f s Lz hlt', h0, Bool.or_false]; exact hch.out)
            clear h0
            go_wp2_with fail
            go_roundg (gk - 1)
            case measure => omega
            case rel => exact ⟨j + 1, by omega, by go_num, ch, rfl, HT.out, _, LN.out⟩
          · obtain ⟨T5, q5, rfl, _⟩ := Rep.form hr
            have LN := Lib.hid (LS.step hls.out hlt' BB.out (LS.new_rep (fun i hi => C2.out.lt i hi) hls.out.gt CLz.out.below.size hr))
            have HT := Lib.hid (show true = (true || hitL f s (Lz.take (j + 1))) by rw [hitL_take f s Lz hlt', h0]; simp)
            clear h0 hr
            go_wp2_with fail
            go_roundg (gk - 1)
            case measure => omega
            case rel => exact ⟨j + 1, by omega, by go_num, true, rfl, HT.out, _, LN.out⟩
        · have HTz := Lib.hid (show ch = (true || hitL f s Lz) by have := hch.out; rwa [hitL_all f s (by have := HMz.out; omega)] at this)
          have LDz := Lib.hid (LS.done hls.out hlt HMz.out HNz.out C2.out.below.size)
          have OLz := Lib.hid hls.out.old
          have Wz := Lib.hid (show w2.heap.size ≤ wr.heap.size from OLz.out.size)
          clear hch hls
          obtain rfl : ch = true := by have := HTz.out; simpa using this
          go_wp2_with fail
          refine (HF.out wr.heap.size _).mono ?_
          rintro e w9 ⟨rfl, b9⟩
          have R := Lib.hid (RepN.on (madeN_template (w := wr) CLz.out.below.size (Rep.move (fun i hi => OLz.out.block i hi.2) (fun _ hi => ⟨hi.1, Nat.lt_of_lt_of_le hi.2 OLz.out.size⟩) Ku.out) LDz.out) b9)
          have CC := Lib.hid ((CLz.out.on (box_below _ _)).on b9)
          clear b9
          go_wp2_with fail
          go_ret
          exact ⟨CC.out.below, _, rfl, .inr ⟨by rw [hit_node (by kernel_rfl) HH.out]; simp [hitL, Hu.out], by rw [ren_node (by kernel_rfl) HH.out]; (try simp only [renL]); exact R.out⟩⟩

set_option maxRecDepth 100000 in
set_option maxHeartbeats 2000000 in
theorem copy_functionType {fb tb sb : Nat} {f t s : ByteArray} {w0 : World} {I : Nat → Prop} (b : Nat) {a : Tree} {u : Value} {Lz : List Tree} {sv : Value} {Vz : List Value} (hI : I b) (hb : w0.heap[b]? = some (.cells #[u, sv, .bool false] 79 (0, 0))) (ru : Rep w0 I a u) (hu : CopyOK fb tb sb f t s w0 I u (CopyR I f t s a)) (hsz : SliceOf w0 I sv Vz) (hmz : Vz.length = Lz.length) (hnz : Vz.length ≤ 1000) (rlz : ∀ i (h : i < Lz.length) (h2 : i < Vz.length), Rep w0 I Lz[i] Vz[i]) (hkz : ∀ i (h : i < Lz.length) (h2 : i < Vz.length), CopyOK fb tb sb f t s w0 I Vz[i] (CopyR I f t s Lz[i])) : CopyOK fb tb sb f t s w0 I (.iface 77 (.pointer (some ⟨b, 0, none⟩))) (CopyR I f t s (.node ⟨#[70, 117, 110, 99, 116, 105, 111, 110, 84, 121, 112, 101]⟩ ⟨#[]⟩ 0 (a :: Lz))) := by
  refine ⟨_, _, b, rfl, fun W => mc_functionType ⟨b, 0, none⟩ W, fun _ _ => by kernel_rfl, ?_⟩
  intro w hS hI2 hE
  have C0 := Lib.hid (show CS w0 I fb tb sb f t s w w from ⟨hS, hI2, hE, Below.refl _ _⟩)
  have HB := Lib.hid (show ∀ W, Same I w0 W → W.heap[b]? = some (.cells #[u, sv, .bool false] 79 (0, 0)) from fun W h => (h b hI).trans hb)
  have HK := Lib.hid (fun W (hE : W.heap[sb]? = some (.cells #[.string s] 9 (0, 0))) => skipping (kindOf_functionType ⟨b, 0, none⟩) W hE)
  have HF := Lib.hid (fun q W => fn_other (fb := fb) (tb := tb) 77 q (fun W => ta_functionType ⟨q, 0, none⟩ W) W)
  have hnn := fun W => nil_nn W
  have hny := fun W => nil_yes W
  have hno := fun T q W => nil_no T ⟨q, 0, none⟩ W
  have hne := fun T q W => nil_ne T ⟨q, 0, none⟩ W
  obtain ⟨i0, hi, hz0, hz1, hz2⟩ := info_parts infoAST
  obtain ⟨Tuu, guu, quu, rfl, muu, cuu, hcuu⟩ := hu
  have CUu := Lib.hid hcuu
  have Ru := Lib.hid ru
  clear hcuu ru
  obtain ⟨az, nz, rfl, _, hcz, h3z⟩ := hsz.lay
  have H3z := Lib.hid h3z
  have HMz := Lib.hid hmz
  have HNz := Lib.hid hnz
  have RLz := Lib.hid rlz
  have CKz := Lib.hid hkz
  clear h3z rlz hkz hsz hmz
  clear hS hI2 hE hb hI
  go_enter Tryz.func118, Tryz.ntmps118
  go_wp2_with fail
  refine (HK.out _ C0.out.env.s).mono ?_
  rintro e w1 ⟨rfl, b1⟩
  have C1 := Lib.hid (C0.out.on b1)
  clear b1 HK
  cases hh : ((⟨#[70, 117, 110, 99, 116, 105, 111, 110, 84, 121, 112, 101]⟩ : ByteArray).toList == s.toList) with
  | true =>
    have HH := Lib.hid hh
    clear hh
    go_wp2_with fail
    go_ret
    exact ⟨C1.out.below, _, rfl, .inl ⟨hit_skip HH.out, rfl⟩⟩
  | false =>
    have HH := Lib.hid hh
    clear hh
    obtain ⟨c0, c1, c2⟩ := cells3 (HB.out w1 C1.out.same)
    go_wp2_with fail
    refine (CUu.out _ C1.out.same C1.out.lt C1.out.env).mono ?_
    rintro e w2 ⟨b2, r, rfl, hr⟩
    have C2 := Lib.hid (C1.out.on b2)
    clear b2 c0 c1 c2
    obtain ⟨c0, c1, c2⟩ := cells3 (HB.out w2 C2.out.same)
    rcases hr with ⟨h0, rfl⟩ | ⟨h0, hr⟩
    · have Hu := Lib.hid h0
      clear h0
      have CMz := Lib.hid (C2.out.on (box_below w2 (.cells (madeCells #[.nilIface] Vz.length) 38)))
      obtain ⟨d0, d1, d2⟩ := cells3 (HB.out _ CMz.out.same)
      go_wp2_with (first
        | (at_make; refine wpList_make_row _ rfl _ _ 70 rfl 38 i0 .nilIface Tryz.underlying70 hi hz0 hz1 rfl .i64 .i64 Vz.length rfl rfl (by rw [hz2]; omega) (by omega) ?_))
      have L0z := Lib.hid (LS.start (w0 := w0) (I := I) (f := f) (t := t) (s := s) (w := w) (wj := w2) Lz Vz.length)
      go_loopg [7, 47] (Vz.length) (fun k' c i wr => ∃ j : Nat, j + k' = Vz.length ∧ i = .int .i64 j ∧ ∃ ch : Bool, c = .bool ch ∧ Hid (ch = (false || hitL f s (Lz.take j))) ∧ ∃ cur : Array Value, Hid (LS w0 I f t s w w2 Lz Vz.length wr cur j))
      case atStart => exact ⟨0, by omega, rfl, false, rfl, by show _ = _; simp [hitL], _, L0z.out⟩
      case round =>
        obtain ⟨j, hj, rfl, ch, rfl, hch, cur, hls⟩ := hrel
        have CLz := Lib.hid (C2.out.on hls.out.old)
        obtain ⟨c0, c1, c2⟩ := cells3 (HB.out wr CLz.out.same)
        by_cases hlt : j < Vz.length
        · have hlt' : j < Lz.length := by have := HMz.out; omega
          obtain ⟨Tv, gv, qv, hu, mv, cv, hcv⟩ := CKz.out j hlt' hlt
          obtain ⟨bb, off, rfl, hbb, hcell⟩ := H3z.out.resolve_left (by intro e; rw [e] at hlt; simp at hlt)
          have hc3 : wr.cell? ⟨bb, off + j, none⟩ = some (.iface Tv (.pointer (some ⟨qv, 0, none⟩))) := by
            rw [World.cell?_of_block (w := w0) (CLz.out.same bb hbb), ← hu]
            exact hcell j _ (List.getElem?_eq_getElem hlt)
          have CU := Lib.hid hcv
          have HU := Lib.hid hu
          clear hcell hcv hu hbb
          go_wp2_with fail
          refine (CU.out _ CLz.out.same CLz.out.lt CLz.out.env).mono ?_
          rintro e w4 ⟨b4, r, rfl, hr⟩
          have BB := Lib.hid b4
          have C4 := Lib.hid (CLz.out.on b4)
          have a4 : w4.heap[w2.heap.size]? = some (.cells cur 38 (0, 0)) := by rw [b4.block _ hls.out.gt]; exact hls.out.arr
          have hjc : j < cur.size := by rw [hls.out.size]; exact hlt
          obtain ⟨z4, s4⟩ : ∃ z, w4.cell? ⟨w2.heap.size, j, none⟩ = some z := ⟨cur[j], by simp [World.cell?, a4, hjc]⟩
          have f4 : w4.frozen? ⟨w2.heap.size, j, none⟩ = false := by simp [World.frozen?, a4]
          clear b4 a4 hjc
          rcases hr with ⟨h0, rfl⟩ | ⟨h0, hr⟩
          · have LN := Lib.hid (LS.step hls.out hlt' BB.out (LS.old_rep (v := .iface Tv (.pointer (some ⟨qv, 0, none⟩))) (fun i hi => C2.out.lt i hi) C4.out h0 (by rw [← HU.out]; exact RLz.out j hlt' hlt)))
            have HT := Lib.hid (show ch = (false || hitL f s (Lz.take (j + 1))) by rw [hitL_take f s Lz hlt', h0, Bool.or_false]; exact hch.out)
            clear h0
            go_wp2_with fail
            go_roundg (gk - 1)
            case measure => omega
            case rel => exact ⟨j + 1, by omega, by go_num, ch, rfl, HT.out, _, LN.out⟩
          · obtain ⟨T5, q5, rfl, _⟩ := Rep.form hr
            have LN := Lib.hid (LS.step hls.out hlt' BB.out (LS.new_rep (fun i hi => C2.out.lt i hi) hls.out.gt CLz.out.below.size hr))
            have HT := Lib.hid (show true = (false || hitL f s (Lz.take (j + 1))) by rw [hitL_take f s Lz hlt', h0]; simp)
            clear h0 hr
            go_wp2_with fail
            go_roundg (gk - 1)
            case measure => omega
            case rel => exact ⟨j + 1, by omega, by go_num, true, rfl, HT.out, _, LN.out⟩
        · have HTz := Lib.hid (show ch = (false || hitL f s Lz) by have := hch.out; rwa [hitL_all f s (by have := HMz.out; omega)] at this)
          have LDz := Lib.hid (LS.done hls.out hlt HMz.out HNz.out C2.out.below.size)
          have OLz := Lib.hid hls.out.old
          have Wz := Lib.hid (show w2.heap.size ≤ wr.heap.size from OLz.out.size)
          clear hch hls
          cases ch with
          | false =>
            have HBz := Lib.hid (show hitL f s Lz = false by have := HTz.out; simpa using this.symm)
            go_wp2_with fail
            refine (HF.out b _).mono ?_
            rintro e w9 ⟨rfl, b9⟩
            have CC := Lib.hid (CLz.out.on b9)
            clear b9
            go_wp2_with fail
            go_ret
            exact ⟨CC.out.below, _, rfl, .inl ⟨by rw [hit_node (by kernel_rfl) HH.out]; simp [hitL, Hu.out, HBz.out], rfl⟩⟩
          | true =>
            have HBz := Lib.hid (show hitL f s Lz = true by have := HTz.out; simpa using this.symm)
            go_wp2_with fail
            refine (HF.out wr.heap.size _).mono ?_
            rintro e w9 ⟨rfl, b9⟩
            have R := Lib.hid (RepN.on (madeN_functionType (w := wr) CLz.out.below.size (CLz.out.keep Hu.out Ru.out) LDz.out) b9)
            have CC := Lib.hid ((CLz.out.on (box_below _ _)).on b9)
            clear b9
            go_wp2_with fail
            go_ret
            exact ⟨CC.out.below, _, rfl, .inr ⟨by rw [hit_node (by kernel_rfl) HH.out]; simp [hitL, Hu.out, HBz.out], by rw [ren_node (by kernel_rfl) HH.out]; (try simp only [renL]); exact R.out⟩⟩
    · have Hu := Lib.hid h0
      obtain ⟨Tn, qn, rfl, _⟩ := Rep.form hr
      have Ku := Lib.hid (RepN.from hr C1.out.below.size)
      clear h0 hr
      have CMz := Lib.hid (C2.out.on (box_below w2 (.cells (madeCells #[.nilIface] Vz.length) 38)))
      obtain ⟨d0, d1, d2⟩ := cells3 (HB.out _ CMz.out.same)
      go_wp2_with (first
        | (at_make; refine wpList_make_row _ rfl _ _ 70 rfl 38 i0 .nilIface Tryz.underlying70 hi hz0 hz1 rfl .i64 .i64 Vz.length rfl rfl (by rw [hz2]; omega) (by omega) ?_))
      have L0z := Lib.hid (LS.start (w0 := w0) (I := I) (f := f) (t := t) (s := s) (w := w) (wj := w2) Lz Vz.length)
      go_loopg [7, 47] (Vz.length) (fun k' c i wr => ∃ j : Nat, j + k' = Vz.length ∧ i = .int .i64 j ∧ ∃ ch : Bool, c = .bool ch ∧ Hid (ch = (true || hitL f s (Lz.take j))) ∧ ∃ cur : Array Value, Hid (LS w0 I f t s w w2 Lz Vz.length wr cur j))
      case atStart => exact ⟨0, by omega, rfl, true, rfl, by show _ = _; simp [hitL], _, L0z.out⟩
      case round =>
        obtain ⟨j, hj, rfl, ch, rfl, hch, cur, hls⟩ := hrel
        have CLz := Lib.hid (C2.out.on hls.out.old)
        obtain ⟨c0, c1, c2⟩ := cells3 (HB.out wr CLz.out.same)
        by_cases hlt : j < Vz.length
        · have hlt' : j < Lz.length := by have := HMz.out; omega
          obtain ⟨Tv, gv, qv, hu, mv, cv, hcv⟩ := CKz.out j hlt' hlt
          obtain ⟨bb, off, rfl, hbb, hcell⟩ := H3z.out.resolve_left (by intro e; rw [e] at hlt; simp at hlt)
          have hc3 : wr.cell? ⟨bb, off + j, none⟩ = some (.iface Tv (.pointer (some ⟨qv, 0, none⟩))) := by
            rw [World.cell?_of_block (w := w0) (CLz.out.same bb hbb), ← hu]
            exact hcell j _ (List.getElem?_eq_getElem hlt)
          have CU := Lib.hid hcv
          have HU := Lib.hid hu
          clear hcell hcv hu hbb
          go_wp2_with fail
          refine (CU.out _ CLz.out.same CLz.out.lt CLz.out.env).mono ?_
          rintro e w4 ⟨b4, r, rfl, hr⟩
          have BB := Lib.hid b4
          have C4 := Lib.hid (CLz.out.on b4)
          have a4 : w4.heap[w2.heap.size]? = some (.cells cur 38 (0, 0)) := by rw [b4.block _ hls.out.gt]; exact hls.out.arr
          have hjc : j < cur.size := by rw [hls.out.size]; exact hlt
          obtain ⟨z4, s4⟩ : ∃ z, w4.cell? ⟨w2.heap.size, j, none⟩ = some z := ⟨cur[j], by simp [World.cell?, a4, hjc]⟩
          have f4 : w4.frozen? ⟨w2.heap.size, j, none⟩ = false := by simp [World.frozen?, a4]
          clear b4 a4 hjc
          rcases hr with ⟨h0, rfl⟩ | ⟨h0, hr⟩
          · have LN := Lib.hid (LS.step hls.out hlt' BB.out (LS.old_rep (v := .iface Tv (.pointer (some ⟨qv, 0, none⟩))) (fun i hi => C2.out.lt i hi) C4.out h0 (by rw [← HU.out]; exact RLz.out j hlt' hlt)))
            have HT := Lib.hid (show ch = (true || hitL f s (Lz.take (j + 1))) by rw [hitL_take f s Lz hlt', h0, Bool.or_false]; exact hch.out)
            clear h0
            go_wp2_with fail
            go_roundg (gk - 1)
            case measure => omega
            case rel => exact ⟨j + 1, by omega, by go_num, ch, rfl, HT.out, _, LN.out⟩
          · obtain ⟨T5, q5, rfl, _⟩ := Rep.form hr
            have LN := Lib.hid (LS.step hls.out hlt' BB.out (LS.new_rep (fun i hi => C2.out.lt i hi) hls.out.gt CLz.out.below.size hr))
            have HT := Lib.hid (show true = (true || hitL f s (Lz.take (j + 1))) by rw [hitL_take f s Lz hlt', h0]; simp)
            clear h0 hr
            go_wp2_with fail
            go_roundg (gk - 1)
            case measure => omega
            case rel => exact ⟨j + 1, by omega, by go_num, true, rfl, HT.out, _, LN.out⟩
        · have HTz := Lib.hid (show ch = (true || hitL f s Lz) by have := hch.out; rwa [hitL_all f s (by have := HMz.out; omega)] at this)
          have LDz := Lib.hid (LS.done hls.out hlt HMz.out HNz.out C2.out.below.size)
          have OLz := Lib.hid hls.out.old
          have Wz := Lib.hid (show w2.heap.size ≤ wr.heap.size from OLz.out.size)
          clear hch hls
          obtain rfl : ch = true := by have := HTz.out; simpa using this
          go_wp2_with fail
          refine (HF.out wr.heap.size _).mono ?_
          rintro e w9 ⟨rfl, b9⟩
          have R := Lib.hid (RepN.on (madeN_functionType (w := wr) CLz.out.below.size (Rep.move (fun i hi => OLz.out.block i hi.2) (fun _ hi => ⟨hi.1, Nat.lt_of_lt_of_le hi.2 OLz.out.size⟩) Ku.out) LDz.out) b9)
          have CC := Lib.hid ((CLz.out.on (box_below _ _)).on b9)
          clear b9
          go_wp2_with fail
          go_ret
          exact ⟨CC.out.below, _, rfl, .inr ⟨by rw [hit_node (by kernel_rfl) HH.out]; simp [hitL, Hu.out], by rw [ren_node (by kernel_rfl) HH.out]; (try simp only [renL]); exact R.out⟩⟩

set_option maxRecDepth 100000 in
set_option maxHeartbeats 2000000 in
theorem copy_functionNil {fb tb sb : Nat} {f t s : ByteArray} {w0 : World} {I : Nat → Prop} (b : Nat) {Lz : List Tree} {sv : Value} {Vz : List Value} (hI : I b) (hb : w0.heap[b]? = some (.cells #[.nilIface, sv, .bool false] 79 (0, 0))) (hsz : SliceOf w0 I sv Vz) (hmz : Vz.length = Lz.length) (hnz : Vz.length ≤ 1000) (rlz : ∀ i (h : i < Lz.length) (h2 : i < Vz.length), Rep w0 I Lz[i] Vz[i]) (hkz : ∀ i (h : i < Lz.length) (h2 : i < Vz.length), CopyOK fb tb sb f t s w0 I Vz[i] (CopyR I f t s Lz[i])) : CopyOK fb tb sb f t s w0 I (.iface 77 (.pointer (some ⟨b, 0, none⟩))) (CopyR I f t s (.node ⟨#[70, 117, 110, 99, 116, 105, 111, 110, 84, 121, 112, 101]⟩ ⟨#[]⟩ 0 (nilT :: Lz))) := by
  refine ⟨_, _, b, rfl, fun W => mc_functionType ⟨b, 0, none⟩ W, fun _ _ => by kernel_rfl, ?_⟩
  intro w hS hI2 hE
  have C0 := Lib.hid (show CS w0 I fb tb sb f t s w w from ⟨hS, hI2, hE, Below.refl _ _⟩)
  have HB := Lib.hid (show ∀ W, Same I w0 W → W.heap[b]? = some (.cells #[.nilIface, sv, .bool false] 79 (0, 0)) from fun W h => (h b hI).trans hb)
  have HK := Lib.hid (fun W (hE : W.heap[sb]? = some (.cells #[.string s] 9 (0, 0))) => skipping (kindOf_functionType ⟨b, 0, none⟩) W hE)
  have HF := Lib.hid (fun q W => fn_other (fb := fb) (tb := tb) 77 q (fun W => ta_functionType ⟨q, 0, none⟩ W) W)
  have hnn := fun W => nil_nn W
  have hny := fun W => nil_yes W
  have hno := fun T q W => nil_no T ⟨q, 0, none⟩ W
  have hne := fun T q W => nil_ne T ⟨q, 0, none⟩ W
  obtain ⟨i0, hi, hz0, hz1, hz2⟩ := info_parts infoAST
  obtain ⟨az, nz, rfl, _, hcz, h3z⟩ := hsz.lay
  have H3z := Lib.hid h3z
  have HMz := Lib.hid hmz
  have HNz := Lib.hid hnz
  have RLz := Lib.hid rlz
  have CKz := Lib.hid hkz
  clear h3z rlz hkz hsz hmz
  clear hS hI2 hE hb hI
  go_enter Tryz.func118, Tryz.ntmps118
  go_wp2_with fail
  refine (HK.out _ C0.out.env.s).mono ?_
  rintro e w1 ⟨rfl, b1⟩
  have C1 := Lib.hid (C0.out.on b1)
  clear b1 HK
  cases hh : ((⟨#[70, 117, 110, 99, 116, 105, 111, 110, 84, 121, 112, 101]⟩ : ByteArray).toList == s.toList) with
  | true =>
    have HH := Lib.hid hh
    clear hh
    go_wp2_with fail
    go_ret
    exact ⟨C1.out.below, _, rfl, .inl ⟨hit_skip HH.out, rfl⟩⟩
  | false =>
    have HH := Lib.hid hh
    clear hh
    obtain ⟨c0, c1, c2⟩ := cells3 (HB.out w1 C1.out.same)
    have CMz := Lib.hid (C1.out.on (box_below w1 (.cells (madeCells #[.nilIface] Vz.length) 38)))
    obtain ⟨d0, d1, d2⟩ := cells3 (HB.out _ CMz.out.same)
    go_wp2_with (first
      | (at_make; refine wpList_make_row _ rfl _ _ 70 rfl 38 i0 .nilIface Tryz.underlying70 hi hz0 hz1 rfl .i64 .i64 Vz.length rfl rfl (by rw [hz2]; omega) (by omega) ?_))
    have L0z := Lib.hid (LS.start (w0 := w0) (I := I) (f := f) (t := t) (s := s) (w := w) (wj := w1) Lz Vz.length)
    go_loopg [7, 47] (Vz.length) (fun k' c i wr => ∃ j : Nat, j + k' = Vz.length ∧ i = .int .i64 j ∧ ∃ ch : Bool, c = .bool ch ∧ Hid (ch = (false || hitL f s (Lz.take j))) ∧ ∃ cur : Array Value, Hid (LS w0 I f t s w w1 Lz Vz.length wr cur j))
    case atStart => exact ⟨0, by omega, rfl, false, rfl, by show _ = _; simp [hitL], _, L0z.out⟩
    case round =>
      obtain ⟨j, hj, rfl, ch, rfl, hch, cur, hls⟩ := hrel
      have CLz := Lib.hid (C1.out.on hls.out.old)
      obtain ⟨c0, c1, c2⟩ := cells3 (HB.out wr CLz.out.same)
      by_cases hlt : j < Vz.length
      · have hlt' : j < Lz.length := by have := HMz.out; omega
        obtain ⟨Tv, gv, qv, hu, mv, cv, hcv⟩ := CKz.out j hlt' hlt
        obtain ⟨bb, off, rfl, hbb, hcell⟩ := H3z.out.resolve_left (by intro e; rw [e] at hlt; simp at hlt)
        have hc3 : wr.cell? ⟨bb, off + j, none⟩ = some (.iface Tv (.pointer (some ⟨qv, 0, none⟩))) := by
          rw [World.cell?_of_block (w := w0) (CLz.out.same bb hbb), ← hu]
          exact hcell j _ (List.getElem?_eq_getElem hlt)
        have CU := Lib.hid hcv
        have HU := Lib.hid hu
        clear hcell hcv hu hbb
        go_wp2_with fail
        refine (CU.out _ CLz.out.same CLz.out.lt CLz.out.env).mono ?_
        rintro e w4 ⟨b4, r, rfl, hr⟩
        have BB := Lib.hid b4
        have C4 := Lib.hid (CLz.out.on b4)
        have a4 : w4.heap[w1.heap.size]? = some (.cells cur 38 (0, 0)) := by rw [b4.block _ hls.out.gt]; exact hls.out.arr
        have hjc : j < cur.size := by rw [hls.out.size]; exact hlt
        obtain ⟨z4, s4⟩ : ∃ z, w4.cell? ⟨w1.heap.size, j, none⟩ = some z := ⟨cur[j], by simp [World.cell?, a4, hjc]⟩
        have f4 : w4.frozen? ⟨w1.heap.size, j, none⟩ = false := by simp [World.frozen?, a4]
        clear b4 a4 hjc
        rcases hr with ⟨h0, rfl⟩ | ⟨h0, hr⟩
        · have LN := Lib.hid (LS.step hls.out hlt' BB.out (LS.old_rep (v := .iface Tv (.pointer (some ⟨qv, 0, none⟩))) (fun i hi => C1.out.lt i hi) C4.out h0 (by rw [← HU.out]; exact RLz.out j hlt' hlt)))
          have HT := Lib.hid (show ch = (false || hitL f s (Lz.take (j + 1))) by rw [hitL_take f s Lz hlt', h0, Bool.or_false]; exact hch.out)
          clear h0
          go_wp2_with fail
          go_roundg (gk - 1)
          case measure => omega
          case rel => exact ⟨j + 1, by omega, by go_num, ch, rfl, HT.out, _, LN.out⟩
        · obtain ⟨T5, q5, rfl, _⟩ := Rep.form hr
          have LN := Lib.hid (LS.step hls.out hlt' BB.out (LS.new_rep (fun i hi => C1.out.lt i hi) hls.out.gt CLz.out.below.size hr))
          have HT := Lib.hid (show true = (false || hitL f s (Lz.take (j + 1))) by rw [hitL_take f s Lz hlt', h0]; simp)
          clear h0 hr
          go_wp2_with fail
          go_roundg (gk - 1)
          case measure => omega
          case rel => exact ⟨j + 1, by omega, by go_num, true, rfl, HT.out, _, LN.out⟩
      · have HTz := Lib.hid (show ch = (false || hitL f s Lz) by have := hch.out; rwa [hitL_all f s (by have := HMz.out; omega)] at this)
        have LDz := Lib.hid (LS.done hls.out hlt HMz.out HNz.out C1.out.below.size)
        have OLz := Lib.hid hls.out.old
        have Wz := Lib.hid (show w1.heap.size ≤ wr.heap.size from OLz.out.size)
        clear hch hls
        cases ch with
        | false =>
          have HBz := Lib.hid (show hitL f s Lz = false by have := HTz.out; simpa using this.symm)
          go_wp2_with fail
          refine (HF.out b _).mono ?_
          rintro e w9 ⟨rfl, b9⟩
          have CC := Lib.hid (CLz.out.on b9)
          clear b9
          go_wp2_with fail
          go_ret
          exact ⟨CC.out.below, _, rfl, .inl ⟨by rw [hit_node (by kernel_rfl) HH.out]; simp [hitL, hit_nil f s, HBz.out], rfl⟩⟩
        | true =>
          have HBz := Lib.hid (show hitL f s Lz = true by have := HTz.out; simpa using this.symm)
          go_wp2_with fail
          refine (HF.out wr.heap.size _).mono ?_
          rintro e w9 ⟨rfl, b9⟩
          have R := Lib.hid (RepN.on (madeN_functionNil (w := wr) CLz.out.below.size LDz.out) b9)
          have CC := Lib.hid ((CLz.out.on (box_below _ _)).on b9)
          clear b9
          go_wp2_with fail
          go_ret
          exact ⟨CC.out.below, _, rfl, .inr ⟨by rw [hit_node (by kernel_rfl) HH.out]; simp [hitL, hit_nil f s, HBz.out], by rw [ren_node (by kernel_rfl) HH.out]; (try simp only [renL]); rw [ren_same f t s nilT (hit_nil f s)]; exact R.out⟩⟩

set_option maxRecDepth 100000 in
set_option maxHeartbeats 2000000 in
theorem copy_argumentPack {fb tb sb : Nat} {f t s : ByteArray} {w0 : World} {I : Nat → Prop} (b : Nat) {Lz : List Tree} {sv : Value} {Vz : List Value} (hI : I b) (hb : w0.heap[b]? = some (.cells #[sv] 131 (0, 0))) (hsz : SliceOf w0 I sv Vz) (hmz : Vz.length = Lz.length) (hnz : Vz.length ≤ 1000) (rlz : ∀ i (h : i < Lz.length) (h2 : i < Vz.length), Rep w0 I Lz[i] Vz[i]) (hkz : ∀ i (h : i < Lz.length) (h2 : i < Vz.length), CopyOK fb tb sb f t s w0 I Vz[i] (CopyR I f t s Lz[i])) : CopyOK fb tb sb f t s w0 I (.iface 129 (.pointer (some ⟨b, 0, none⟩))) (CopyR I f t s (.node ⟨#[65, 114, 103, 117, 109, 101, 110, 116, 80, 97, 99, 107]⟩ ⟨#[]⟩ 0 Lz)) := by
  refine ⟨_, _, b, rfl, fun W => mc_argumentPack ⟨b, 0, none⟩ W, fun _ _ => by kernel_rfl, ?_⟩
  intro w hS hI2 hE
  have C0 := Lib.hid (show CS w0 I fb tb sb f t s w w from ⟨hS, hI2, hE, Below.refl _ _⟩)
  have HB := Lib.hid (show ∀ W, Same I w0 W → W.heap[b]? = some (.cells #[sv] 131 (0, 0)) from fun W h => (h b hI).trans hb)
  have HK := Lib.hid (fun W (hE : W.heap[sb]? = some (.cells #[.string s] 9 (0, 0))) => skipping (kindOf_argumentPack ⟨b, 0, none⟩) W hE)
  have HF := Lib.hid (fun q W => fn_other (fb := fb) (tb := tb) 129 q (fun W => ta_argumentPack ⟨q, 0, none⟩ W) W)
  have hnn := fun W => nil_nn W
  have hny := fun W => nil_yes W
  have hno := fun T q W => nil_no T ⟨q, 0, none⟩ W
  have hne := fun T q W => nil_ne T ⟨q, 0, none⟩ W
  obtain ⟨i0, hi, hz0, hz1, hz2⟩ := info_parts infoAST
  obtain ⟨az, nz, rfl, _, hcz, h3z⟩ := hsz.lay
  have H3z := Lib.hid h3z
  have HMz := Lib.hid hmz
  have HNz := Lib.hid hnz
  have RLz := Lib.hid rlz
  have CKz := Lib.hid hkz
  clear h3z rlz hkz hsz hmz
  clear hS hI2 hE hb hI
  go_enter Tryz.func169, Tryz.ntmps169
  go_wp2_with fail
  refine (HK.out _ C0.out.env.s).mono ?_
  rintro e w1 ⟨rfl, b1⟩
  have C1 := Lib.hid (C0.out.on b1)
  clear b1 HK
  cases hh : ((⟨#[65, 114, 103, 117, 109, 101, 110, 116, 80, 97, 99, 107]⟩ : ByteArray).toList == s.toList) with
  | true =>
    have HH := Lib.hid hh
    clear hh
    go_wp2_with fail
    go_ret
    exact ⟨C1.out.below, _, rfl, .inl ⟨hit_skip HH.out, rfl⟩⟩
  | false =>
    have HH := Lib.hid hh
    clear hh
    obtain c0 := cells1 (HB.out w1 C1.out.same)
    have CMz := Lib.hid (C1.out.on (box_below w1 (.cells (madeCells #[.nilIface] Vz.length) 38)))
    obtain d0 := cells1 (HB.out _ CMz.out.same)
    go_wp2_with (first
      | (at_make; refine wpList_make_row _ rfl _ _ 70 rfl 38 i0 .nilIface Tryz.underlying70 hi hz0 hz1 rfl .i64 .i64 Vz.length rfl rfl (by rw [hz2]; omega) (by omega) ?_))
    have L0z := Lib.hid (LS.start (w0 := w0) (I := I) (f := f) (t := t) (s := s) (w := w) (wj := w1) Lz Vz.length)
    go_loopg [8, 28] (Vz.length) (fun k' c i wr => ∃ j : Nat, j + k' = Vz.length ∧ i = .int .i64 j ∧ ∃ ch : Bool, c = .bool ch ∧ Hid (ch = (false || hitL f s (Lz.take j))) ∧ ∃ cur : Array Value, Hid (LS w0 I f t s w w1 Lz Vz.length wr cur j))
    case atStart => exact ⟨0, by omega, rfl, false, rfl, by show _ = _; simp [hitL], _, L0z.out⟩
    case round =>
      obtain ⟨j, hj, rfl, ch, rfl, hch, cur, hls⟩ := hrel
      have CLz := Lib.hid (C1.out.on hls.out.old)
      obtain c0 := cells1 (HB.out wr CLz.out.same)
      by_cases hlt : j < Vz.length
      · have hlt' : j < Lz.length := by have := HMz.out; omega
        obtain ⟨Tv, gv, qv, hu, mv, cv, hcv⟩ := CKz.out j hlt' hlt
        obtain ⟨bb, off, rfl, hbb, hcell⟩ := H3z.out.resolve_left (by intro e; rw [e] at hlt; simp at hlt)
        have hc3 : wr.cell? ⟨bb, off + j, none⟩ = some (.iface Tv (.pointer (some ⟨qv, 0, none⟩))) := by
          rw [World.cell?_of_block (w := w0) (CLz.out.same bb hbb), ← hu]
          exact hcell j _ (List.getElem?_eq_getElem hlt)
        have CU := Lib.hid hcv
        have HU := Lib.hid hu
        clear hcell hcv hu hbb
        go_wp2_with fail
        refine (CU.out _ CLz.out.same CLz.out.lt CLz.out.env).mono ?_
        rintro e w4 ⟨b4, r, rfl, hr⟩
        have BB := Lib.hid b4
        have C4 := Lib.hid (CLz.out.on b4)
        have a4 : w4.heap[w1.heap.size]? = some (.cells cur 38 (0, 0)) := by rw [b4.block _ hls.out.gt]; exact hls.out.arr
        have hjc : j < cur.size := by rw [hls.out.size]; exact hlt
        obtain ⟨z4, s4⟩ : ∃ z, w4.cell? ⟨w1.heap.size, j, none⟩ = some z := ⟨cur[j], by simp [World.cell?, a4, hjc]⟩
        have f4 : w4.frozen? ⟨w1.heap.size, j, none⟩ = false := by simp [World.frozen?, a4]
        clear b4 a4 hjc
        rcases hr with ⟨h0, rfl⟩ | ⟨h0, hr⟩
        · have LN := Lib.hid (LS.step hls.out hlt' BB.out (LS.old_rep (v := .iface Tv (.pointer (some ⟨qv, 0, none⟩))) (fun i hi => C1.out.lt i hi) C4.out h0 (by rw [← HU.out]; exact RLz.out j hlt' hlt)))
          have HT := Lib.hid (show ch = (false || hitL f s (Lz.take (j + 1))) by rw [hitL_take f s Lz hlt', h0, Bool.or_false]; exact hch.out)
          clear h0
          go_wp2_with fail
          go_roundg (gk - 1)
          case measure => omega
          case rel => exact ⟨j + 1, by omega, by go_num, ch, rfl, HT.out, _, LN.out⟩
        · obtain ⟨T5, q5, rfl, _⟩ := Rep.form hr
          have LN := Lib.hid (LS.step hls.out hlt' BB.out (LS.new_rep (fun i hi => C1.out.lt i hi) hls.out.gt CLz.out.below.size hr))
          have HT := Lib.hid (show true = (false || hitL f s (Lz.take (j + 1))) by rw [hitL_take f s Lz hlt', h0]; simp)
          clear h0 hr
          go_wp2_with fail
          go_roundg (gk - 1)
          case measure => omega
          case rel => exact ⟨j + 1, by omega, by go_num, true, rfl, HT.out, _, LN.out⟩
      · have HTz := Lib.hid (show ch = (false || hitL f s Lz) by have := hch.out; rwa [hitL_all f s (by have := HMz.out; omega)] at this)
        have LDz := Lib.hid (LS.done hls.out hlt HMz.out HNz.out C1.out.below.size)
        have OLz := Lib.hid hls.out.old
        have Wz := Lib.hid (show w1.heap.size ≤ wr.heap.size from OLz.out.size)
        clear hch hls
        cases ch with
        | false =>
          have HBz := Lib.hid (show hitL f s Lz = false by have := HTz.out; simpa using this.symm)
          go_wp2_with fail
          refine (HF.out b _).mono ?_
          rintro e w9 ⟨rfl, b9⟩
          have CC := Lib.hid (CLz.out.on b9)
          clear b9
          go_wp2_with fail
          go_ret
          exact ⟨CC.out.below, _, rfl, .inl ⟨by rw [hit_node (by kernel_rfl) HH.out]; simp [HBz.out], rfl⟩⟩
        | true =>
          have HBz := Lib.hid (show hitL f s Lz = true by have := HTz.out; simpa using this.symm)
          go_wp2_with fail
          refine (HF.out wr.heap.size _).mono ?_
          rintro e w9 ⟨rfl, b9⟩
          have R := Lib.hid (RepN.on (madeN_argumentPack (w := wr) CLz.out.below.size LDz.out) b9)
          have CC := Lib.hid ((CLz.out.on (box_below _ _)).on b9)
          clear b9
          go_wp2_with fail
          go_ret
          exact ⟨CC.out.below, _, rfl, .inr ⟨by rw [hit_node (by kernel_rfl) HH.out]; simp [HBz.out], by rw [ren_node (by kernel_rfl) HH.out]; (try simp only []); exact R.out⟩⟩

set_option maxRecDepth 100000 in
set_option maxHeartbeats 2000000 in
theorem copy_closure {fb tb sb : Nat} {f t s : ByteArray} {w0 : World} {I : Nat → Prop} (n : Int) (b : Nat) {Lz : List Tree} {sv : Value} {Vz : List Value} {ev : Value} (hI : I b) (hb : w0.heap[b]? = some (.cells #[ev, .nilIface, sv, .int .i64 n, .nilIface] 138 (0, 0))) (hsz : SliceOf w0 I sv Vz) (hmz : Vz.length = Lz.length) (hnz : Vz.length ≤ 1000) (rlz : ∀ i (h : i < Lz.length) (h2 : i < Vz.length), Rep w0 I Lz[i] Vz[i]) (hkz : ∀ i (h : i < Lz.length) (h2 : i < Vz.length), CopyOK fb tb sb f t s w0 I Vz[i] (CopyR I f t s Lz[i])) (he : SliceOf w0 I ev []) : CopyOK fb tb sb f t s w0 I (.iface 136 (.pointer (some ⟨b, 0, none⟩))) (CopyR I f t s (.node ⟨#[67, 108, 111, 115, 117, 114, 101]⟩ ⟨#[]⟩ n Lz)) := by
  refine ⟨_, _, b, rfl, fun W => mc_closure ⟨b, 0, none⟩ W, fun _ _ => by kernel_rfl, ?_⟩
  intro w hS hI2 hE
  have C0 := Lib.hid (show CS w0 I fb tb sb f t s w w from ⟨hS, hI2, hE, Below.refl _ _⟩)
  have HB := Lib.hid (show ∀ W, Same I w0 W → W.heap[b]? = some (.cells #[ev, .nilIface, sv, .int .i64 n, .nilIface] 138 (0, 0)) from fun W h => (h b hI).trans hb)
  have HK := Lib.hid (fun W (hE : W.heap[sb]? = some (.cells #[.string s] 9 (0, 0))) => skipping (kindOf_closure ⟨b, 0, none⟩) W hE)
  have HF := Lib.hid (fun q W => fn_other (fb := fb) (tb := tb) 136 q (fun W => ta_closure ⟨q, 0, none⟩ W) W)
  have hnn := fun W => nil_nn W
  have hny := fun W => nil_yes W
  have hno := fun T q W => nil_no T ⟨q, 0, none⟩ W
  have hne := fun T q W => nil_ne T ⟨q, 0, none⟩ W
  obtain ⟨i0, hi, hz0, hz1, hz2⟩ := info_parts infoAST
  obtain ⟨az, nz, rfl, _, hcz, h3z⟩ := hsz.lay
  have H3z := Lib.hid h3z
  have HMz := Lib.hid hmz
  have HNz := Lib.hid hnz
  have RLz := Lib.hid rlz
  have CKz := Lib.hid hkz
  clear h3z rlz hkz hsz hmz
  obtain ⟨Vy, hVy⟩ : ∃ V : List Value, V = [] := ⟨_, rfl⟩
  obtain ⟨Ly, hLy⟩ : ∃ L : List Tree, L = [] := ⟨_, rfl⟩
  rw [← hVy] at he
  obtain ⟨ay, ny, rfl, _, hcy, h3y⟩ := he.lay
  have H3y := Lib.hid h3y
  have HMy := Lib.hid (show Vy.length = Ly.length by rw [hVy, hLy]; rfl)
  have HNy := Lib.hid (show Vy.length ≤ 1000 by rw [hVy]; simp)
  have hny := HNy.out
  have RLy := Lib.hid (show ∀ i (h : i < Ly.length) (h2 : i < Vy.length), Rep w0 I Ly[i] Vy[i] from fun i h h2 => by subst hLy; simp at h)
  have CKy := Lib.hid (show ∀ i (h : i < Ly.length) (h2 : i < Vy.length), CopyOK fb tb sb f t s w0 I Vy[i] (CopyR I f t s Ly[i]) from fun i h h2 => by subst hLy; simp at h)
  have HLY := Lib.hid hLy
  have HVY := Lib.hid hVy
  clear h3y he hLy hVy
  clear hS hI2 hE hb hI
  go_enter Tryz.func175, Tryz.ntmps175
  go_wp2_with fail
  refine (HK.out _ C0.out.env.s).mono ?_
  rintro e w1 ⟨rfl, b1⟩
  have C1 := Lib.hid (C0.out.on b1)
  clear b1 HK
  cases hh : ((⟨#[67, 108, 111, 115, 117, 114, 101]⟩ : ByteArray).toList == s.toList) with
  | true =>
    have HH := Lib.hid hh
    clear hh
    go_wp2_with fail
    go_ret
    exact ⟨C1.out.below, _, rfl, .inl ⟨hit_skip HH.out, rfl⟩⟩
  | false =>
    have HH := Lib.hid hh
    clear hh
    obtain ⟨c0, c1, c2, c3, c4⟩ := cells5 (HB.out w1 C1.out.same)
    have CMy := Lib.hid (C1.out.on (box_below w1 (.cells (madeCells #[.nilIface] Vy.length) 38)))
    obtain ⟨d0, d1, d2, d3, d4⟩ := cells5 (HB.out _ CMy.out.same)
    go_wp2_with (first
      | (at_make; refine wpList_make_row _ rfl _ _ 70 rfl 38 i0 .nilIface Tryz.underlying70 hi hz0 hz1 rfl .i64 .i64 Vy.length rfl rfl (by rw [hz2]; omega) (by omega) ?_))
    have L0y := Lib.hid (LS.start (w0 := w0) (I := I) (f := f) (t := t) (s := s) (w := w) (wj := w1) Ly Vy.length)
    go_loopg [7, 34] (Vy.length) (fun k' c i wr => ∃ j : Nat, j + k' = Vy.length ∧ i = .int .i64 j ∧ ∃ ch : Bool, c = .bool ch ∧ Hid (ch = (false || hitL f s (Ly.take j))) ∧ ∃ cur : Array Value, Hid (LS w0 I f t s w w1 Ly Vy.length wr cur j))
    case atStart => exact ⟨0, by omega, rfl, false, rfl, by show _ = _; simp [hitL], _, L0y.out⟩
    case round =>
      obtain ⟨j, hj, rfl, ch, rfl, hch, cur, hls⟩ := hrel
      have CLy := Lib.hid (C1.out.on hls.out.old)
      obtain ⟨c0, c1, c2, c3, c4⟩ := cells5 (HB.out wr CLy.out.same)
      by_cases hlt : j < Vy.length
      · have hlt' : j < Ly.length := by have := HMy.out; omega
        obtain ⟨Tv, gv, qv, hu, mv, cv, hcv⟩ := CKy.out j hlt' hlt
        obtain ⟨bb, off, rfl, hbb, hcell⟩ := H3y.out.resolve_left (by intro e; rw [e] at hlt; simp at hlt)
        have hc3 : wr.cell? ⟨bb, off + j, none⟩ = some (.iface Tv (.pointer (some ⟨qv, 0, none⟩))) := by
          rw [World.cell?_of_block (w := w0) (CLy.out.same bb hbb), ← hu]
          exact hcell j _ (List.getElem?_eq_getElem hlt)
        have CU := Lib.hid hcv
        have HU := Lib.hid hu
        clear hcell hcv hu hbb
        go_wp2_with fail
        refine (CU.out _ CLy.out.same CLy.out.lt CLy.out.env).mono ?_
        rintro e w4 ⟨b4, r, rfl, hr⟩
        have BB := Lib.hid b4
        have C4 := Lib.hid (CLy.out.on b4)
        have a4 : w4.heap[w1.heap.size]? = some (.cells cur 38 (0, 0)) := by rw [b4.block _ hls.out.gt]; exact hls.out.arr
        have hjc : j < cur.size := by rw [hls.out.size]; exact hlt
        obtain ⟨z4, s4⟩ : ∃ z, w4.cell? ⟨w1.heap.size, j, none⟩ = some z := ⟨cur[j], by simp [World.cell?, a4, hjc]⟩
        have f4 : w4.frozen? ⟨w1.heap.size, j, none⟩ = false := by simp [World.frozen?, a4]
        clear b4 a4 hjc
        rcases hr with ⟨h0, rfl⟩ | ⟨h0, hr⟩
        · have LN := Lib.hid (LS.step hls.out hlt' BB.out (LS.old_rep (v := .iface Tv (.pointer (some ⟨qv, 0, none⟩))) (fun i hi => C1.out.lt i hi) C4.out h0 (by rw [← HU.out]; exact RLy.out j hlt' hlt)))
          have HT := Lib.hid (show ch = (false || hitL f s (Ly.take (j + 1))) by rw [hitL_take f s Ly hlt', h0, Bool.or_false]; exact hch.out)
          clear h0
          go_wp2_with fail
          go_roundg (gk - 1)
          case measure => omega
          case rel => exact ⟨j + 1, by omega, by go_num, ch, rfl, HT.out, _, LN.out⟩
        · obtain ⟨T5, q5, rfl, _⟩ := Rep.form hr
          have LN := Lib.hid (LS.step hls.out hlt' BB.out (LS.new_rep (fun i hi => C1.out.lt i hi) hls.out.gt CLy.out.below.size hr))
          have HT := Lib.hid (show true = (false || hitL f s (Ly.take (j + 1))) by rw [hitL_take f s Ly hlt', h0]; simp)
          clear h0 hr
          go_wp2_with fail
          go_roundg (gk - 1)
          case measure => omega
          case rel => exact ⟨j + 1, by omega, by go_num, true, rfl, HT.out, _, LN.out⟩
      · have HTy := Lib.hid (show ch = (false || hitL f s Ly) by have := hch.out; rwa [hitL_all f s (by have := HMy.out; omega)] at this)
        have LDy := Lib.hid (LS.done hls.out hlt HMy.out HNy.out C1.out.below.size)
        have OLy := Lib.hid hls.out.old
        have Wy := Lib.hid (show w1.heap.size ≤ wr.heap.size from OLy.out.size)
        clear hch hls
        obtain rfl : ch = false := by have := HTy.out; rw [HLY.out] at this; rw [this]; simp [hitL]
        obtain ⟨w5, rfl⟩ : ∃ w5 : World, w5 = wr := ⟨_, rfl⟩
        have C5 := Lib.hid CLy.out
        have CMz := Lib.hid (C5.out.on (box_below w5 (.cells (madeCells #[.nilIface] Vz.length) 38)))
        obtain ⟨d0, d1, d2, d3, d4⟩ := cells5 (HB.out _ CMz.out.same)
        go_wp2_with (first
          | (at_make; refine wpList_make_row _ rfl _ _ 70 rfl 38 i0 .nilIface Tryz.underlying70 hi hz0 hz1 rfl .i64 .i64 Vz.length rfl rfl (by rw [hz2]; omega) (by omega) ?_))
        have L0z := Lib.hid (LS.start (w0 := w0) (I := I) (f := f) (t := t) (s := s) (w := w) (wj := w5) Lz Vz.length)
        go_loopg [7, 83] (Vz.length) (fun k' c i wr => ∃ j : Nat, j + k' = Vz.length ∧ i = .int .i64 j ∧ ∃ ch : Bool, c = .bool ch ∧ Hid (ch = (false || hitL f s (Lz.take j))) ∧ ∃ cur : Array Value, Hid (LS w0 I f t s w w5 Lz Vz.length wr cur j))
        case atStart => exact ⟨0, by omega, rfl, false, rfl, by show _ = _; simp [hitL], _, L0z.out⟩
        case round =>
          obtain ⟨j, hj, rfl, ch, rfl, hch, cur, hls⟩ := hrel
          have CLz := Lib.hid (C5.out.on hls.out.old)
          obtain ⟨c0, c1, c2, c3, c4⟩ := cells5 (HB.out wr CLz.out.same)
          by_cases hlt : j < Vz.length
          · have hlt' : j < Lz.length := by have := HMz.out; omega
            obtain ⟨Tv, gv, qv, hu, mv, cv, hcv⟩ := CKz.out j hlt' hlt
            obtain ⟨bb, off, rfl, hbb, hcell⟩ := H3z.out.resolve_left (by intro e; rw [e] at hlt; simp at hlt)
            have hc3 : wr.cell? ⟨bb, off + j, none⟩ = some (.iface Tv (.pointer (some ⟨qv, 0, none⟩))) := by
              rw [World.cell?_of_block (w := w0) (CLz.out.same bb hbb), ← hu]
              exact hcell j _ (List.getElem?_eq_getElem hlt)
            have CU := Lib.hid hcv
            have HU := Lib.hid hu
            clear hcell hcv hu hbb
            go_wp2_with fail
            refine (CU.out _ CLz.out.same CLz.out.lt CLz.out.env).mono ?_
            rintro e w4 ⟨b4, r, rfl, hr⟩
            have BB := Lib.hid b4
            have C4 := Lib.hid (CLz.out.on b4)
            have a4 : w4.heap[w5.heap.size]? = some (.cells cur 38 (0, 0)) := by rw [b4.block _ hls.out.gt]; exact hls.out.arr
            have hjc : j < cur.size := by rw [hls.out.size]; exact hlt
            obtain ⟨z4, s4⟩ : ∃ z, w4.cell? ⟨w5.heap.size, j, none⟩ = some z := ⟨cur[j], by simp [World.cell?, a4, hjc]⟩
            have f4 : w4.frozen? ⟨w5.heap.size, j, none⟩ = false := by simp [World.frozen?, a4]
            clear b4 a4 hjc
            rcases hr with ⟨h0, rfl⟩ | ⟨h0, hr⟩
            · have LN := Lib.hid (LS.step hls.out hlt' BB.out (LS.old_rep (v := .iface Tv (.pointer (some ⟨qv, 0, none⟩))) (fun i hi => C5.out.lt i hi) C4.out h0 (by rw [← HU.out]; exact RLz.out j hlt' hlt)))
              have HT := Lib.hid (show ch = (false || hitL f s (Lz.take (j + 1))) by rw [hitL_take f s Lz hlt', h0, Bool.or_false]; exact hch.out)
              clear h0
              go_wp2_with fail
              go_roundg (gk - 1)
              case measure => omega
              case rel => exact ⟨j + 1, by omega, by go_num, ch, rfl, HT.out, _, LN.out⟩
            · obtain ⟨T5, q5, rfl, _⟩ := Rep.form hr
              have LN := Lib.hid (LS.step hls.out hlt' BB.out (LS.new_rep (fun i hi => C5.out.lt i hi) hls.out.gt CLz.out.below.size hr))
              have HT := Lib.hid (show true = (false || hitL f s (Lz.take (j + 1))) by rw [hitL_take f s Lz hlt', h0]; simp)
              clear h0 hr
              go_wp2_with fail
              go_roundg (gk - 1)
              case measure => omega
              case rel => exact ⟨j + 1, by omega, by go_num, true, rfl, HT.out, _, LN.out⟩
          · have HTz := Lib.hid (show ch = (false || hitL f s Lz) by have := hch.out; rwa [hitL_all f s (by have := HMz.out; omega)] at this)
            have LDz := Lib.hid (LS.done hls.out hlt HMz.out HNz.out C5.out.below.size)
            have OLz := Lib.hid hls.out.old
            have Wz := Lib.hid (show w5.heap.size ≤ wr.heap.size from OLz.out.size)
            clear hch hls
            cases ch with
            | false =>
              have HBz := Lib.hid (show hitL f s Lz = false by have := HTz.out; simpa using this.symm)
              go_wp2_with fail
              refine (HF.out b _).mono ?_
              rintro e w9 ⟨rfl, b9⟩
              have CC := Lib.hid (CLz.out.on b9)
              clear b9
              go_wp2_with fail
              go_ret
              exact ⟨CC.out.below, _, rfl, .inl ⟨by rw [hit_node (by kernel_rfl) HH.out]; simp [HBz.out], rfl⟩⟩
            | true =>
              have HBz := Lib.hid (show hitL f s Lz = true by have := HTz.out; simpa using this.symm)
              go_wp2_with fail
              refine (HF.out wr.heap.size _).mono ?_
              rintro e w9 ⟨rfl, b9⟩
              have R := Lib.hid (RepN.on (madeN_closure (w := wr) CLz.out.below.size n LDz.out (show SliceOf wr (NI I w.heap.size wr) (.slice (some ⟨w1.heap.size, 0, none⟩) Vy.length Vy.length) [] from by rw [HVY.out]; exact .inr ⟨_, _, rfl, Nat.le_refl _, by simp [maxLen], fun h => absurd rfl h, fun i u h => by simp at h⟩)) b9)
              have CC := Lib.hid ((CLz.out.on (box_below _ _)).on b9)
              clear b9
              go_wp2_with fail
              go_ret
              exact ⟨CC.out.below, _, rfl, .inr ⟨by rw [hit_node (by kernel_rfl) HH.out]; simp [HBz.out], by rw [ren_node (by kernel_rfl) HH.out]; (try simp only []); exact R.out⟩⟩

end Go.Proofs.YtnhccgbkalpcnaaGreatDoor

namespace Go.Proofs.YtnhccgbkalpcnaaGreatDoor
open Go.RowKit

/-- an array that is filled, whatever with -/
structure QS (wj : World) (n : Nat) (wr : World) (cur : Array Value) : Prop where
  old : Below wj.heap.size wj wr
  gt : wj.heap.size < wr.heap.size
  arr : wr.heap[wj.heap.size]? = some (.cells cur 38 (0, 0))
  size : cur.size = n
theorem QS.start {wj : World} (n : Nat) : QS wj n (wj.alloc (.cells (madeCells #[.nilIface] n) 38)) (madeCells #[.nilIface] n) := ⟨box_below wj _, by simp, heap_alloc_new wj _, size_madeCells _ _⟩
theorem QS.step {wj : World} {n : Nat} {wr w2 : World} {cur : Array Value} {j : Nat} (h : QS wj n wr cur) (b2 : Below wr.heap.size wr w2) {v : Value} : QS wj n (w2.setCell ⟨wj.heap.size, j, none⟩ v) (cur.setIfInBounds j v) := by
  have hg := h.gt
  have hz := b2.size
  have hz2 : (w2.setCell ⟨wj.heap.size, j, none⟩ v).heap.size = w2.heap.size := by simp [World.setCell]
  have a2 : w2.heap[wj.heap.size]? = some (.cells cur 38 (0, 0)) := by rw [b2.block _ hg]; exact h.arr
  exact ⟨(h.old.trans (b2.mono (by omega))).setCell (p := ⟨wj.heap.size, j, none⟩) (Nat.le_refl _) v, by omega, heap_setCell_same a2, by simp [h.size]⟩

theorem len_szs0 : ∀ (l : List Tree), l.length ≤ Tree.szs l
  | [] => Nat.zero_le _
  | k :: r => by
    have := len_szs0 r
    have h : 1 ≤ k.sz := by cases k; simp only [Tree.sz]; omega
    simp only [List.length_cons, Tree.szs]
    omega

set_option maxRecDepth 100000 in
set_option maxHeartbeats 2000000 in
theorem copy_q1 {fb tb sb : Nat} {f t s : ByteArray} {w0 : World} {I : Nat → Prop} {q : Tree} {v : Value} (h : RepQ1 w0 I q v) : CopyOK fb tb sb f t s w0 I v (CopyN) := by
  obtain ⟨x, b, ev, rfl, rfl, hI, hb, he⟩ := h
  obtain ⟨V, hV⟩ : ∃ V : List Value, V = [] := ⟨_, rfl⟩
  rw [← hV] at he
  obtain ⟨i0, hi, hz0, hz1, hz2⟩ := info_parts infoAST
  obtain ⟨a0, n0, rfl, _, hc0, h3⟩ := he.lay
  have H3 := Lib.hid h3
  have hn0 : V.length ≤ 1000 := by rw [hV]; simp
  have CK := Lib.hid (show ∀ i (h2 : i < V.length), CopyOK fb tb sb f t s w0 I V[i] (CopyN) from fun i h2 => by subst hV; simp at h2)
  clear h3 he hV
  refine ⟨_, _, b, rfl, fun W => mc_qualifier ⟨b, 0, none⟩ W, fun _ _ => by kernel_rfl, ?_⟩
  intro w hS hI2 hE
  have C0 := Lib.hid (show CS w0 I fb tb sb f t s w w from ⟨hS, hI2, hE, Below.refl _ _⟩)
  have HB := Lib.hid (show ∀ W, Same I w0 W → W.heap[b]? = some (.cells #[.string x, .slice a0 V.length n0] 99 (0, 0)) from fun W h => (h b hI).trans hb)
  have HK := Lib.hid (fun W (hE : W.heap[sb]? = some (.cells #[.string s] 9 (0, 0))) => skipping (kindOf_qualifier ⟨b, 0, none⟩) W hE)
  have HF := Lib.hid (fun q W => fn_other (fb := fb) (tb := tb) 97 q (fun W => ta_qualifier ⟨q, 0, none⟩ W) W)
  have hnn := fun W => nil_nn W
  have hny := fun W => nil_yes W
  have hno := fun T q W => nil_no T ⟨q, 0, none⟩ W
  have hne := fun T q W => nil_ne T ⟨q, 0, none⟩ W
  clear hS hI2 hE hb hI
  go_enter Tryz.func142, Tryz.ntmps142
  go_wp2_with fail
  refine (HK.out _ C0.out.env.s).mono ?_
  rintro e w1 ⟨rfl, b1⟩
  have C1 := Lib.hid (C0.out.on b1)
  clear b1 HK
  cases hh : ((⟨#[81, 117, 97, 108, 105, 102, 105, 101, 114]⟩ : ByteArray).toList == s.toList) with
  | true =>
    clear hh
    go_wp2_with fail
    go_ret
    exact ⟨C1.out.below, rfl⟩
  | false =>
    clear hh
    obtain ⟨c0, c1⟩ := cells2 (HB.out w1 C1.out.same)
    have CM := Lib.hid (C1.out.on (box_below w1 (.cells (madeCells #[.nilIface] V.length) 38)))
    obtain ⟨d0, d1⟩ := cells2 (HB.out _ CM.out.same)
    go_wp2_with (first
      | (at_make; refine wpList_make_row _ rfl _ _ 70 rfl 38 i0 .nilIface Tryz.underlying70 hi hz0 hz1 rfl .i64 .i64 V.length rfl rfl (by rw [hz2]; omega) (by omega) ?_))
    have L0 := Lib.hid (QS.start (wj := w1) V.length)
    go_loopg [8, 28] (V.length) (fun k' c i wr => ∃ j : Nat, j + k' = V.length ∧ i = .int .i64 j ∧ c = .bool false ∧ ∃ cur : Array Value, Hid (QS w1 V.length wr cur))
    case atStart => exact ⟨0, by omega, rfl, rfl, _, L0.out⟩
    case round =>
      obtain ⟨j, hj, rfl, rfl, cur, hls⟩ := hrel
      have CL := Lib.hid (C1.out.on hls.out.old)
      obtain ⟨c0, c1⟩ := cells2 (HB.out wr CL.out.same)
      by_cases hlt : j < V.length
      · obtain ⟨Tv, gv, qv, hu, mv, cv, hcv⟩ := CK.out j hlt
        obtain ⟨bb, off, rfl, hbb, hcell⟩ := H3.out.resolve_left (by intro e; rw [e] at hlt; simp at hlt)
        have hc3 : wr.cell? ⟨bb, off + j, none⟩ = some (.iface Tv (.pointer (some ⟨qv, 0, none⟩))) := by
          rw [World.cell?_of_block (w := w0) (CL.out.same bb hbb), ← hu]
          exact hcell j _ (List.getElem?_eq_getElem hlt)
        have CU := Lib.hid hcv
        clear hcell hcv hu hbb
        go_wp2_with fail
        refine (CU.out _ CL.out.same CL.out.lt CL.out.env).mono ?_
        rintro e w4 ⟨b4, rfl⟩
        have BB := Lib.hid b4
        have a4 : w4.heap[w1.heap.size]? = some (.cells cur 38 (0, 0)) := by rw [b4.block _ hls.out.gt]; exact hls.out.arr
        have hjc : j < cur.size := by rw [hls.out.size]; exact hlt
        obtain ⟨z4, s4⟩ : ∃ z, w4.cell? ⟨w1.heap.size, j, none⟩ = some z := ⟨cur[j], by simp [World.cell?, a4, hjc]⟩
        have f4 : w4.frozen? ⟨w1.heap.size, j, none⟩ = false := by simp [World.frozen?, a4]
        clear b4 a4 hjc
        have LN := Lib.hid (fun v => QS.step (j := j) (v := v) hls.out BB.out)
        go_wp2_with fail
        go_roundg (gk - 1)
        case measure => omega
        case rel => exact ⟨j + 1, by omega, by go_num, rfl, _, LN.out _⟩
      · go_wp2_with fail
        refine (HF.out b _).mono ?_
        rintro e w9 ⟨rfl, b9⟩
        have CC := Lib.hid (CL.out.on b9)
        clear b9
        go_wp2_with fail
        go_ret
        exact ⟨CC.out.below, rfl⟩

set_option maxRecDepth 100000 in
set_option maxHeartbeats 2000000 in
theorem copy_quals {fb tb sb : Nat} {f t s : ByteArray} {w0 : World} {I : Nat → Prop} {q : Tree} {v : Value} (hsz : q.sz ≤ 1000) (h : RepQ w0 I q v) : CopyOK fb tb sb f t s w0 I v (CopyN) := by
  obtain ⟨qs, b, sv, V, rfl, rfl, hI, hb, hs, hm, hl⟩ := h
  obtain ⟨i0, hi, hz0, hz1, hz2⟩ := info_parts infoAST
  obtain ⟨a0, n0, rfl, _, hc0, h3⟩ := hs.lay
  have H3 := Lib.hid h3
  have hn0 : V.length ≤ 1000 := by
    have := len_szs0 qs
    simp only [Tree.sz] at hsz
    omega
  have CK := Lib.hid (show ∀ i (h2 : i < V.length), CopyOK fb tb sb f t s w0 I V[i] (CopyN) from fun i h2 => copy_q1 (hl i (by omega) h2))
  clear h3 hs hl hm hsz
  refine ⟨_, _, b, rfl, fun W => mc_qualifiers ⟨b, 0, none⟩ W, fun _ _ => by kernel_rfl, ?_⟩
  intro w hS hI2 hE
  have C0 := Lib.hid (show CS w0 I fb tb sb f t s w w from ⟨hS, hI2, hE, Below.refl _ _⟩)
  have HB := Lib.hid (show ∀ W, Same I w0 W → W.heap[b]? = some (.cells #[.slice a0 V.length n0] 96 (0, 0)) from fun W h => (h b hI).trans hb)
  have HK := Lib.hid (fun W (hE : W.heap[sb]? = some (.cells #[.string s] 9 (0, 0))) => skipping (kindOf_qualifiers ⟨b, 0, none⟩) W hE)
  have HF := Lib.hid (fun q W => fn_other (fb := fb) (tb := tb) 94 q (fun W => ta_qualifiers ⟨q, 0, none⟩ W) W)
  have hnn := fun W => nil_nn W
  have hny := fun W => nil_yes W
  have hno := fun T q W => nil_no T ⟨q, 0, none⟩ W
  have hne := fun T q W => nil_ne T ⟨q, 0, none⟩ W
  clear hS hI2 hE hb hI
  go_enter Tryz.func139, Tryz.ntmps139
  go_wp2_with fail
  refine (HK.out _ C0.out.env.s).mono ?_
  rintro e w1 ⟨rfl, b1⟩
  have C1 := Lib.hid (C0.out.on b1)
  clear b1 HK
  cases hh : ((⟨#[81, 117, 97, 108, 105, 102, 105, 101, 114, 115]⟩ : ByteArray).toList == s.toList) with
  | true =>
    clear hh
    go_wp2_with fail
    go_ret
    exact ⟨C1.out.below, rfl⟩
  | false =>
    clear hh
    obtain c0 := cells1 (HB.out w1 C1.out.same)
    have CM := Lib.hid (C1.out.on (box_below w1 (.cells (madeCells #[.nilIface] V.length) 38)))
    obtain d0 := cells1 (HB.out _ CM.out.same)
    go_wp2_with (first
      | (at_make; refine wpList_make_row _ rfl _ _ 70 rfl 38 i0 .nilIface Tryz.underlying70 hi hz0 hz1 rfl .i64 .i64 V.length rfl rfl (by rw [hz2]; omega) (by omega) ?_))
    have L0 := Lib.hid (QS.start (wj := w1) V.length)
    go_loopg [7, 28] (V.length) (fun k' c i wr => ∃ j : Nat, j + k' = V.length ∧ i = .int .i64 j ∧ c = .bool false ∧ ∃ cur : Array Value, Hid (QS w1 V.length wr cur))
    case atStart => exact ⟨0, by omega, rfl, rfl, _, L0.out⟩
    case round =>
      obtain ⟨j, hj, rfl, rfl, cur, hls⟩ := hrel
      have CL := Lib.hid (C1.out.on hls.out.old)
      obtain c0 := cells1 (HB.out wr CL.out.same)
      by_cases hlt : j < V.length
      · obtain ⟨Tv, gv, qv, hu, mv, cv, hcv⟩ := CK.out j hlt
        obtain ⟨bb, off, rfl, hbb, hcell⟩ := H3.out.resolve_left (by intro e; rw [e] at hlt; simp at hlt)
        have hc3 : wr.cell? ⟨bb, off + j, none⟩ = some (.iface Tv (.pointer (some ⟨qv, 0, none⟩))) := by
          rw [World.cell?_of_block (w := w0) (CL.out.same bb hbb), ← hu]
          exact hcell j _ (List.getElem?_eq_getElem hlt)
        have CU := Lib.hid hcv
        clear hcell hcv hu hbb
        go_wp2_with fail
        refine (CU.out _ CL.out.same CL.out.lt CL.out.env).mono ?_
        rintro e w4 ⟨b4, rfl⟩
        have BB := Lib.hid b4
        have a4 : w4.heap[w1.heap.size]? = some (.cells cur 38 (0, 0)) := by rw [b4.block _ hls.out.gt]; exact hls.out.arr
        have hjc : j < cur.size := by rw [hls.out.size]; exact hlt
        obtain ⟨z4, s4⟩ : ∃ z, w4.cell? ⟨w1.heap.size, j, none⟩ = some z := ⟨cur[j], by simp [World.cell?, a4, hjc]⟩
        have f4 : w4.frozen? ⟨w1.heap.size, j, none⟩ = false := by simp [World.frozen?, a4]
        clear b4 a4 hjc
        have LN := Lib.hid (fun v => QS.step (j := j) (v := v) hls.out BB.out)
        go_wp2_with fail
        go_roundg (gk - 1)
        case measure => omega
        case rel => exact ⟨j + 1, by omega, by go_num, rfl, _, LN.out _⟩
      · go_wp2_with fail
        refine (HF.out b _).mono ?_
        rintro e w9 ⟨rfl, b9⟩
        have CC := Lib.hid (CL.out.on b9)
        clear b9
        go_wp2_with fail
        go_ret
        exact ⟨CC.out.below, rfl⟩

end Go.Proofs.YtnhccgbkalpcnaaGreatDoor
