/- Copy: elements of two kids. -/
import Derived.Test.YtnhccgbkalpcnaaGreatDoorCopyD
namespace Go.Proofs.YtnhccgbkalpcnaaGreatDoor
open Go.RowKit

set_option maxRecDepth 100000 in
set_option maxHeartbeats 2000000 in
theorem copy_qualified {fb tb sb : Nat} {f t s : ByteArray} {w0 : World} {I : Nat → Prop} (b : Nat) {a : Tree} {u : Value} {c : Tree} {y : Value} (hI : I b) (hb : w0.heap[b]? = some (.cells #[u, y, .bool false] 68 (0, 0))) (ru : Rep w0 I a u) (hu : CopyOK fb tb sb f t s w0 I u (CopyR I f t s a)) (ry : Rep w0 I c y) (hy : CopyOK fb tb sb f t s w0 I y (CopyR I f t s c)) : CopyOK fb tb sb f t s w0 I (.iface 66 (.pointer (some ⟨b, 0, none⟩))) (CopyR I f t s (.node ⟨#[81, 117, 97, 108, 105, 102, 105, 101, 100]⟩ ⟨#[]⟩ 0 [a, c])) := by
  refine ⟨_, _, b, rfl, fun W => mc_qualified ⟨b, 0, none⟩ W, fun _ _ => by kernel_rfl, ?_⟩
  intro w hS hI2 hE
  have C0 := Lib.hid (show CS w0 I fb tb sb f t s w w from ⟨hS, hI2, hE, Below.refl _ _⟩)
  have HB := Lib.hid (show ∀ W, Same I w0 W → W.heap[b]? = some (.cells #[u, y, .bool false] 68 (0, 0)) from fun W h => (h b hI).trans hb)
  have HK := Lib.hid (fun W (hE : W.heap[sb]? = some (.cells #[.string s] 9 (0, 0))) => skipping (kindOf_qualified ⟨b, 0, none⟩) W hE)
  have HF := Lib.hid (fun q W => fn_other (fb := fb) (tb := tb) 66 q (fun W => ta_qualified ⟨q, 0, none⟩ W) W)
  have hnn := fun W => nil_nn W
  have hny := fun W => nil_yes W
  have hno := fun T q W => nil_no T ⟨q, 0, none⟩ W
  have hne := fun T q W => nil_ne T ⟨q, 0, none⟩ W
  obtain ⟨Tuu, guu, quu, rfl, muu, cuu, hcuu⟩ := hu
  have CUu := Lib.hid hcuu
  have Ru := Lib.hid ru
  clear hcuu ru
  obtain ⟨Tuy, guy, quy, rfl, muy, cuy, hcuy⟩ := hy
  have CUy := Lib.hid hcuy
  have Ry := Lib.hid ry
  clear hcuy ry
  clear hS hI2 hE hb hI
  go_enter Tryz.func109, Tryz.ntmps109
  go_wp2_with fail
  refine (HK.out _ C0.out.env.s).mono ?_
  rintro e w1 ⟨rfl, b1⟩
  have C1 := Lib.hid (C0.out.on b1)
  clear b1 HK
  cases hh : ((⟨#[81, 117, 97, 108, 105, 102, 105, 101, 100]⟩ : ByteArray).toList == s.toList) with
  | true =>
    have HH := Lib.hid hh
    clear hh
    go_wp2_with fail
    go_ret
    exact ⟨C1.out.below, _, rfl, .inl ⟨hit_skip HH.out, rfl⟩⟩
  | false =>
    have HH := Lib.hid hh
    clear hh
    obtain ⟨c0, c1, c2⟩ := cells3 (HB.out w1 C1.out.same)
    go_wp2_with fail
    refine (CUu.out _ C1.out.same C1.out.lt C1.out.env).mono ?_
    rintro e w2 ⟨b2, r, rfl, hr⟩
    have C2 := Lib.hid (C1.out.on b2)
    clear b2 c0 c1 c2
    obtain ⟨c0, c1, c2⟩ := cells3 (HB.out w2 C2.out.same)
    rcases hr with ⟨h0, rfl⟩ | ⟨h0, hr⟩
    · have Hu := Lib.hid h0
      clear h0
      go_wp2_with fail
      refine (CUy.out _ C2.out.same C2.out.lt C2.out.env).mono ?_
      rintro e w3 ⟨b3, r, rfl, hr⟩
      have C3 := Lib.hid (C2.out.on b3)
      clear b3 c0 c1 c2
      obtain ⟨c0, c1, c2⟩ := cells3 (HB.out w3 C3.out.same)
      rcases hr with ⟨h0, rfl⟩ | ⟨h0, hr⟩
      · have Hy := Lib.hid h0
        clear h0
        go_wp2_with fail
        refine (HF.out b _).mono ?_
        rintro e w4 ⟨rfl, b4⟩
        have C4 := Lib.hid (C3.out.on b4)
        clear b4
        go_wp2_with fail
        go_ret
        exact ⟨C4.out.below, _, rfl, .inl ⟨by rw [hit_node (by kernel_rfl) HH.out]; simp [hitL, Hu.out, Hy.out], rfl⟩⟩
      · have Hy := Lib.hid h0
        obtain ⟨Ty, qy, rfl, _⟩ := Rep.form hr
        have Ky := Lib.hid (RepN.from hr C2.out.below.size)
        clear h0 hr
        go_wp2_with fail
        refine (HF.out w3.heap.size _).mono ?_
        rintro e w4 ⟨rfl, b4⟩
        have R := Lib.hid (RepN.on (madeN_qualified (w := w3) C3.out.below.size (C3.out.keep Hu.out Ru.out) Ky.out) b4)
        have CC := Lib.hid ((C3.out.on (box_below _ _)).on b4)
        clear b4
        go_wp2_with fail
        go_ret
        exact ⟨CC.out.below, _, rfl, .inr ⟨by rw [hit_node (by kernel_rfl) HH.out]; simp [hitL, Hu.out, Hy.out], by rw [ren_node (by kernel_rfl) HH.out]; simp only [renL]; exact R.out⟩⟩
    · have Hu := Lib.hid h0
      obtain ⟨Tu, qu, rfl, _⟩ := Rep.form hr
      have Ku := Lib.hid (RepN.from hr C1.out.below.size)
      clear h0 hr
      go_wp2_with fail
      refine (CUy.out _ C2.out.same C2.out.lt C2.out.env).mono ?_
      rintro e w3 ⟨b3, r, rfl, hr⟩
      have C3 := Lib.hid (C2.out.on b3)
      have Ku := Lib.hid (Ku.out.on b3)
      clear b3 c0 c1 c2
      obtain ⟨c0, c1, c2⟩ := cells3 (HB.out w3 C3.out.same)
      rcases hr with ⟨h0, rfl⟩ | ⟨h0, hr⟩
      · have Hy := Lib.hid h0
        clear h0
        go_wp2_with fail
        refine (HF.out w3.heap.size _).mono ?_
        rintro e w4 ⟨rfl, b4⟩
        have R := Lib.hid (RepN.on (madeN_qualified (w := w3) C3.out.below.size Ku.out (C3.out.keep Hy.out Ry.out)) b4)
        have CC := Lib.hid ((C3.out.on (box_below _ _)).on b4)
        clear b4
        go_wp2_with fail
        go_ret
        exact ⟨CC.out.below, _, rfl, .inr ⟨by rw [hit_node (by kernel_rfl) HH.out]; simp [hitL, Hu.out, Hy.out], by rw [ren_node (by kernel_rfl) HH.out]; simp only [renL]; exact R.out⟩⟩
      · have Hy := Lib.hid h0
        obtain ⟨Ty, qy, rfl, _⟩ := Rep.form hr
        have Ky := Lib.hid (RepN.from hr C2.out.below.size)
        clear h0 hr
        go_wp2_with fail
        refine (HF.out w3.heap.size _).mono ?_
        rintro e w4 ⟨rfl, b4⟩
        have R := Lib.hid (RepN.on (madeN_qualified (w := w3) C3.out.below.size Ku.out Ky.out) b4)
        have CC := Lib.hid ((C3.out.on (box_below _ _)).on b4)
        clear b4
        go_wp2_with fail
        go_ret
        exact ⟨CC.out.below, _, rfl, .inr ⟨by rw [hit_node (by kernel_rfl) HH.out]; simp [hitL, Hu.out, Hy.out], by rw [ren_node (by kernel_rfl) HH.out]; simp only [renL]; exact R.out⟩⟩

set_option maxRecDepth 100000 in
set_option maxHeartbeats 2000000 in
theorem copy_typed {fb tb sb : Nat} {f t s : ByteArray} {w0 : World} {I : Nat → Prop} (b : Nat) {a : Tree} {u : Value} {c : Tree} {y : Value} (hI : I b) (hb : w0.heap[b]? = some (.cells #[u, y] 76 (0, 0))) (ru : Rep w0 I a u) (hu : CopyOK fb tb sb f t s w0 I u (CopyR I f t s a)) (ry : Rep w0 I c y) (hy : CopyOK fb tb sb f t s w0 I y (CopyR I f t s c)) : CopyOK fb tb sb f t s w0 I (.iface 74 (.pointer (some ⟨b, 0, none⟩))) (CopyR I f t s (.node ⟨#[84, 121, 112, 101, 100]⟩ ⟨#[]⟩ 0 [a, c])) := by
  refine ⟨_, _, b, rfl, fun W => mc_typed ⟨b, 0, none⟩ W, fun _ _ => by kernel_rfl, ?_⟩
  intro w hS hI2 hE
  have C0 := Lib.hid (show CS w0 I fb tb sb f t s w w from ⟨hS, hI2, hE, Below.refl _ _⟩)
  have HB := Lib.hid (show ∀ W, Same I w0 W → W.heap[b]? = some (.cells #[u, y] 76 (0, 0)) from fun W h => (h b hI).trans hb)
  have HK := Lib.hid (fun W (hE : W.heap[sb]? = some (.cells #[.string s] 9 (0, 0))) => skipping (kindOf_typed ⟨b, 0, none⟩) W hE)
  have HF := Lib.hid (fun q W => fn_other (fb := fb) (tb := tb) 74 q (fun W => ta_typed ⟨q, 0, none⟩ W) W)
  have hnn := fun W => nil_nn W
  have hny := fun W => nil_yes W
  have hno := fun T q W => nil_no T ⟨q, 0, none⟩ W
  have hne := fun T q W => nil_ne T ⟨q, 0, none⟩ W
  obtain ⟨Tuu, guu, quu, rfl, muu, cuu, hcuu⟩ := hu
  have CUu := Lib.hid hcuu
  have Ru := Lib.hid ru
  clear hcuu ru
  obtain ⟨Tuy, guy, quy, rfl, muy, cuy, hcuy⟩ := hy
  have CUy := Lib.hid hcuy
  have Ry := Lib.hid ry
  clear hcuy ry
  clear hS hI2 hE hb hI
  go_enter Tryz.func115, Tryz.ntmps115
  go_wp2_with fail
  refine (HK.out _ C0.out.env.s).mono ?_
  rintro e w1 ⟨rfl, b1⟩
  have C1 := Lib.hid (C0.out.on b1)
  clear b1 HK
  cases hh : ((⟨#[84, 121, 112, 101, 100]⟩ : ByteArray).toList == s.toList) with
  | true =>
    have HH := Lib.hid hh
    clear hh
    go_wp2_with fail
    go_ret
    exact ⟨C1.out.below, _, rfl, .inl ⟨hit_skip HH.out, rfl⟩⟩
  | false =>
    have HH := Lib.hid hh
    clear hh
    obtain ⟨c0, c1⟩ := cells2 (HB.out w1 C1.out.same)
    go_wp2_with fail
    refine (CUu.out _ C1.out.same C1.out.lt C1.out.env).mono ?_
    rintro e w2 ⟨b2, r, rfl, hr⟩
    have C2 := Lib.hid (C1.out.on b2)
    clear b2 c0 c1
    obtain ⟨c0, c1⟩ := cells2 (HB.out w2 C2.out.same)
    rcases hr with ⟨h0, rfl⟩ | ⟨h0, hr⟩
    · have Hu := Lib.hid h0
      clear h0
      go_wp2_with fail
      refine (CUy.out _ C2.out.same C2.out.lt C2.out.env).mono ?_
      rintro e w3 ⟨b3, r, rfl, hr⟩
      have C3 := Lib.hid (C2.out.on b3)
      clear b3 c0 c1
      obtain ⟨c0, c1⟩ := cells2 (HB.out w3 C3.out.same)
      rcases hr with ⟨h0, rfl⟩ | ⟨h0, hr⟩
      · have Hy := Lib.hid h0
        clear h0
        go_wp2_with fail
        refine (HF.out b _).mono ?_
        rintro e w4 ⟨rfl, b4⟩
        have C4 := Lib.hid (C3.out.on b4)
        clear b4
        go_wp2_with fail
        go_ret
        exact ⟨C4.out.below, _, rfl, .inl ⟨by rw [hit_node (by kernel_rfl) HH.out]; simp [hitL, Hu.out, Hy.out], rfl⟩⟩
      · have Hy := Lib.hid h0
        obtain ⟨Ty, qy, rfl, _⟩ := Rep.form hr
        have Ky := Lib.hid (RepN.from hr C2.out.below.size)
        clear h0 hr
        go_wp2_with fail
        refine (HF.out w3.heap.size _).mono ?_
        rintro e w4 ⟨rfl, b4⟩
        have R := Lib.hid (RepN.on (madeN_typed (w := w3) C3.out.below.size (C3.out.keep Hu.out Ru.out) Ky.out) b4)
        have CC := Lib.hid ((C3.out.on (box_below _ _)).on b4)
        clear b4
        go_wp2_with fail
        go_ret
        exact ⟨CC.out.below, _, rfl, .inr ⟨by rw [hit_node (by kernel_rfl) HH.out]; simp [hitL, Hu.out, Hy.out], by rw [ren_node (by kernel_rfl) HH.out]; simp only [renL]; exact R.out⟩⟩
    · have Hu := Lib.hid h0
      obtain ⟨Tu, qu, rfl, _⟩ := Rep.form hr
      have Ku := Lib.hid (RepN.from hr C1.out.below.size)
      clear h0 hr
      go_wp2_with fail
      refine (CUy.out _ C2.out.same C2.out.lt C2.out.env).mono ?_
      rintro e w3 ⟨b3, r, rfl, hr⟩
      have C3 := Lib.hid (C2.out.on b3)
      have Ku := Lib.hid (Ku.out.on b3)
      clear b3 c0 c1
      obtain ⟨c0, c1⟩ := cells2 (HB.out w3 C3.out.same)
      rcases hr with ⟨h0, rfl⟩ | ⟨h0, hr⟩
      · have Hy := Lib.hid h0
        clear h0
        go_wp2_with fail
        refine (HF.out w3.heap.size _).mono ?_
        rintro e w4 ⟨rfl, b4⟩
        have R := Lib.hid (RepN.on (madeN_typed (w := w3) C3.out.below.size Ku.out (C3.out.keep Hy.out Ry.out)) b4)
        have CC := Lib.hid ((C3.out.on (box_below _ _)).on b4)
        clear b4
        go_wp2_with fail
        go_ret
        exact ⟨CC.out.below, _, rfl, .inr ⟨by rw [hit_node (by kernel_rfl) HH.out]; simp [hitL, Hu.out, Hy.out], by rw [ren_node (by kernel_rfl) HH.out]; simp only [renL]; exact R.out⟩⟩
      · have Hy := Lib.hid h0
        obtain ⟨Ty, qy, rfl, _⟩ := Rep.form hr
        have Ky := Lib.hid (RepN.from hr C2.out.below.size)
        clear h0 hr
        go_wp2_with fail
        refine (HF.out w3.heap.size _).mono ?_
        rintro e w4 ⟨rfl, b4⟩
        have R := Lib.hid (RepN.on (madeN_typed (w := w3) C3.out.below.size Ku.out Ky.out) b4)
        have CC := Lib.hid ((C3.out.on (box_below _ _)).on b4)
        clear b4
        go_wp2_with fail
        go_ret
        exact ⟨CC.out.below, _, rfl, .inr ⟨by rw [hit_node (by kernel_rfl) HH.out]; simp [hitL, Hu.out, Hy.out], by rw [ren_node (by kernel_rfl) HH.out]; simp only [renL]; exact R.out⟩⟩

set_option maxRecDepth 100000 in
set_option maxHeartbeats 2000000 in
theorem copy_typeWithQualifiers {fb tb sb : Nat} {f t s : ByteArray} {w0 : World} {I : Nat → Prop} (b : Nat) {a : Tree} {u : Value} {q : Tree} {y : Value} (hI : I b) (hb : w0.heap[b]? = some (.cells #[u, y] 93 (0, 0))) (ru : Rep w0 I a u) (hu : CopyOK fb tb sb f t s w0 I u (CopyR I f t s a)) (ry : RepQ w0 I q y) (hy : CopyOK fb tb sb f t s w0 I y (CopyN)) : CopyOK fb tb sb f t s w0 I (.iface 91 (.pointer (some ⟨b, 0, none⟩))) (CopyR I f t s (.node ⟨#[84, 121, 112, 101, 87, 105, 116, 104, 81, 117, 97, 108, 105, 102, 105, 101, 114, 115]⟩ ⟨#[]⟩ 0 [a, q])) := by
  refine ⟨_, _, b, rfl, fun W => mc_typeWithQualifiers ⟨b, 0, none⟩ W, fun _ _ => by kernel_rfl, ?_⟩
  intro w hS hI2 hE
  have C0 := Lib.hid (show CS w0 I fb tb sb f t s w w from ⟨hS, hI2, hE, Below.refl _ _⟩)
  have HB := Lib.hid (show ∀ W, Same I w0 W → W.heap[b]? = some (.cells #[u, y] 93 (0, 0)) from fun W h => (h b hI).trans hb)
  have HK := Lib.hid (fun W (hE : W.heap[sb]? = some (.cells #[.string s] 9 (0, 0))) => skipping (kindOf_typeWithQualifiers ⟨b, 0, none⟩) W hE)
  have HF := Lib.hid (fun q W => fn_other (fb := fb) (tb := tb) 91 q (fun W => ta_typeWithQualifiers ⟨q, 0, none⟩ W) W)
  have hnn := fun W => nil_nn W
  have hny := fun W => nil_yes W
  have hno := fun T q W => nil_no T ⟨q, 0, none⟩ W
  have hne := fun T q W => nil_ne T ⟨q, 0, none⟩ W
  obtain ⟨Tuu, guu, quu, rfl, muu, cuu, hcuu⟩ := hu
  have CUu := Lib.hid hcuu
  have Ru := Lib.hid ru
  clear hcuu ru
  obtain ⟨Tuy, guy, quy, rfl, muy, cuy, hcuy⟩ := hy
  have CUy := Lib.hid hcuy
  have Ry := Lib.hid ry
  have Hy := Lib.hid (hit_quals f s ry)
  clear hcuy ry
  clear hS hI2 hE hb hI
  go_enter Tryz.func136, Tryz.ntmps136
  go_wp2_with fail
  refine (HK.out _ C0.out.env.s).mono ?_
  rintro e w1 ⟨rfl, b1⟩
  have C1 := Lib.hid (C0.out.on b1)
  clear b1 HK
  cases hh : ((⟨#[84, 121, 112, 101, 87, 105, 116, 104, 81, 117, 97, 108, 105, 102, 105, 101, 114, 115]⟩ : ByteArray).toList == s.toList) with
  | true =>
    have HH := Lib.hid hh
    clear hh
    go_wp2_with fail
    go_ret
    exact ⟨C1.out.below, _, rfl, .inl ⟨hit_skip HH.out, rfl⟩⟩
  | false =>
    have HH := Lib.hid hh
    clear hh
    obtain ⟨c0, c1⟩ := cells2 (HB.out w1 C1.out.same)
    go_wp2_with fail
    refine (CUu.out _ C1.out.same C1.out.lt C1.out.env).mono ?_
    rintro e w2 ⟨b2, r, rfl, hr⟩
    have C2 := Lib.hid (C1.out.on b2)
    clear b2 c0 c1
    obtain ⟨c0, c1⟩ := cells2 (HB.out w2 C2.out.same)
    rcases hr with ⟨h0, rfl⟩ | ⟨h0, hr⟩
    · have Hu := Lib.hid h0
      clear h0
      go_wp2_with fail
      refine (CUy.out _ C2.out.same C2.out.lt C2.out.env).mono ?_
      rintro e w3 ⟨b3, rfl⟩
      have C3 := Lib.hid (C2.out.on b3)
      clear b3 c0 c1
      obtain ⟨c0, c1⟩ := cells2 (HB.out w3 C3.out.same)
      go_wp2_with fail
      refine (HF.out b _).mono ?_
      rintro e w4 ⟨rfl, b4⟩
      have C4 := Lib.hid (C3.out.on b4)
      clear b4
      go_wp2_with fail
      go_ret
      exact ⟨C4.out.below, _, rfl, .inl ⟨by rw [hit_node (by kernel_rfl) HH.out]; simp [hitL, Hu.out, Hy.out], rfl⟩⟩
    · have Hu := Lib.hid h0
      obtain ⟨Tu, qu, rfl, _⟩ := Rep.form hr
      have Ku := Lib.hid (RepN.from hr C1.out.below.size)
      clear h0 hr
      go_wp2_with fail
      refine (CUy.out _ C2.out.same C2.out.lt C2.out.env).mono ?_
      rintro e w3 ⟨b3, rfl⟩
      have C3 := Lib.hid (C2.out.on b3)
      have Ku := Lib.hid (Ku.out.on b3)
      clear b3 c0 c1
      obtain ⟨c0, c1⟩ := cells2 (HB.out w3 C3.out.same)
      go_wp2_with fail
      refine (HF.out w3.heap.size _).mono ?_
      rintro e w4 ⟨rfl, b4⟩
      have R := Lib.hid (RepN.on (madeN_typeWithQualifiers (w := w3) C3.out.below.size Ku.out (C3.out.oldQ Ry.out)) b4)
      have CC := Lib.hid ((C3.out.on (box_below _ _)).on b4)
      clear b4
      go_wp2_with fail
      go_ret
      exact ⟨CC.out.below, _, rfl, .inr ⟨by rw [hit_node (by kernel_rfl) HH.out]; simp [hitL, Hu.out, Hy.out], by rw [ren_node (by kernel_rfl) HH.out]; simp only [renL]; rw [ren_same f t s q Hy.out]; exact R.out⟩⟩

set_option maxRecDepth 100000 in
set_option maxHeartbeats 2000000 in
theorem copy_methodWithQualifiers {fb tb sb : Nat} {f t s : ByteArray} {w0 : World} {I : Nat → Prop} (x : ByteArray) (b : Nat) {a : Tree} {u : Value} {q : Tree} {y : Value} (hI : I b) (hb : w0.heap[b]? = some (.cells #[u, y, .string x] 102 (0, 0))) (ru : Rep w0 I a u) (hu : CopyOK fb tb sb f t s w0 I u (CopyR I f t s a)) (ry : RepQ w0 I q y) (hy : CopyOK fb tb sb f t s w0 I y (CopyN)) : CopyOK fb tb sb f t s w0 I (.iface 100 (.pointer (some ⟨b, 0, none⟩))) (CopyR I f t s (.node ⟨#[77, 101, 116, 104, 111, 100, 87, 105, 116, 104, 81, 117, 97, 108, 105, 102, 105, 101, 114, 115]⟩ x 0 [a, q])) := by
  refine ⟨_, _, b, rfl, fun W => mc_methodWithQualifiers ⟨b, 0, none⟩ W, fun _ _ => by kernel_rfl, ?_⟩
  intro w hS hI2 hE
  have C0 := Lib.hid (show CS w0 I fb tb sb f t s w w from ⟨hS, hI2, hE, Below.refl _ _⟩)
  have HB := Lib.hid (show ∀ W, Same I w0 W → W.heap[b]? = some (.cells #[u, y, .string x] 102 (0, 0)) from fun W h => (h b hI).trans hb)
  have HK := Lib.hid (fun W (hE : W.heap[sb]? = some (.cells #[.string s] 9 (0, 0))) => skipping (kindOf_methodWithQualifiers ⟨b, 0, none⟩) W hE)
  have HF := Lib.hid (fun q W => fn_other (fb := fb) (tb := tb) 100 q (fun W => ta_methodWithQualifiers ⟨q, 0, none⟩ W) W)
  have hnn := fun W => nil_nn W
  have hny := fun W => nil_yes W
  have hno := fun T q W => nil_no T ⟨q, 0, none⟩ W
  have hne := fun T q W => nil_ne T ⟨q, 0, none⟩ W
  obtain ⟨Tuu, guu, quu, rfl, muu, cuu, hcuu⟩ := hu
  have CUu := Lib.hid hcuu
  have Ru := Lib.hid ru
  clear hcuu ru
  obtain ⟨Tuy, guy, quy, rfl, muy, cuy, hcuy⟩ := hy
  have CUy := Lib.hid hcuy
  have Ry := Lib.hid ry
  have Hy := Lib.hid (hit_quals f s ry)
  clear hcuy ry
  clear hS hI2 hE hb hI
  go_enter Tryz.func145, Tryz.ntmps145
  go_wp2_with fail
  refine (HK.out _ C0.out.env.s).mono ?_
  rintro e w1 ⟨rfl, b1⟩
  have C1 := Lib.hid (C0.out.on b1)
  clear b1 HK
  cases hh : ((⟨#[77, 101, 116, 104, 111, 100, 87, 105, 116, 104, 81, 117, 97, 108, 105, 102, 105, 101, 114, 115]⟩ : ByteArray).toList == s.toList) with
  | true =>
    have HH := Lib.hid hh
    clear hh
    go_wp2_with fail
    go_ret
    exact ⟨C1.out.below, _, rfl, .inl ⟨hit_skip HH.out, rfl⟩⟩
  | false =>
    have HH := Lib.hid hh
    clear hh
    obtain ⟨c0, c1, c2⟩ := cells3 (HB.out w1 C1.out.same)
    go_wp2_with fail
    refine (CUu.out _ C1.out.same C1.out.lt C1.out.env).mono ?_
    rintro e w2 ⟨b2, r, rfl, hr⟩
    have C2 := Lib.hid (C1.out.on b2)
    clear b2 c0 c1 c2
    obtain ⟨c0, c1, c2⟩ := cells3 (HB.out w2 C2.out.same)
    rcases hr with ⟨h0, rfl⟩ | ⟨h0, hr⟩
    · have Hu := Lib.hid h0
      clear h0
      go_wp2_with fail
      refine (CUy.out _ C2.out.same C2.out.lt C2.out.env).mono ?_
      rintro e w3 ⟨b3, rfl⟩
      have C3 := Lib.hid (C2.out.on b3)
      clear b3 c0 c1 c2
      obtain ⟨c0, c1, c2⟩ := cells3 (HB.out w3 C3.out.same)
      go_wp2_with fail
      refine (HF.out b _).mono ?_
      rintro e w4 ⟨rfl, b4⟩
      have C4 := Lib.hid (C3.out.on b4)
      clear b4
      go_wp2_with fail
      go_ret
      exact ⟨C4.out.below, _, rfl, .inl ⟨by rw [hit_node (by kernel_rfl) HH.out]; simp [hitL, Hu.out, Hy.out], rfl⟩⟩
    · have Hu := Lib.hid h0
      obtain ⟨Tu, qu, rfl, _⟩ := Rep.form hr
      have Ku := Lib.hid (RepN.from hr C1.out.below.size)
      clear h0 hr
      go_wp2_with fail
      refine (CUy.out _ C2.out.same C2.out.lt C2.out.env).mono ?_
      rintro e w3 ⟨b3, rfl⟩
      have C3 := Lib.hid (C2.out.on b3)
      have Ku := Lib.hid (Ku.out.on b3)
      clear b3 c0 c1 c2
      obtain ⟨c0, c1, c2⟩ := cells3 (HB.out w3 C3.out.same)
      go_wp2_with fail
      refine (HF.out w3.heap.size _).mono ?_
      rintro e w4 ⟨rfl, b4⟩
      have R := Lib.hid (RepN.on (madeN_methodWithQualifiers (w := w3) C3.out.below.size x Ku.out (C3.out.oldQ Ry.out)) b4)
      have CC := Lib.hid ((C3.out.on (box_below _ _)).on b4)
      clear b4
      go_wp2_with fail
      go_ret
      exact ⟨CC.out.below, _, rfl, .inr ⟨by rw [hit_node (by kernel_rfl) HH.out]; simp [hitL, Hu.out, Hy.out], by rw [ren_node (by kernel_rfl) HH.out]; simp only [renL]; rw [ren_same f t s q Hy.out]; exact R.out⟩⟩

set_option maxRecDepth 100000 in
set_option maxHeartbeats 2000000 in
theorem copy_arrayType {fb tb sb : Nat} {f t s : ByteArray} {w0 : World} {I : Nat → Prop} (b : Nat) {a : Tree} {u : Value} {c : Tree} {y : Value} (hI : I b) (hb : w0.heap[b]? = some (.cells #[u, y] 110 (0, 0))) (ru : Rep w0 I a u) (hu : CopyOK fb tb sb f t s w0 I u (CopyR I f t s a)) (ry : Rep w0 I c y) (hy : CopyOK fb tb sb f t s w0 I y (CopyR I f t s c)) : CopyOK fb tb sb f t s w0 I (.iface 108 (.pointer (some ⟨b, 0, none⟩))) (CopyR I f t s (.node ⟨#[65, 114, 114, 97, 121, 84, 121, 112, 101]⟩ ⟨#[]⟩ 0 [a, c])) := by
  refine ⟨_, _, b, rfl, fun W => mc_arrayType ⟨b, 0, none⟩ W, fun _ _ => by kernel_rfl, ?_⟩
  intro w hS hI2 hE
  have C0 := Lib.hid (show CS w0 I fb tb sb f t s w w from ⟨hS, hI2, hE, Below.refl _ _⟩)
  have HB := Lib.hid (show ∀ W, Same I w0 W → W.heap[b]? = some (.cells #[u, y] 110 (0, 0)) from fun W h => (h b hI).trans hb)
  have HK := Lib.hid (fun W (hE : W.heap[sb]? = some (.cells #[.string s] 9 (0, 0))) => skipping (kindOf_arrayType ⟨b, 0, none⟩) W hE)
  have HF := Lib.hid (fun q W => fn_other (fb := fb) (tb := tb) 108 q (fun W => ta_arrayType ⟨q, 0, none⟩ W) W)
  have hnn := fun W => nil_nn W
  have hny := fun W => nil_yes W
  have hno := fun T q W => nil_no T ⟨q, 0, none⟩ W
  have hne := fun T q W => nil_ne T ⟨q, 0, none⟩ W
  obtain ⟨Tuu, guu, quu, rfl, muu, cuu, hcuu⟩ := hu
  have CUu := Lib.hid hcuu
  have Ru := Lib.hid ru
  clear hcuu ru
  obtain ⟨Tuy, guy, quy, rfl, muy, cuy, hcuy⟩ := hy
  have CUy := Lib.hid hcuy
  have Ry := Lib.hid ry
  clear hcuy ry
  clear hS hI2 hE hb hI
  go_enter Tryz.func148, Tryz.ntmps148
  go_wp2_with fail
  refine (HK.out _ C0.out.env.s).mono ?_
  rintro e w1 ⟨rfl, b1⟩
  have C1 := Lib.hid (C0.out.on b1)
  clear b1 HK
  cases hh : ((⟨#[65, 114, 114, 97, 121, 84, 121, 112, 101]⟩ : ByteArray).toList == s.toList) with
  | true =>
    have HH := Lib.hid hh
    clear hh
    go_wp2_with fail
    go_ret
    exact ⟨C1.out.below, _, rfl, .inl ⟨hit_skip HH.out, rfl⟩⟩
  | false =>
    have HH := Lib.hid hh
    clear hh
    obtain ⟨c0, c1⟩ := cells2 (HB.out w1 C1.out.same)
    go_wp2_with fail
    refine (CUu.out _ C1.out.same C1.out.lt C1.out.env).mono ?_
    rintro e w2 ⟨b2, r, rfl, hr⟩
    have C2 := Lib.hid (C1.out.on b2)
    clear b2 c0 c1
    obtain ⟨c0, c1⟩ := cells2 (HB.out w2 C2.out.same)
    rcases hr with ⟨h0, rfl⟩ | ⟨h0, hr⟩
    · have Hu := Lib.hid h0
      clear h0
      go_wp2_with fail
      refine (CUy.out _ C2.out.same C2.out.lt C2.out.env).mono ?_
      rintro e w3 ⟨b3, r, rfl, hr⟩
      have C3 := Lib.hid (C2.out.on b3)
      clear b3 c0 c1
      obtain ⟨c0, c1⟩ := cells2 (HB.out w3 C3.out.same)
      rcases hr with ⟨h0, rfl⟩ | ⟨h0, hr⟩
      · have Hy := Lib.hid h0
        clear h0
        go_wp2_with fail
        refine (HF.out b _).mono ?_
        rintro e w4 ⟨rfl, b4⟩
        have C4 := Lib.hid (C3.out.on b4)
        clear b4
        go_wp2_with fail
        go_ret
        exact ⟨C4.out.below, _, rfl, .inl ⟨by rw [hit_node (by kernel_rfl) HH.out]; simp [hitL, Hu.out, Hy.out], rfl⟩⟩
      · have Hy := Lib.hid h0
        obtain ⟨Ty, qy, rfl, _⟩ := Rep.form hr
        have Ky := Lib.hid (RepN.from hr C2.out.below.size)
        clear h0 hr
        go_wp2_with fail
        refine (HF.out w3.heap.size _).mono ?_
        rintro e w4 ⟨rfl, b4⟩
        have R := Lib.hid (RepN.on (madeN_arrayType (w := w3) C3.out.below.size (C3.out.keep Hu.out Ru.out) Ky.out) b4)
        have CC := Lib.hid ((C3.out.on (box_below _ _)).on b4)
        clear b4
        go_wp2_with fail
        go_ret
        exact ⟨CC.out.below, _, rfl, .inr ⟨by rw [hit_node (by kernel_rfl) HH.out]; simp [hitL, Hu.out, Hy.out], by rw [ren_node (by kernel_rfl) HH.out]; simp only [renL]; exact R.out⟩⟩
    · have Hu := Lib.hid h0
      obtain ⟨Tu, qu, rfl, _⟩ := Rep.form hr
      have Ku := Lib.hid (RepN.from hr C1.out.below.size)
      clear h0 hr
      go_wp2_with fail
      refine (CUy.out _ C2.out.same C2.out.lt C2.out.env).mono ?_
      rintro e w3 ⟨b3, r, rfl, hr⟩
      have C3 := Lib.hid (C2.out.on b3)
      have Ku := Lib.hid (Ku.out.on b3)
      clear b3 c0 c1
      obtain ⟨c0, c1⟩ := cells2 (HB.out w3 C3.out.same)
      rcases hr with ⟨h0, rfl⟩ | ⟨h0, hr⟩
      · have Hy := Lib.hid h0
        clear h0
        go_wp2_with fail
        refine (HF.out w3.heap.size _).mono ?_
        rintro e w4 ⟨rfl, b4⟩
        have R := Lib.hid (RepN.on (madeN_arrayType (w := w3) C3.out.below.size Ku.out (C3.out.keep Hy.out Ry.out)) b4)
        have CC := Lib.hid ((C3.out.on (box_below _ _)).on b4)
        clear b4
        go_wp2_with fail
        go_ret
        exact ⟨CC.out.below, _, rfl, .inr ⟨by rw [hit_node (by kernel_rfl) HH.out]; simp [hitL, Hu.out, Hy.out], by rw [ren_node (by kernel_rfl) HH.out]; simp only [renL]; exact R.out⟩⟩
      · have Hy := Lib.hid h0
        obtain ⟨Ty, qy, rfl, _⟩ := Rep.form hr
        have Ky := Lib.hid (RepN.from hr C2.out.below.size)
        clear h0 hr
        go_wp2_with fail
        refine (HF.out w3.heap.size _).mono ?_
        rintro e w4 ⟨rfl, b4⟩
        have R := Lib.hid (RepN.on (madeN_arrayType (w := w3) C3.out.below.size Ku.out Ky.out) b4)
        have CC := Lib.hid ((C3.out.on (box_below _ _)).on b4)
        clear b4
        go_wp2_with fail
        go_ret
        exact ⟨CC.out.below, _, rfl, .inr ⟨by rw [hit_node (by kernel_rfl) HH.out]; simp [hitL, Hu.out, Hy.out], by rw [ren_node (by kernel_rfl) HH.out]; simp only [renL]; exact R.out⟩⟩

set_option maxRecDepth 100000 in
set_option maxHeartbeats 2000000 in
theorem copy_vectorType {fb tb sb : Nat} {f t s : ByteArray} {w0 : World} {I : Nat → Prop} (b : Nat) {a : Tree} {u : Value} {c : Tree} {y : Value} (hI : I b) (hb : w0.heap[b]? = some (.cells #[u, y] 113 (0, 0))) (ru : Rep w0 I a u) (hu : CopyOK fb tb sb f t s w0 I u (CopyR I f t s a)) (ry : Rep w0 I c y) (hy : CopyOK fb tb sb f t s w0 I y (CopyR I f t s c)) : CopyOK fb tb sb f t s w0 I (.iface 111 (.pointer (some ⟨b, 0, none⟩))) (CopyR I f t s (.node ⟨#[86, 101, 99, 116, 111, 114, 84, 121, 112, 101]⟩ ⟨#[]⟩ 0 [a, c])) := by
  refine ⟨_, _, b, rfl, fun W => mc_vectorType ⟨b, 0, none⟩ W, fun _ _ => by kernel_rfl, ?_⟩
  intro w hS hI2 hE
  have C0 := Lib.hid (show CS w0 I fb tb sb f t s w w from ⟨hS, hI2, hE, Below.refl _ _⟩)
  have HB := Lib.hid (show ∀ W, Same I w0 W → W.heap[b]? = some (.cells #[u, y] 113 (0, 0)) from fun W h => (h b hI).trans hb)
  have HK := Lib.hid (fun W (hE : W.heap[sb]? = some (.cells #[.string s] 9 (0, 0))) => skipping (kindOf_vectorType ⟨b, 0, none⟩) W hE)
  have HF := Lib.hid (fun q W => fn_other (fb := fb) (tb := tb) 111 q (fun W => ta_vectorType ⟨q, 0, none⟩ W) W)
  have hnn := fun W => nil_nn W
  have hny := fun W => nil_yes W
  have hno := fun T q W => nil_no T ⟨q, 0, none⟩ W
  have hne := fun T q W => nil_ne T ⟨q, 0, none⟩ W
  obtain ⟨Tuu, guu, quu, rfl, muu, cuu, hcuu⟩ := hu
  have CUu := Lib.hid hcuu
  have Ru := Lib.hid ru
  clear hcuu ru
  obtain ⟨Tuy, guy, quy, rfl, muy, cuy, hcuy⟩ := hy
  have CUy := Lib.hid hcuy
  have Ry := Lib.hid ry
  clear hcuy ry
  clear hS hI2 hE hb hI
  go_enter Tryz.func151, Tryz.ntmps151
  go_wp2_with fail
  refine (HK.out _ C0.out.env.s).mono ?_
  rintro e w1 ⟨rfl, b1⟩
  have C1 := Lib.hid (C0.out.on b1)
  clear b1 HK
  cases hh : ((⟨#[86, 101, 99, 116, 111, 114, 84, 121, 112, 101]⟩ : ByteArray).toList == s.toList) with
  | true =>
    have HH := Lib.hid hh
    clear hh
    go_wp2_with fail
    go_ret
    exact ⟨C1.out.below, _, rfl, .inl ⟨hit_skip HH.out, rfl⟩⟩
  | false =>
    have HH := Lib.hid hh
    clear hh
    obtain ⟨c0, c1⟩ := cells2 (HB.out w1 C1.out.same)
    go_wp2_with fail
    refine (CUu.out _ C1.out.same C1.out.lt C1.out.env).mono ?_
    rintro e w2 ⟨b2, r, rfl, hr⟩
    have C2 := Lib.hid (C1.out.on b2)
    clear b2 c0 c1
    obtain ⟨c0, c1⟩ := cells2 (HB.out w2 C2.out.same)
    rcases hr with ⟨h0, rfl⟩ | ⟨h0, hr⟩
    · have Hu := Lib.hid h0
      clear h0
      go_wp2_with fail
      refine (CUy.out _ C2.out.same C2.out.lt C2.out.env).mono ?_
      rintro e w3 ⟨b3, r, rfl, hr⟩
      have C3 := Lib.hid (C2.out.on b3)
      clear b3 c0 c1
      obtain ⟨c0, c1⟩ := cells2 (HB.out w3 C3.out.same)
      rcases hr with ⟨h0, rfl⟩ | ⟨h0, hr⟩
      · have Hy := Lib.hid h0
        clear h0
        go_wp2_with fail
        refine (HF.out b _).mono ?_
        rintro e w4 ⟨rfl, b4⟩
        have C4 := Lib.hid (C3.out.on b4)
        clear b4
        go_wp2_with fail
        go_ret
        exact ⟨C4.out.below, _, rfl, .inl ⟨by rw [hit_node (by kernel_rfl) HH.out]; simp [hitL, Hu.out, Hy.out], rfl⟩⟩
      · have Hy := Lib.hid h0
        obtain ⟨Ty, qy, rfl, _⟩ := Rep.form hr
        have Ky := Lib.hid (RepN.from hr C2.out.below.size)
        clear h0 hr
        go_wp2_with fail
        refine (HF.out w3.heap.size _).mono ?_
        rintro e w4 ⟨rfl, b4⟩
        have R := Lib.hid (RepN.on (madeN_vectorType (w := w3) C3.out.below.size (C3.out.keep Hu.out Ru.out) Ky.out) b4)
        have CC := Lib.hid ((C3.out.on (box_below _ _)).on b4)
        clear b4
        go_wp2_with fail
        go_ret
        exact ⟨CC.out.below, _, rfl, .inr ⟨by rw [hit_node (by kernel_rfl) HH.out]; simp [hitL, Hu.out, Hy.out], by rw [ren_node (by kernel_rfl) HH.out]; simp only [renL]; exact R.out⟩⟩
    · have Hu := Lib.hid h0
      obtain ⟨Tu, qu, rfl, _⟩ := Rep.form hr
      have Ku := Lib.hid (RepN.from hr C1.out.below.size)
      clear h0 hr
      go_wp2_with fail
      refine (CUy.out _ C2.out.same C2.out.lt C2.out.env).mono ?_
      rintro e w3 ⟨b3, r, rfl, hr⟩
      have C3 := Lib.hid (C2.out.on b3)
      have Ku := Lib.hid (Ku.out.on b3)
      clear b3 c0 c1
      obtain ⟨c0, c1⟩ := cells2 (HB.out w3 C3.out.same)
      rcases hr with ⟨h0, rfl⟩ | ⟨h0, hr⟩
      · have Hy := Lib.hid h0
        clear h0
        go_wp2_with fail
        refine (HF.out w3.heap.size _).mono ?_
        rintro e w4 ⟨rfl, b4⟩
        have R := Lib.hid (RepN.on (madeN_vectorType (w := w3) C3.out.below.size Ku.out (C3.out.keep Hy.out Ry.out)) b4)
        have CC := Lib.hid ((C3.out.on (box_below _ _)).on b4)
        clear b4
        go_wp2_with fail
        go_ret
        exact ⟨CC.out.below, _, rfl, .inr ⟨by rw [hit_node (by kernel_rfl) HH.out]; simp [hitL, Hu.out, Hy.out], by rw [ren_node (by kernel_rfl) HH.out]; simp only [renL]; exact R.out⟩⟩
      · have Hy := Lib.hid h0
        obtain ⟨Ty, qy, rfl, _⟩ := Rep.form hr
        have Ky := Lib.hid (RepN.from hr C2.out.below.size)
        clear h0 hr
        go_wp2_with fail
        refine (HF.out w3.heap.size _).mono ?_
        rintro e w4 ⟨rfl, b4⟩
        have R := Lib.hid (RepN.on (madeN_vectorType (w := w3) C3.out.below.size Ku.out Ky.out) b4)
        have CC := Lib.hid ((C3.out.on (box_below _ _)).on b4)
        clear b4
        go_wp2_with fail
        go_ret
        exact ⟨CC.out.below, _, rfl, .inr ⟨by rw [hit_node (by kernel_rfl) HH.out]; simp [hitL, Hu.out, Hy.out], by rw [ren_node (by kernel_rfl) HH.out]; simp only [renL]; exact R.out⟩⟩

set_option maxRecDepth 100000 in
set_option maxHeartbeats 2000000 in
theorem copy_ptrMem {fb tb sb : Nat} {f t s : ByteArray} {w0 : World} {I : Nat → Prop} (b : Nat) {a : Tree} {u : Value} {c : Tree} {y : Value} (hI : I b) (hb : w0.heap[b]? = some (.cells #[u, y] 116 (0, 0))) (ru : Rep w0 I a u) (hu : CopyOK fb tb sb f t s w0 I u (CopyR I f t s a)) (ry : Rep w0 I c y) (hy : CopyOK fb tb sb f t s w0 I y (CopyR I f t s c)) : CopyOK fb tb sb f t s w0 I (.iface 114 (.pointer (some ⟨b, 0, none⟩))) (CopyR I f t s (.node ⟨#[80, 116, 114, 77, 101, 109]⟩ ⟨#[]⟩ 0 [a, c])) := by
  refine ⟨_, _, b, rfl, fun W => mc_ptrMem ⟨b, 0, none⟩ W, fun _ _ => by kernel_rfl, ?_⟩
  intro w hS hI2 hE
  have C0 := Lib.hid (show CS w0 I fb tb sb f t s w w from ⟨hS, hI2, hE, Below.refl _ _⟩)
  have HB := Lib.hid (show ∀ W, Same I w0 W → W.heap[b]? = some (.cells #[u, y] 116 (0, 0)) from fun W h => (h b hI).trans hb)
  have HK := Lib.hid (fun W (hE : W.heap[sb]? = some (.cells #[.string s] 9 (0, 0))) => skipping (kindOf_ptrMem ⟨b, 0, none⟩) W hE)
  have HF := Lib.hid (fun q W => fn_other (fb := fb) (tb := tb) 114 q (fun W => ta_ptrMem ⟨q, 0, none⟩ W) W)
  have hnn := fun W => nil_nn W
  have hny := fun W => nil_yes W
  have hno := fun T q W => nil_no T ⟨q, 0, none⟩ W
  have hne := fun T q W => nil_ne T ⟨q, 0, none⟩ W
  obtain ⟨Tuu, guu, quu, rfl, muu, cuu, hcuu⟩ := hu
  have CUu := Lib.hid hcuu
  have Ru := Lib.hid ru
  clear hcuu ru
  obtain ⟨Tuy, guy, quy, rfl, muy, cuy, hcuy⟩ := hy
  have CUy := Lib.hid hcuy
  have Ry := Lib.hid ry
  clear hcuy ry
  clear hS hI2 hE hb hI
  go_enter Tryz.func154, Tryz.ntmps154
  go_wp2_with fail
  refine (HK.out _ C0.out.env.s).mono ?_
  rintro e w1 ⟨rfl, b1⟩
  have C1 := Lib.hid (C0.out.on b1)
  clear b1 HK
  cases hh : ((⟨#[80, 116, 114, 77, 101, 109]⟩ : ByteArray).toList == s.toList) with
  | true =>
    have HH := Lib.hid hh
    clear hh
    go_wp2_with fail
    go_ret
    exact ⟨C1.out.below, _, rfl, .inl ⟨hit_skip HH.out, rfl⟩⟩
  | false =>
    have HH := Lib.hid hh
    clear hh
    obtain ⟨c0, c1⟩ := cells2 (HB.out w1 C1.out.same)
    go_wp2_with fail
    refine (CUu.out _ C1.out.same C1.out.lt C1.out.env).mono ?_
    rintro e w2 ⟨b2, r, rfl, hr⟩
    have C2 := Lib.hid (C1.out.on b2)
    clear b2 c0 c1
    obtain ⟨c0, c1⟩ := cells2 (HB.out w2 C2.out.same)
    rcases hr with ⟨h0, rfl⟩ | ⟨h0, hr⟩
    · have Hu := Lib.hid h0
      clear h0
      go_wp2_with fail
      refine (CUy.out _ C2.out.same C2.out.lt C2.out.env).mono ?_
      rintro e w3 ⟨b3, r, rfl, hr⟩
      have C3 := Lib.hid (C2.out.on b3)
      clear b3 c0 c1
      obtain ⟨c0, c1⟩ := cells2 (HB.out w3 C3.out.same)
      rcases hr with ⟨h0, rfl⟩ | ⟨h0, hr⟩
      · have Hy := Lib.hid h0
        clear h0
        go_wp2_with fail
        refine (HF.out b _).mono ?_
        rintro e w4 ⟨rfl, b4⟩
        have C4 := Lib.hid (C3.out.on b4)
        clear b4
        go_wp2_with fail
        go_ret
        exact ⟨C4.out.below, _, rfl, .inl ⟨by rw [hit_node (by kernel_rfl) HH.out]; simp [hitL, Hu.out, Hy.out], rfl⟩⟩
      · have Hy := Lib.hid h0
        obtain ⟨Ty, qy, rfl, _⟩ := Rep.form hr
        have Ky := Lib.hid (RepN.from hr C2.out.below.size)
        clear h0 hr
        go_wp2_with fail
        refine (HF.out w3.heap.size _).mono ?_
        rintro e w4 ⟨rfl, b4⟩
        have R := Lib.hid (RepN.on (madeN_ptrMem (w := w3) C3.out.below.size (C3.out.keep Hu.out Ru.out) Ky.out) b4)
        have CC := Lib.hid ((C3.out.on (box_below _ _)).on b4)
        clear b4
        go_wp2_with fail
        go_ret
        exact ⟨CC.out.below, _, rfl, .inr ⟨by rw [hit_node (by kernel_rfl) HH.out]; simp [hitL, Hu.out, Hy.out], by rw [ren_node (by kernel_rfl) HH.out]; simp only [renL]; exact R.out⟩⟩
    · have Hu := Lib.hid h0
      obtain ⟨Tu, qu, rfl, _⟩ := Rep.form hr
      have Ku := Lib.hid (RepN.from hr C1.out.below.size)
      clear h0 hr
      go_wp2_with fail
      refine (CUy.out _ C2.out.same C2.out.lt C2.out.env).mono ?_
      rintro e w3 ⟨b3, r, rfl, hr⟩
      have C3 := Lib.hid (C2.out.on b3)
      have Ku := Lib.hid (Ku.out.on b3)
      clear b3 c0 c1
      obtain ⟨c0, c1⟩ := cells2 (HB.out w3 C3.out.same)
      rcases hr with ⟨h0, rfl⟩ | ⟨h0, hr⟩
      · have Hy := Lib.hid h0
        clear h0
        go_wp2_with fail
        refine (HF.out w3.heap.size _).mono ?_
        rintro e w4 ⟨rfl, b4⟩
        have R := Lib.hid (RepN.on (madeN_ptrMem (w := w3) C3.out.below.size Ku.out (C3.out.keep Hy.out Ry.out)) b4)
        have CC := Lib.hid ((C3.out.on (box_below _ _)).on b4)
        clear b4
        go_wp2_with fail
        go_ret
        exact ⟨CC.out.below, _, rfl, .inr ⟨by rw [hit_node (by kernel_rfl) HH.out]; simp [hitL, Hu.out, Hy.out], by rw [ren_node (by kernel_rfl) HH.out]; simp only [renL]; exact R.out⟩⟩
      · have Hy := Lib.hid h0
        obtain ⟨Ty, qy, rfl, _⟩ := Rep.form hr
        have Ky := Lib.hid (RepN.from hr C2.out.below.size)
        clear h0 hr
        go_wp2_with fail
        refine (HF.out w3.heap.size _).mono ?_
        rintro e w4 ⟨rfl, b4⟩
        have R := Lib.hid (RepN.on (madeN_ptrMem (w := w3) C3.out.below.size Ku.out Ky.out) b4)
        have CC := Lib.hid ((C3.out.on (box_below _ _)).on b4)
        clear b4
        go_wp2_with fail
        go_ret
        exact ⟨CC.out.below, _, rfl, .inr ⟨by rw [hit_node (by kernel_rfl) HH.out]; simp [hitL, Hu.out, Hy.out], by rw [ren_node (by kernel_rfl) HH.out]; simp only [renL]; exact R.out⟩⟩

set_option maxRecDepth 100000 in
set_option maxHeartbeats 2000000 in
theorem copy_taggedName {fb tb sb : Nat} {f t s : ByteArray} {w0 : World} {I : Nat → Prop} (b : Nat) {a : Tree} {u : Value} {c : Tree} {y : Value} (hI : I b) (hb : w0.heap[b]? = some (.cells #[u, y] 144 (0, 0))) (ru : Rep w0 I a u) (hu : CopyOK fb tb sb f t s w0 I u (CopyR I f t s a)) (ry : Rep w0 I c y) (hy : CopyOK fb tb sb f t s w0 I y (CopyR I f t s c)) : CopyOK fb tb sb f t s w0 I (.iface 142 (.pointer (some ⟨b, 0, none⟩))) (CopyR I f t s (.node ⟨#[84, 97, 103, 103, 101, 100, 78, 97, 109, 101]⟩ ⟨#[]⟩ 0 [a, c])) := by
  refine ⟨_, _, b, rfl, fun W => mc_taggedName ⟨b, 0, none⟩ W, fun _ _ => by kernel_rfl, ?_⟩
  intro w hS hI2 hE
  have C0 := Lib.hid (show CS w0 I fb tb sb f t s w w from ⟨hS, hI2, hE, Below.refl _ _⟩)
  have HB := Lib.hid (show ∀ W, Same I w0 W → W.heap[b]? = some (.cells #[u, y] 144 (0, 0)) from fun W h => (h b hI).trans hb)
  have HK := Lib.hid (fun W (hE : W.heap[sb]? = some (.cells #[.string s] 9 (0, 0))) => skipping (kindOf_taggedName ⟨b, 0, none⟩) W hE)
  have HF := Lib.hid (fun q W => fn_other (fb := fb) (tb := tb) 142 q (fun W => ta_taggedName ⟨q, 0, none⟩ W) W)
  have hnn := fun W => nil_nn W
  have hny := fun W => nil_yes W
  have hno := fun T q W => nil_no T ⟨q, 0, none⟩ W
  have hne := fun T q W => nil_ne T ⟨q, 0, none⟩ W
  obtain ⟨Tuu, guu, quu, rfl, muu, cuu, hcuu⟩ := hu
  have CUu := Lib.hid hcuu
  have Ru := Lib.hid ru
  clear hcuu ru
  obtain ⟨Tuy, guy, quy, rfl, muy, cuy, hcuy⟩ := hy
  have CUy := Lib.hid hcuy
  have Ry := Lib.hid ry
  clear hcuy ry
  clear hS hI2 hE hb hI
  go_enter Tryz.func181, Tryz.ntmps181
  go_wp2_with fail
  refine (HK.out _ C0.out.env.s).mono ?_
  rintro e w1 ⟨rfl, b1⟩
  have C1 := Lib.hid (C0.out.on b1)
  clear b1 HK
  cases hh : ((⟨#[84, 97, 103, 103, 101, 100, 78, 97, 109, 101]⟩ : ByteArray).toList == s.toList) with
  | true =>
    have HH := Lib.hid hh
    clear hh
    go_wp2_with fail
    go_ret
    exact ⟨C1.out.below, _, rfl, .inl ⟨hit_skip HH.out, rfl⟩⟩
  | false =>
    have HH := Lib.hid hh
    clear hh
    obtain ⟨c0, c1⟩ := cells2 (HB.out w1 C1.out.same)
    go_wp2_with fail
    refine (CUu.out _ C1.out.same C1.out.lt C1.out.env).mono ?_
    rintro e w2 ⟨b2, r, rfl, hr⟩
    have C2 := Lib.hid (C1.out.on b2)
    clear b2 c0 c1
    obtain ⟨c0, c1⟩ := cells2 (HB.out w2 C2.out.same)
    rcases hr with ⟨h0, rfl⟩ | ⟨h0, hr⟩
    · have Hu := Lib.hid h0
      clear h0
      go_wp2_with fail
      refine (CUy.out _ C2.out.same C2.out.lt C2.out.env).mono ?_
      rintro e w3 ⟨b3, r, rfl, hr⟩
      have C3 := Lib.hid (C2.out.on b3)
      clear b3 c0 c1
      obtain ⟨c0, c1⟩ := cells2 (HB.out w3 C3.out.same)
      rcases hr with ⟨h0, rfl⟩ | ⟨h0, hr⟩
      · have Hy := Lib.hid h0
        clear h0
        go_wp2_with fail
        refine (HF.out b _).mono ?_
        rintro e w4 ⟨rfl, b4⟩
        have C4 := Lib.hid (C3.out.on b4)
        clear b4
        go_wp2_with fail
        go_ret
        exact ⟨C4.out.below, _, rfl, .inl ⟨by rw [hit_node (by kernel_rfl) HH.out]; simp [hitL, Hu.out, Hy.out], rfl⟩⟩
      · have Hy := Lib.hid h0
        obtain ⟨Ty, qy, rfl, _⟩ := Rep.form hr
        have Ky := Lib.hid (RepN.from hr C2.out.below.size)
        clear h0 hr
        go_wp2_with fail
        refine (HF.out w3.heap.size _).mono ?_
        rintro e w4 ⟨rfl, b4⟩
        have R := Lib.hid (RepN.on (madeN_taggedName (w := w3) C3.out.below.size (C3.out.keep Hu.out Ru.out) Ky.out) b4)
        have CC := Lib.hid ((C3.out.on (box_below _ _)).on b4)
        clear b4
        go_wp2_with fail
        go_ret
        exact ⟨CC.out.below, _, rfl, .inr ⟨by rw [hit_node (by kernel_rfl) HH.out]; simp [hitL, Hu.out, Hy.out], by rw [ren_node (by kernel_rfl) HH.out]; simp only [renL]; exact R.out⟩⟩
    · have Hu := Lib.hid h0
      obtain ⟨Tu, qu, rfl, _⟩ := Rep.form hr
      have Ku := Lib.hid (RepN.from hr C1.out.below.size)
      clear h0 hr
      go_wp2_with fail
      refine (CUy.out _ C2.out.same C2.out.lt C2.out.env).mono ?_
      rintro e w3 ⟨b3, r, rfl, hr⟩
      have C3 := Lib.hid (C2.out.on b3)
      have Ku := Lib.hid (Ku.out.on b3)
      clear b3 c0 c1
      obtain ⟨c0, c1⟩ := cells2 (HB.out w3 C3.out.same)
      rcases hr with ⟨h0, rfl⟩ | ⟨h0, hr⟩
      · have Hy := Lib.hid h0
        clear h0
        go_wp2_with fail
        refine (HF.out w3.heap.size _).mono ?_
        rintro e w4 ⟨rfl, b4⟩
        have R := Lib.hid (RepN.on (madeN_taggedName (w := w3) C3.out.below.size Ku.out (C3.out.keep Hy.out Ry.out)) b4)
        have CC := Lib.hid ((C3.out.on (box_below _ _)).on b4)
        clear b4
        go_wp2_with fail
        go_ret
        exact ⟨CC.out.below, _, rfl, .inr ⟨by rw [hit_node (by kernel_rfl) HH.out]; simp [hitL, Hu.out, Hy.out], by rw [ren_node (by kernel_rfl) HH.out]; simp only [renL]; exact R.out⟩⟩
      · have Hy := Lib.hid h0
        obtain ⟨Ty, qy, rfl, _⟩ := Rep.form hr
        have Ky := Lib.hid (RepN.from hr C2.out.below.size)
        clear h0 hr
        go_wp2_with fail
        refine (HF.out w3.heap.size _).mono ?_
        rintro e w4 ⟨rfl, b4⟩
        have R := Lib.hid (RepN.on (madeN_taggedName (w := w3) C3.out.below.size Ku.out Ky.out) b4)
        have CC := Lib.hid ((C3.out.on (box_below _ _)).on b4)
        clear b4
        go_wp2_with fail
        go_ret
        exact ⟨CC.out.below, _, rfl, .inr ⟨by rw [hit_node (by kernel_rfl) HH.out]; simp [hitL, Hu.out, Hy.out], by rw [ren_node (by kernel_rfl) HH.out]; simp only [renL]; exact R.out⟩⟩

end Go.Proofs.YtnhccgbkalpcnaaGreatDoor
