/- Copy: elements of one kid or none. -/
import Derived.Test.YtnhccgbkalpcnaaGreatDoorCopyD
namespace Go.Proofs.YtnhccgbkalpcnaaGreatDoor
open Go.RowKit

set_option maxRecDepth 100000 in
set_option maxHeartbeats 2000000 in
theorem copy_name {fb tb sb : Nat} {f t s : ByteArray} {w0 : World} {I : Nat → Prop} (x : ByteArray) (b : Nat) (hI : I b) (hb : w0.heap[b]? = some (.cells #[.string x] 48 (0, 0))) : CopyOK fb tb sb f t s w0 I (.iface 45 (.pointer (some ⟨b, 0, none⟩))) (CopyR I f t s (.node ⟨#[78, 97, 109, 101]⟩ x 0 [])) := by
  refine ⟨_, _, b, rfl, fun W => mc_name ⟨b, 0, none⟩ W, fun _ _ => by kernel_rfl, ?_⟩
  intro w hS hI2 hE
  have C0 := Lib.hid (show CS w0 I fb tb sb f t s w w from ⟨hS, hI2, hE, Below.refl _ _⟩)
  have HB := Lib.hid (show ∀ W, Same I w0 W → W.heap[b]? = some (.cells #[.string x] 48 (0, 0)) from fun W h => (h b hI).trans hb)
  have HK := Lib.hid (fun W (hE : W.heap[sb]? = some (.cells #[.string s] 9 (0, 0))) => skipping (kindOf_name ⟨b, 0, none⟩) W hE)
  clear hS hI2 hE hb hI
  go_enter Tryz.func94, Tryz.ntmps94
  go_wp2_with fail
  refine (HK.out _ C0.out.env.s).mono ?_
  rintro e w1 ⟨rfl, b1⟩
  have C1 := Lib.hid (C0.out.on b1)
  clear b1 HK
  cases hh : ((⟨#[78, 97, 109, 101]⟩ : ByteArray).toList == s.toList) with
  | true =>
    have HH := Lib.hid hh
    clear hh
    go_wp2_with fail
    go_ret
    exact ⟨C1.out.below, _, rfl, .inl ⟨hit_skip HH.out, rfl⟩⟩
  | false =>
    have HH := Lib.hid hh
    have FN := Lib.hid (fn_name (I := I) (HB.out w1 C1.out.same) C1.out.env)
    clear hh
    go_wp2_with fail
    refine (FN.out).mono ?_
    rintro e w2 ⟨b2, v, rfl, hr⟩
    have C2 := Lib.hid (C1.out.on b2)
    clear b2 FN
    rcases hr with ⟨h0, rfl⟩ | ⟨h0, q, rfl, hr⟩
    · have H0 := Lib.hid h0
      clear h0
      go_wp2_with fail
      go_ret
      exact ⟨C2.out.below, _, rfl, .inl ⟨by rw [hitT, HH.out, H0.out]; simp [hitL], rfl⟩⟩
    · have H0 := Lib.hid h0
      have HR := Lib.hid (RepN.from hr C1.out.below.size)
      clear h0 hr
      go_wp2_with fail
      go_ret
      exact ⟨C2.out.below, _, rfl, .inr ⟨by rw [hitT, HH.out, H0.out, show ((⟨#[78, 97, 109, 101]⟩ : ByteArray).toList == [78, 97, 109, 101]) = true by kernel_rfl]; simp, by rw [renT, HH.out, H0.out, show ((⟨#[78, 97, 109, 101]⟩ : ByteArray).toList == [78, 97, 109, 101]) = true by kernel_rfl]; simpa using HR.out⟩⟩

set_option maxRecDepth 100000 in
set_option maxHeartbeats 2000000 in
theorem copy_builtinType {fb tb sb : Nat} {f t s : ByteArray} {w0 : World} {I : Nat → Prop} (x : ByteArray) (b : Nat) (hI : I b) (hb : w0.heap[b]? = some (.cells #[.string x] 54 (0, 0))) : CopyOK fb tb sb f t s w0 I (.iface 53 (.pointer (some ⟨b, 0, none⟩))) (CopyR I f t s (.node ⟨#[66, 117, 105, 108, 116, 105, 110, 84, 121, 112, 101]⟩ x 0 [])) := by
  refine ⟨_, _, b, rfl, fun W => mc_builtinType ⟨b, 0, none⟩ W, fun _ _ => by kernel_rfl, ?_⟩
  intro w hS hI2 hE
  have C0 := Lib.hid (show CS w0 I fb tb sb f t s w w from ⟨hS, hI2, hE, Below.refl _ _⟩)
  have HB := Lib.hid (show ∀ W, Same I w0 W → W.heap[b]? = some (.cells #[.string x] 54 (0, 0)) from fun W h => (h b hI).trans hb)
  have HK := Lib.hid (fun W (hE : W.heap[sb]? = some (.cells #[.string s] 9 (0, 0))) => skipping (kindOf_builtinType ⟨b, 0, none⟩) W hE)
  have HF := Lib.hid (fun q W => fn_other (fb := fb) (tb := tb) 53 q (fun W => ta_builtinType ⟨q, 0, none⟩ W) W)
  have hnn := fun W => nil_nn W
  have hny := fun W => nil_yes W
  have hno := fun T q W => nil_no T ⟨q, 0, none⟩ W
  have hne := fun T q W => nil_ne T ⟨q, 0, none⟩ W
  clear hS hI2 hE hb hI
  go_enter Tryz.func97, Tryz.ntmps97
  go_wp2_with fail
  refine (HK.out _ C0.out.env.s).mono ?_
  rintro e w1 ⟨rfl, b1⟩
  have C1 := Lib.hid (C0.out.on b1)
  clear b1 HK
  cases hh : ((⟨#[66, 117, 105, 108, 116, 105, 110, 84, 121, 112, 101]⟩ : ByteArray).toList == s.toList) with
  | true =>
    have HH := Lib.hid hh
    clear hh
    go_wp2_with fail
    go_ret
    exact ⟨C1.out.below, _, rfl, .inl ⟨hit_skip HH.out, rfl⟩⟩
  | false =>
    have HH := Lib.hid hh
    clear hh
    obtain c0 := cells1 (HB.out w1 C1.out.same)
    go_wp2_with fail
    refine (HF.out b _).mono ?_
    rintro e w2 ⟨rfl, b2⟩
    have C2 := Lib.hid (C1.out.on b2)
    clear b2
    go_wp2_with fail
    go_ret
    exact ⟨C2.out.below, _, rfl, .inl ⟨by rw [hit_node (by kernel_rfl) HH.out]; simp [hitL], rfl⟩⟩

set_option maxRecDepth 100000 in
set_option maxHeartbeats 2000000 in
theorem copy_operator {fb tb sb : Nat} {f t s : ByteArray} {w0 : World} {I : Nat → Prop} (x : ByteArray) (b : Nat) (hI : I b) (hb : w0.heap[b]? = some (.cells #[.string x, .int .i64 0] 58 (0, 0))) : CopyOK fb tb sb f t s w0 I (.iface 55 (.pointer (some ⟨b, 0, none⟩))) (CopyR I f t s (.node ⟨#[79, 112, 101, 114, 97, 116, 111, 114]⟩ x 0 [])) := by
  refine ⟨_, _, b, rfl, fun W => mc_operator ⟨b, 0, none⟩ W, fun _ _ => by kernel_rfl, ?_⟩
  intro w hS hI2 hE
  have C0 := Lib.hid (show CS w0 I fb tb sb f t s w w from ⟨hS, hI2, hE, Below.refl _ _⟩)
  have HB := Lib.hid (show ∀ W, Same I w0 W → W.heap[b]? = some (.cells #[.string x, .int .i64 0] 58 (0, 0)) from fun W h => (h b hI).trans hb)
  have HK := Lib.hid (fun W (hE : W.heap[sb]? = some (.cells #[.string s] 9 (0, 0))) => skipping (kindOf_operator ⟨b, 0, none⟩) W hE)
  have HF := Lib.hid (fun q W => fn_other (fb := fb) (tb := tb) 55 q (fun W => ta_operator ⟨q, 0, none⟩ W) W)
  have hnn := fun W => nil_nn W
  have hny := fun W => nil_yes W
  have hno := fun T q W => nil_no T ⟨q, 0, none⟩ W
  have hne := fun T q W => nil_ne T ⟨q, 0, none⟩ W
  clear hS hI2 hE hb hI
  go_enter Tryz.func100, Tryz.ntmps100
  go_wp2_with fail
  refine (HK.out _ C0.out.env.s).mono ?_
  rintro e w1 ⟨rfl, b1⟩
  have C1 := Lib.hid (C0.out.on b1)
  clear b1 HK
  cases hh : ((⟨#[79, 112, 101, 114, 97, 116, 111, 114]⟩ : ByteArray).toList == s.toList) with
  | true =>
    have HH := Lib.hid hh
    clear hh
    go_wp2_with fail
    go_ret
    exact ⟨C1.out.below, _, rfl, .inl ⟨hit_skip HH.out, rfl⟩⟩
  | false =>
    have HH := Lib.hid hh
    clear hh
    obtain ⟨c0, c1⟩ := cells2 (HB.out w1 C1.out.same)
    go_wp2_with fail
    refine (HF.out b _).mono ?_
    rintro e w2 ⟨rfl, b2⟩
    have C2 := Lib.hid (C1.out.on b2)
    clear b2
    go_wp2_with fail
    go_ret
    exact ⟨C2.out.below, _, rfl, .inl ⟨by rw [hit_node (by kernel_rfl) HH.out]; simp [hitL], rfl⟩⟩

set_option maxRecDepth 100000 in
set_option maxHeartbeats 2000000 in
theorem copy_constructor {fb tb sb : Nat} {f t s : ByteArray} {w0 : World} {I : Nat → Prop} (b : Nat) {a : Tree} {u : Value} (hI : I b) (hb : w0.heap[b]? = some (.cells #[u, .nilIface] 62 (0, 0))) (ru : Rep w0 I a u) (hu : CopyOK fb tb sb f t s w0 I u (CopyR I f t s a)) : CopyOK fb tb sb f t s w0 I (.iface 59 (.pointer (some ⟨b, 0, none⟩))) (CopyR I f t s (.node ⟨#[67, 111, 110, 115, 116, 114, 117, 99, 116, 111, 114]⟩ ⟨#[]⟩ 0 [a])) := by
  refine ⟨_, _, b, rfl, fun W => mc_constructor ⟨b, 0, none⟩ W, fun _ _ => by kernel_rfl, ?_⟩
  intro w hS hI2 hE
  have C0 := Lib.hid (show CS w0 I fb tb sb f t s w w from ⟨hS, hI2, hE, Below.refl _ _⟩)
  have HB := Lib.hid (show ∀ W, Same I w0 W → W.heap[b]? = some (.cells #[u, .nilIface] 62 (0, 0)) from fun W h => (h b hI).trans hb)
  have HK := Lib.hid (fun W (hE : W.heap[sb]? = some (.cells #[.string s] 9 (0, 0))) => skipping (kindOf_constructor ⟨b, 0, none⟩) W hE)
  have HF := Lib.hid (fun q W => fn_other (fb := fb) (tb := tb) 59 q (fun W => ta_constructor ⟨q, 0, none⟩ W) W)
  have hnn := fun W => nil_nn W
  have hny := fun W => nil_yes W
  have hno := fun T q W => nil_no T ⟨q, 0, none⟩ W
  have hne := fun T q W => nil_ne T ⟨q, 0, none⟩ W
  obtain ⟨Tuu, guu, quu, rfl, muu, cuu, hcuu⟩ := hu
  have CUu := Lib.hid hcuu
  have Ru := Lib.hid ru
  clear hcuu ru
  clear hS hI2 hE hb hI
  go_enter Tryz.func103, Tryz.ntmps103
  go_wp2_with fail
  refine (HK.out _ C0.out.env.s).mono ?_
  rintro e w1 ⟨rfl, b1⟩
  have C1 := Lib.hid (C0.out.on b1)
  clear b1 HK
  cases hh : ((⟨#[67, 111, 110, 115, 116, 114, 117, 99, 116, 111, 114]⟩ : ByteArray).toList == s.toList) with
  | true =>
    have HH := Lib.hid hh
    clear hh
    go_wp2_with fail
    go_ret
    exact ⟨C1.out.below, _, rfl, .inl ⟨hit_skip HH.out, rfl⟩⟩
  | false =>
    have HH := Lib.hid hh
    clear hh
    obtain ⟨c0, c1⟩ := cells2 (HB.out w1 C1.out.same)
    go_wp2_with fail
    refine (CUu.out _ C1.out.same C1.out.lt C1.out.env).mono ?_
    rintro e w2 ⟨b2, r, rfl, hr⟩
    have C2 := Lib.hid (C1.out.on b2)
    clear b2 c0 c1
    obtain ⟨c0, c1⟩ := cells2 (HB.out w2 C2.out.same)
    rcases hr with ⟨h0, rfl⟩ | ⟨h0, hr⟩
    · have Hu := Lib.hid h0
      clear h0
      go_wp2_with fail
      refine (HF.out b _).mono ?_
      rintro e w3 ⟨rfl, b3⟩
      have C3 := Lib.hid (C2.out.on b3)
      clear b3
      go_wp2_with fail
      go_ret
      exact ⟨C3.out.below, _, rfl, .inl ⟨by rw [hit_node (by kernel_rfl) HH.out]; simp [hitL, Hu.out], rfl⟩⟩
    · have Hu := Lib.hid h0
      obtain ⟨Tu, qu, rfl, _⟩ := Rep.form hr
      have Ku := Lib.hid (RepN.from hr C1.out.below.size)
      clear h0 hr
      go_wp2_with fail
      refine (HF.out w2.heap.size _).mono ?_
      rintro e w3 ⟨rfl, b3⟩
      have R := Lib.hid (RepN.on (madeN_constructor (w := w2) C2.out.below.size Ku.out) b3)
      have CC := Lib.hid ((C2.out.on (box_below _ _)).on b3)
      clear b3
      go_wp2_with fail
      go_ret
      exact ⟨CC.out.below, _, rfl, .inr ⟨by rw [hit_node (by kernel_rfl) HH.out]; simp [hitL, Hu.out], by rw [ren_node (by kernel_rfl) HH.out]; simp only [renL]; exact R.out⟩⟩

set_option maxRecDepth 100000 in
set_option maxHeartbeats 2000000 in
theorem copy_destructor {fb tb sb : Nat} {f t s : ByteArray} {w0 : World} {I : Nat → Prop} (b : Nat) {a : Tree} {u : Value} (hI : I b) (hb : w0.heap[b]? = some (.cells #[u] 65 (0, 0))) (ru : Rep w0 I a u) (hu : CopyOK fb tb sb f t s w0 I u (CopyR I f t s a)) : CopyOK fb tb sb f t s w0 I (.iface 63 (.pointer (some ⟨b, 0, none⟩))) (CopyR I f t s (.node ⟨#[68, 101, 115, 116, 114, 117, 99, 116, 111, 114]⟩ ⟨#[]⟩ 0 [a])) := by
  refine ⟨_, _, b, rfl, fun W => mc_destructor ⟨b, 0, none⟩ W, fun _ _ => by kernel_rfl, ?_⟩
  intro w hS hI2 hE
  have C0 := Lib.hid (show CS w0 I fb tb sb f t s w w from ⟨hS, hI2, hE, Below.refl _ _⟩)
  have HB := Lib.hid (show ∀ W, Same I w0 W → W.heap[b]? = some (.cells #[u] 65 (0, 0)) from fun W h => (h b hI).trans hb)
  have HK := Lib.hid (fun W (hE : W.heap[sb]? = some (.cells #[.string s] 9 (0, 0))) => skipping (kindOf_destructor ⟨b, 0, none⟩) W hE)
  have HF := Lib.hid (fun q W => fn_other (fb := fb) (tb := tb) 63 q (fun W => ta_destructor ⟨q, 0, none⟩ W) W)
  have hnn := fun W => nil_nn W
  have hny := fun W => nil_yes W
  have hno := fun T q W => nil_no T ⟨q, 0, none⟩ W
  have hne := fun T q W => nil_ne T ⟨q, 0, none⟩ W
  obtain ⟨Tuu, guu, quu, rfl, muu, cuu, hcuu⟩ := hu
  have CUu := Lib.hid hcuu
  have Ru := Lib.hid ru
  clear hcuu ru
  clear hS hI2 hE hb hI
  go_enter Tryz.func106, Tryz.ntmps106
  go_wp2_with fail
  refine (HK.out _ C0.out.env.s).mono ?_
  rintro e w1 ⟨rfl, b1⟩
  have C1 := Lib.hid (C0.out.on b1)
  clear b1 HK
  cases hh : ((⟨#[68, 101, 115, 116, 114, 117, 99, 116, 111, 114]⟩ : ByteArray).toList == s.toList) with
  | true =>
    have HH := Lib.hid hh
    clear hh
    go_wp2_with fail
    go_ret
    exact ⟨C1.out.below, _, rfl, .inl ⟨hit_skip HH.out, rfl⟩⟩
  | false =>
    have HH := Lib.hid hh
    clear hh
    obtain c0 := cells1 (HB.out w1 C1.out.same)
    go_wp2_with fail
    refine (CUu.out _ C1.out.same C1.out.lt C1.out.env).mono ?_
    rintro e w2 ⟨b2, r, rfl, hr⟩
    have C2 := Lib.hid (C1.out.on b2)
    clear b2 c0
    obtain c0 := cells1 (HB.out w2 C2.out.same)
    rcases hr with ⟨h0, rfl⟩ | ⟨h0, hr⟩
    · have Hu := Lib.hid h0
      clear h0
      go_wp2_with fail
      refine (HF.out b _).mono ?_
      rintro e w3 ⟨rfl, b3⟩
      have C3 := Lib.hid (C2.out.on b3)
      clear b3
      go_wp2_with fail
      go_ret
      exact ⟨C3.out.below, _, rfl, .inl ⟨by rw [hit_node (by kernel_rfl) HH.out]; simp [hitL, Hu.out], rfl⟩⟩
    · have Hu := Lib.hid h0
      obtain ⟨Tu, qu, rfl, _⟩ := Rep.form hr
      have Ku := Lib.hid (RepN.from hr C1.out.below.size)
      clear h0 hr
      go_wp2_with fail
      refine (HF.out w2.heap.size _).mono ?_
      rintro e w3 ⟨rfl, b3⟩
      have R := Lib.hid (RepN.on (madeN_destructor (w := w2) C2.out.below.size Ku.out) b3)
      have CC := Lib.hid ((C2.out.on (box_below _ _)).on b3)
      clear b3
      go_wp2_with fail
      go_ret
      exact ⟨CC.out.below, _, rfl, .inr ⟨by rw [hit_node (by kernel_rfl) HH.out]; simp [hitL, Hu.out], by rw [ren_node (by kernel_rfl) HH.out]; simp only [renL]; exact R.out⟩⟩

set_option maxRecDepth 100000 in
set_option maxHeartbeats 2000000 in
theorem copy_pointerType {fb tb sb : Nat} {f t s : ByteArray} {w0 : World} {I : Nat → Prop} (b : Nat) {a : Tree} {u : Value} (hI : I b) (hb : w0.heap[b]? = some (.cells #[u] 82 (0, 0))) (ru : Rep w0 I a u) (hu : CopyOK fb tb sb f t s w0 I u (CopyR I f t s a)) : CopyOK fb tb sb f t s w0 I (.iface 80 (.pointer (some ⟨b, 0, none⟩))) (CopyR I f t s (.node ⟨#[80, 111, 105, 110, 116, 101, 114, 84, 121, 112, 101]⟩ ⟨#[]⟩ 0 [a])) := by
  refine ⟨_, _, b, rfl, fun W => mc_pointerType ⟨b, 0, none⟩ W, fun _ _ => by kernel_rfl, ?_⟩
  intro w hS hI2 hE
  have C0 := Lib.hid (show CS w0 I fb tb sb f t s w w from ⟨hS, hI2, hE, Below.refl _ _⟩)
  have HB := Lib.hid (show ∀ W, Same I w0 W → W.heap[b]? = some (.cells #[u] 82 (0, 0)) from fun W h => (h b hI).trans hb)
  have HK := Lib.hid (fun W (hE : W.heap[sb]? = some (.cells #[.string s] 9 (0, 0))) => skipping (kindOf_pointerType ⟨b, 0, none⟩) W hE)
  have HF := Lib.hid (fun q W => fn_other (fb := fb) (tb := tb) 80 q (fun W => ta_pointerType ⟨q, 0, none⟩ W) W)
  have hnn := fun W => nil_nn W
  have hny := fun W => nil_yes W
  have hno := fun T q W => nil_no T ⟨q, 0, none⟩ W
  have hne := fun T q W => nil_ne T ⟨q, 0, none⟩ W
  obtain ⟨Tuu, guu, quu, rfl, muu, cuu, hcuu⟩ := hu
  have CUu := Lib.hid hcuu
  have Ru := Lib.hid ru
  clear hcuu ru
  clear hS hI2 hE hb hI
  go_enter Tryz.func121, Tryz.ntmps121
  go_wp2_with fail
  refine (HK.out _ C0.out.env.s).mono ?_
  rintro e w1 ⟨rfl, b1⟩
  have C1 := Lib.hid (C0.out.on b1)
  clear b1 HK
  cases hh : ((⟨#[80, 111, 105, 110, 116, 101, 114, 84, 121, 112, 101]⟩ : ByteArray).toList == s.toList) with
  | true =>
    have HH := Lib.hid hh
    clear hh
    go_wp2_with fail
    go_ret
    exact ⟨C1.out.below, _, rfl, .inl ⟨hit_skip HH.out, rfl⟩⟩
  | false =>
    have HH := Lib.hid hh
    clear hh
    obtain c0 := cells1 (HB.out w1 C1.out.same)
    go_wp2_with fail
    refine (CUu.out _ C1.out.same C1.out.lt C1.out.env).mono ?_
    rintro e w2 ⟨b2, r, rfl, hr⟩
    have C2 := Lib.hid (C1.out.on b2)
    clear b2 c0
    obtain c0 := cells1 (HB.out w2 C2.out.same)
    rcases hr with ⟨h0, rfl⟩ | ⟨h0, hr⟩
    · have Hu := Lib.hid h0
      clear h0
      go_wp2_with fail
      refine (HF.out b _).mono ?_
      rintro e w3 ⟨rfl, b3⟩
      have C3 := Lib.hid (C2.out.on b3)
      clear b3
      go_wp2_with fail
      go_ret
      exact ⟨C3.out.below, _, rfl, .inl ⟨by rw [hit_node (by kernel_rfl) HH.out]; simp [hitL, Hu.out], rfl⟩⟩
    · have Hu := Lib.hid h0
      obtain ⟨Tu, qu, rfl, _⟩ := Rep.form hr
      have Ku := Lib.hid (RepN.from hr C1.out.below.size)
      clear h0 hr
      go_wp2_with fail
      refine (HF.out w2.heap.size _).mono ?_
      rintro e w3 ⟨rfl, b3⟩
      have R := Lib.hid (RepN.on (madeN_pointerType (w := w2) C2.out.below.size Ku.out) b3)
      have CC := Lib.hid ((C2.out.on (box_below _ _)).on b3)
      clear b3
      go_wp2_with fail
      go_ret
      exact ⟨CC.out.below, _, rfl, .inr ⟨by rw [hit_node (by kernel_rfl) HH.out]; simp [hitL, Hu.out], by rw [ren_node (by kernel_rfl) HH.out]; simp only [renL]; exact R.out⟩⟩

set_option maxRecDepth 100000 in
set_option maxHeartbeats 2000000 in
theorem copy_referenceType {fb tb sb : Nat} {f t s : ByteArray} {w0 : World} {I : Nat → Prop} (b : Nat) {a : Tree} {u : Value} (hI : I b) (hb : w0.heap[b]? = some (.cells #[u] 84 (0, 0))) (ru : Rep w0 I a u) (hu : CopyOK fb tb sb f t s w0 I u (CopyR I f t s a)) : CopyOK fb tb sb f t s w0 I (.iface 83 (.pointer (some ⟨b, 0, none⟩))) (CopyR I f t s (.node ⟨#[82, 101, 102, 101, 114, 101, 110, 99, 101, 84, 121, 112, 101]⟩ ⟨#[]⟩ 0 [a])) := by
  refine ⟨_, _, b, rfl, fun W => mc_referenceType ⟨b, 0, none⟩ W, fun _ _ => by kernel_rfl, ?_⟩
  intro w hS hI2 hE
  have C0 := Lib.hid (show CS w0 I fb tb sb f t s w w from ⟨hS, hI2, hE, Below.refl _ _⟩)
  have HB := Lib.hid (show ∀ W, Same I w0 W → W.heap[b]? = some (.cells #[u] 84 (0, 0)) from fun W h => (h b hI).trans hb)
  have HK := Lib.hid (fun W (hE : W.heap[sb]? = some (.cells #[.string s] 9 (0, 0))) => skipping (kindOf_referenceType ⟨b, 0, none⟩) W hE)
  have HF := Lib.hid (fun q W => fn_other (fb := fb) (tb := tb) 83 q (fun W => ta_referenceType ⟨q, 0, none⟩ W) W)
  have hnn := fun W => nil_nn W
  have hny := fun W => nil_yes W
  have hno := fun T q W => nil_no T ⟨q, 0, none⟩ W
  have hne := fun T q W => nil_ne T ⟨q, 0, none⟩ W
  obtain ⟨Tuu, guu, quu, rfl, muu, cuu, hcuu⟩ := hu
  have CUu := Lib.hid hcuu
  have Ru := Lib.hid ru
  clear hcuu ru
  clear hS hI2 hE hb hI
  go_enter Tryz.func124, Tryz.ntmps124
  go_wp2_with fail
  refine (HK.out _ C0.out.env.s).mono ?_
  rintro e w1 ⟨rfl, b1⟩
  have C1 := Lib.hid (C0.out.on b1)
  clear b1 HK
  cases hh : ((⟨#[82, 101, 102, 101, 114, 101, 110, 99, 101, 84, 121, 112, 101]⟩ : ByteArray).toList == s.toList) with
  | true =>
    have HH := Lib.hid hh
    clear hh
    go_wp2_with fail
    go_ret
    exact ⟨C1.out.below, _, rfl, .inl ⟨hit_skip HH.out, rfl⟩⟩
  | false =>
    have HH := Lib.hid hh
    clear hh
    obtain c0 := cells1 (HB.out w1 C1.out.same)
    go_wp2_with fail
    refine (CUu.out _ C1.out.same C1.out.lt C1.out.env).mono ?_
    rintro e w2 ⟨b2, r, rfl, hr⟩
    have C2 := Lib.hid (C1.out.on b2)
    clear b2 c0
    obtain c0 := cells1 (HB.out w2 C2.out.same)
    rcases hr with ⟨h0, rfl⟩ | ⟨h0, hr⟩
    · have Hu := Lib.hid h0
      clear h0
      go_wp2_with fail
      refine (HF.out b _).mono ?_
      rintro e w3 ⟨rfl, b3⟩
      have C3 := Lib.hid (C2.out.on b3)
      clear b3
      go_wp2_with fail
      go_ret
      exact ⟨C3.out.below, _, rfl, .inl ⟨by rw [hit_node (by kernel_rfl) HH.out]; simp [hitL, Hu.out], rfl⟩⟩
    · have Hu := Lib.hid h0
      obtain ⟨Tu, qu, rfl, _⟩ := Rep.form hr
      have Ku := Lib.hid (RepN.from hr C1.out.below.size)
      clear h0 hr
      go_wp2_with fail
      refine (HF.out w2.heap.size _).mono ?_
      rintro e w3 ⟨rfl, b3⟩
      have R := Lib.hid (RepN.on (madeN_referenceType (w := w2) C2.out.below.size Ku.out) b3)
      have CC := Lib.hid ((C2.out.on (box_below _ _)).on b3)
      clear b3
      go_wp2_with fail
      go_ret
      exact ⟨CC.out.below, _, rfl, .inr ⟨by rw [hit_node (by kernel_rfl) HH.out]; simp [hitL, Hu.out], by rw [ren_node (by kernel_rfl) HH.out]; simp only [renL]; exact R.out⟩⟩

set_option maxRecDepth 100000 in
set_option maxHeartbeats 2000000 in
theorem copy_rvalueReferenceType {fb tb sb : Nat} {f t s : ByteArray} {w0 : World} {I : Nat → Prop} (b : Nat) {a : Tree} {u : Value} (hI : I b) (hb : w0.heap[b]? = some (.cells #[u] 86 (0, 0))) (ru : Rep w0 I a u) (hu : CopyOK fb tb sb f t s w0 I u (CopyR I f t s a)) : CopyOK fb tb sb f t s w0 I (.iface 85 (.pointer (some ⟨b, 0, none⟩))) (CopyR I f t s (.node ⟨#[82, 118, 97, 108, 117, 101, 82, 101, 102, 101, 114, 101, 110, 99, 101, 84, 121, 112, 101]⟩ ⟨#[]⟩ 0 [a])) := by
  refine ⟨_, _, b, rfl, fun W => mc_rvalueReferenceType ⟨b, 0, none⟩ W, fun _ _ => by kernel_rfl, ?_⟩
  intro w hS hI2 hE
  have C0 := Lib.hid (show CS w0 I fb tb sb f t s w w from ⟨hS, hI2, hE, Below.refl _ _⟩)
  have HB := Lib.hid (show ∀ W, Same I w0 W → W.heap[b]? = some (.cells #[u] 86 (0, 0)) from fun W h => (h b hI).trans hb)
  have HK := Lib.hid (fun W (hE : W.heap[sb]? = some (.cells #[.string s] 9 (0, 0))) => skipping (kindOf_rvalueReferenceType ⟨b, 0, none⟩) W hE)
  have HF := Lib.hid (fun q W => fn_other (fb := fb) (tb := tb) 85 q (fun W => ta_rvalueReferenceType ⟨q, 0, none⟩ W) W)
  have hnn := fun W => nil_nn W
  have hny := fun W => nil_yes W
  have hno := fun T q W => nil_no T ⟨q, 0, none⟩ W
  have hne := fun T q W => nil_ne T ⟨q, 0, none⟩ W
  obtain ⟨Tuu, guu, quu, rfl, muu, cuu, hcuu⟩ := hu
  have CUu := Lib.hid hcuu
  have Ru := Lib.hid ru
  clear hcuu ru
  clear hS hI2 hE hb hI
  go_enter Tryz.func127, Tryz.ntmps127
  go_wp2_with fail
  refine (HK.out _ C0.out.env.s).mono ?_
  rintro e w1 ⟨rfl, b1⟩
  have C1 := Lib.hid (C0.out.on b1)
  clear b1 HK
  cases hh : ((⟨#[82, 118, 97, 108, 117, 101, 82, 101, 102, 101, 114, 101, 110, 99, 101, 84, 121, 112, 101]⟩ : ByteArray).toList == s.toList) with
  | true =>
    have HH := Lib.hid hh
    clear hh
    go_wp2_with fail
    go_ret
    exact ⟨C1.out.below, _, rfl, .inl ⟨hit_skip HH.out, rfl⟩⟩
  | false =>
    have HH := Lib.hid hh
    clear hh
    obtain c0 := cells1 (HB.out w1 C1.out.same)
    go_wp2_with fail
    refine (CUu.out _ C1.out.same C1.out.lt C1.out.env).mono ?_
    rintro e w2 ⟨b2, r, rfl, hr⟩
    have C2 := Lib.hid (C1.out.on b2)
    clear b2 c0
    obtain c0 := cells1 (HB.out w2 C2.out.same)
    rcases hr with ⟨h0, rfl⟩ | ⟨h0, hr⟩
    · have Hu := Lib.hid h0
      clear h0
      go_wp2_with fail
      refine (HF.out b _).mono ?_
      rintro e w3 ⟨rfl, b3⟩
      have C3 := Lib.hid (C2.out.on b3)
      clear b3
      go_wp2_with fail
      go_ret
      exact ⟨C3.out.below, _, rfl, .inl ⟨by rw [hit_node (by kernel_rfl) HH.out]; simp [hitL, Hu.out], rfl⟩⟩
    · have Hu := Lib.hid h0
      obtain ⟨Tu, qu, rfl, _⟩ := Rep.form hr
      have Ku := Lib.hid (RepN.from hr C1.out.below.size)
      clear h0 hr
      go_wp2_with fail
      refine (HF.out w2.heap.size _).mono ?_
      rintro e w3 ⟨rfl, b3⟩
      have R := Lib.hid (RepN.on (madeN_rvalueReferenceType (w := w2) C2.out.below.size Ku.out) b3)
      have CC := Lib.hid ((C2.out.on (box_below _ _)).on b3)
      clear b3
      go_wp2_with fail
      go_ret
      exact ⟨CC.out.below, _, rfl, .inr ⟨by rw [hit_node (by kernel_rfl) HH.out]; simp [hitL, Hu.out], by rw [ren_node (by kernel_rfl) HH.out]; simp only [renL]; exact R.out⟩⟩

set_option maxRecDepth 100000 in
set_option maxHeartbeats 2000000 in
theorem copy_complexType {fb tb sb : Nat} {f t s : ByteArray} {w0 : World} {I : Nat → Prop} (b : Nat) {a : Tree} {u : Value} (hI : I b) (hb : w0.heap[b]? = some (.cells #[u] 88 (0, 0))) (ru : Rep w0 I a u) (hu : CopyOK fb tb sb f t s w0 I u (CopyR I f t s a)) : CopyOK fb tb sb f t s w0 I (.iface 87 (.pointer (some ⟨b, 0, none⟩))) (CopyR I f t s (.node ⟨#[67, 111, 109, 112, 108, 101, 120, 84, 121, 112, 101]⟩ ⟨#[]⟩ 0 [a])) := by
  refine ⟨_, _, b, rfl, fun W => mc_complexType ⟨b, 0, none⟩ W, fun _ _ => by kernel_rfl, ?_⟩
  intro w hS hI2 hE
  have C0 := Lib.hid (show CS w0 I fb tb sb f t s w w from ⟨hS, hI2, hE, Below.refl _ _⟩)
  have HB := Lib.hid (show ∀ W, Same I w0 W → W.heap[b]? = some (.cells #[u] 88 (0, 0)) from fun W h => (h b hI).trans hb)
  have HK := Lib.hid (fun W (hE : W.heap[sb]? = some (.cells #[.string s] 9 (0, 0))) => skipping (kindOf_complexType ⟨b, 0, none⟩) W hE)
  have HF := Lib.hid (fun q W => fn_other (fb := fb) (tb := tb) 87 q (fun W => ta_complexType ⟨q, 0, none⟩ W) W)
  have hnn := fun W => nil_nn W
  have hny := fun W => nil_yes W
  have hno := fun T q W => nil_no T ⟨q, 0, none⟩ W
  have hne := fun T q W => nil_ne T ⟨q, 0, none⟩ W
  obtain ⟨Tuu, guu, quu, rfl, muu, cuu, hcuu⟩ := hu
  have CUu := Lib.hid hcuu
  have Ru := Lib.hid ru
  clear hcuu ru
  clear hS hI2 hE hb hI
  go_enter Tryz.func130, Tryz.ntmps130
  go_wp2_with fail
  refine (HK.out _ C0.out.env.s).mono ?_
  rintro e w1 ⟨rfl, b1⟩
  have C1 := Lib.hid (C0.out.on b1)
  clear b1 HK
  cases hh : ((⟨#[67, 111, 109, 112, 108, 101, 120, 84, 121, 112, 101]⟩ : ByteArray).toList == s.toList) with
  | true =>
    have HH := Lib.hid hh
    clear hh
    go_wp2_with fail
    go_ret
    exact ⟨C1.out.below, _, rfl, .inl ⟨hit_skip HH.out, rfl⟩⟩
  | false =>
    have HH := Lib.hid hh
    clear hh
    obtain c0 := cells1 (HB.out w1 C1.out.same)
    go_wp2_with fail
    refine (CUu.out _ C1.out.same C1.out.lt C1.out.env).mono ?_
    rintro e w2 ⟨b2, r, rfl, hr⟩
    have C2 := Lib.hid (C1.out.on b2)
    clear b2 c0
    obtain c0 := cells1 (HB.out w2 C2.out.same)
    rcases hr with ⟨h0, rfl⟩ | ⟨h0, hr⟩
    · have Hu := Lib.hid h0
      clear h0
      go_wp2_with fail
      refine (HF.out b _).mono ?_
      rintro e w3 ⟨rfl, b3⟩
      have C3 := Lib.hid (C2.out.on b3)
      clear b3
      go_wp2_with fail
      go_ret
      exact ⟨C3.out.below, _, rfl, .inl ⟨by rw [hit_node (by kernel_rfl) HH.out]; simp [hitL, Hu.out], rfl⟩⟩
    · have Hu := Lib.hid h0
      obtain ⟨Tu, qu, rfl, _⟩ := Rep.form hr
      have Ku := Lib.hid (RepN.from hr C1.out.below.size)
      clear h0 hr
      go_wp2_with fail
      refine (HF.out w2.heap.size _).mono ?_
      rintro e w3 ⟨rfl, b3⟩
      have R := Lib.hid (RepN.on (madeN_complexType (w := w2) C2.out.below.size Ku.out) b3)
      have CC := Lib.hid ((C2.out.on (box_below _ _)).on b3)
      clear b3
      go_wp2_with fail
      go_ret
      exact ⟨CC.out.below, _, rfl, .inr ⟨by rw [hit_node (by kernel_rfl) HH.out]; simp [hitL, Hu.out], by rw [ren_node (by kernel_rfl) HH.out]; simp only [renL]; exact R.out⟩⟩

set_option maxRecDepth 100000 in
set_option maxHeartbeats 2000000 in
theorem copy_imaginaryType {fb tb sb : Nat} {f t s : ByteArray} {w0 : World} {I : Nat → Prop} (b : Nat) {a : Tree} {u : Value} (hI : I b) (hb : w0.heap[b]? = some (.cells #[u] 90 (0, 0))) (ru : Rep w0 I a u) (hu : CopyOK fb tb sb f t s w0 I u (CopyR I f t s a)) : CopyOK fb tb sb f t s w0 I (.iface 89 (.pointer (some ⟨b, 0, none⟩))) (CopyR I f t s (.node ⟨#[73, 109, 97, 103, 105, 110, 97, 114, 121, 84, 121, 112, 101]⟩ ⟨#[]⟩ 0 [a])) := by
  refine ⟨_, _, b, rfl, fun W => mc_imaginaryType ⟨b, 0, none⟩ W, fun _ _ => by kernel_rfl, ?_⟩
  intro w hS hI2 hE
  have C0 := Lib.hid (show CS w0 I fb tb sb f t s w w from ⟨hS, hI2, hE, Below.refl _ _⟩)
  have HB := Lib.hid (show ∀ W, Same I w0 W → W.heap[b]? = some (.cells #[u] 90 (0, 0)) from fun W h => (h b hI).trans hb)
  have HK := Lib.hid (fun W (hE : W.heap[sb]? = some (.cells #[.string s] 9 (0, 0))) => skipping (kindOf_imaginaryType ⟨b, 0, none⟩) W hE)
  have HF := Lib.hid (fun q W => fn_other (fb := fb) (tb := tb) 89 q (fun W => ta_imaginaryType ⟨q, 0, none⟩ W) W)
  have hnn := fun W => nil_nn W
  have hny := fun W => nil_yes W
  have hno := fun T q W => nil_no T ⟨q, 0, none⟩ W
  have hne := fun T q W => nil_ne T ⟨q, 0, none⟩ W
  obtain ⟨Tuu, guu, quu, rfl, muu, cuu, hcuu⟩ := hu
  have CUu := Lib.hid hcuu
  have Ru := Lib.hid ru
  clear hcuu ru
  clear hS hI2 hE hb hI
  go_enter Tryz.func133, Tryz.ntmps133
  go_wp2_with fail
  refine (HK.out _ C0.out.env.s).mono ?_
  rintro e w1 ⟨rfl, b1⟩
  have C1 := Lib.hid (C0.out.on b1)
  clear b1 HK
  cases hh : ((⟨#[73, 109, 97, 103, 105, 110, 97, 114, 121, 84, 121, 112, 101]⟩ : ByteArray).toList == s.toList) with
  | true =>
    have HH := Lib.hid hh
    clear hh
    go_wp2_with fail
    go_ret
    exact ⟨C1.out.below, _, rfl, .inl ⟨hit_skip HH.out, rfl⟩⟩
  | false =>
    have HH := Lib.hid hh
    clear hh
    obtain c0 := cells1 (HB.out w1 C1.out.same)
    go_wp2_with fail
    refine (CUu.out _ C1.out.same C1.out.lt C1.out.env).mono ?_
    rintro e w2 ⟨b2, r, rfl, hr⟩
    have C2 := Lib.hid (C1.out.on b2)
    clear b2 c0
    obtain c0 := cells1 (HB.out w2 C2.out.same)
    rcases hr with ⟨h0, rfl⟩ | ⟨h0, hr⟩
    · have Hu := Lib.hid h0
      clear h0
      go_wp2_with fail
      refine (HF.out b _).mono ?_
      rintro e w3 ⟨rfl, b3⟩
      have C3 := Lib.hid (C2.out.on b3)
      clear b3
      go_wp2_with fail
      go_ret
      exact ⟨C3.out.below, _, rfl, .inl ⟨by rw [hit_node (by kernel_rfl) HH.out]; simp [hitL, Hu.out], rfl⟩⟩
    · have Hu := Lib.hid h0
      obtain ⟨Tu, qu, rfl, _⟩ := Rep.form hr
      have Ku := Lib.hid (RepN.from hr C1.out.below.size)
      clear h0 hr
      go_wp2_with fail
      refine (HF.out w2.heap.size _).mono ?_
      rintro e w3 ⟨rfl, b3⟩
      have R := Lib.hid (RepN.on (madeN_imaginaryType (w := w2) C2.out.below.size Ku.out) b3)
      have CC := Lib.hid ((C2.out.on (box_below _ _)).on b3)
      clear b3
      go_wp2_with fail
      go_ret
      exact ⟨CC.out.below, _, rfl, .inr ⟨by rw [hit_node (by kernel_rfl) HH.out]; simp [hitL, Hu.out], by rw [ren_node (by kernel_rfl) HH.out]; simp only [renL]; exact R.out⟩⟩

set_option maxRecDepth 100000 in
set_option maxHeartbeats 2000000 in
theorem copy_methodNil {fb tb sb : Nat} {f t s : ByteArray} {w0 : World} {I : Nat → Prop} (x : ByteArray) (b : Nat) {a : Tree} {u : Value} (hI : I b) (hb : w0.heap[b]? = some (.cells #[u, .nilIface, .string x] 102 (0, 0))) (ru : Rep w0 I a u) (hu : CopyOK fb tb sb f t s w0 I u (CopyR I f t s a)) : CopyOK fb tb sb f t s w0 I (.iface 100 (.pointer (some ⟨b, 0, none⟩))) (CopyR I f t s (.node ⟨#[77, 101, 116, 104, 111, 100, 87, 105, 116, 104, 81, 117, 97, 108, 105, 102, 105, 101, 114, 115]⟩ x 0 [a, nilT])) := by
  refine ⟨_, _, b, rfl, fun W => mc_methodWithQualifiers ⟨b, 0, none⟩ W, fun _ _ => by kernel_rfl, ?_⟩
  intro w hS hI2 hE
  have C0 := Lib.hid (show CS w0 I fb tb sb f t s w w from ⟨hS, hI2, hE, Below.refl _ _⟩)
  have HB := Lib.hid (show ∀ W, Same I w0 W → W.heap[b]? = some (.cells #[u, .nilIface, .string x] 102 (0, 0)) from fun W h => (h b hI).trans hb)
  have HK := Lib.hid (fun W (hE : W.heap[sb]? = some (.cells #[.string s] 9 (0, 0))) => skipping (kindOf_methodWithQualifiers ⟨b, 0, none⟩) W hE)
  have HF := Lib.hid (fun q W => fn_other (fb := fb) (tb := tb) 100 q (fun W => ta_methodWithQualifiers ⟨q, 0, none⟩ W) W)
  have hnn := fun W => nil_nn W
  have hny := fun W => nil_yes W
  have hno := fun T q W => nil_no T ⟨q, 0, none⟩ W
  have hne := fun T q W => nil_ne T ⟨q, 0, none⟩ W
  obtain ⟨Tuu, guu, quu, rfl, muu, cuu, hcuu⟩ := hu
  have CUu := Lib.hid hcuu
  have Ru := Lib.hid ru
  clear hcuu ru
  clear hS hI2 hE hb hI
  go_enter Tryz.func145, Tryz.ntmps145
  go_wp2_with fail
  refine (HK.out _ C0.out.env.s).mono ?_
  rintro e w1 ⟨rfl, b1⟩
  have C1 := Lib.hid (C0.out.on b1)
  clear b1 HK
  cases hh : ((⟨#[77, 101, 116, 104, 111, 100, 87, 105, 116, 104, 81, 117, 97, 108, 105, 102, 105, 101, 114, 115]⟩ : ByteArray).toList == s.toList) with
  | true =>
    have HH := Lib.hid hh
    clear hh
    go_wp2_with fail
    go_ret
    exact ⟨C1.out.below, _, rfl, .inl ⟨hit_skip HH.out, rfl⟩⟩
  | false =>
    have HH := Lib.hid hh
    clear hh
    obtain ⟨c0, c1, c2⟩ := cells3 (HB.out w1 C1.out.same)
    go_wp2_with fail
    refine (CUu.out _ C1.out.same C1.out.lt C1.out.env).mono ?_
    rintro e w2 ⟨b2, r, rfl, hr⟩
    have C2 := Lib.hid (C1.out.on b2)
    clear b2 c0 c1 c2
    obtain ⟨c0, c1, c2⟩ := cells3 (HB.out w2 C2.out.same)
    rcases hr with ⟨h0, rfl⟩ | ⟨h0, hr⟩
    · have Hu := Lib.hid h0
      clear h0
      go_wp2_with fail
      refine (HF.out b _).mono ?_
      rintro e w3 ⟨rfl, b3⟩
      have C3 := Lib.hid (C2.out.on b3)
      clear b3
      go_wp2_with fail
      go_ret
      exact ⟨C3.out.below, _, rfl, .inl ⟨by rw [hit_node (by kernel_rfl) HH.out]; simp [hitL, Hu.out, hit_nil f s], rfl⟩⟩
    · have Hu := Lib.hid h0
      obtain ⟨Tu, qu, rfl, _⟩ := Rep.form hr
      have Ku := Lib.hid (RepN.from hr C1.out.below.size)
      clear h0 hr
      go_wp2_with fail
      refine (HF.out w2.heap.size _).mono ?_
      rintro e w3 ⟨rfl, b3⟩
      have R := Lib.hid (RepN.on (madeN_methodNil (w := w2) C2.out.below.size x Ku.out) b3)
      have CC := Lib.hid ((C2.out.on (box_below _ _)).on b3)
      clear b3
      go_wp2_with fail
      go_ret
      exact ⟨CC.out.below, _, rfl, .inr ⟨by rw [hit_node (by kernel_rfl) HH.out]; simp [hitL, Hu.out, hit_nil f s], by rw [ren_node (by kernel_rfl) HH.out]; simp only [renL]; rw [ren_same f t s nilT (hit_nil f s)]; exact R.out⟩⟩

set_option maxRecDepth 100000 in
set_option maxHeartbeats 2000000 in
theorem copy_literal {fb tb sb : Nat} {f t s : ByteArray} {w0 : World} {I : Nat → Prop} (x : ByteArray) (n : Int) (hn : n = 0 ∨ n = 1) (b : Nat) {a : Tree} {u : Value} (hI : I b) (hb : w0.heap[b]? = some (.cells #[u, .string x, .bool (n == 1)] 128 (0, 0))) (ru : Rep w0 I a u) (hu : CopyOK fb tb sb f t s w0 I u (CopyR I f t s a)) : CopyOK fb tb sb f t s w0 I (.iface 126 (.pointer (some ⟨b, 0, none⟩))) (CopyR I f t s (.node ⟨#[76, 105, 116, 101, 114, 97, 108]⟩ x n [a])) := by
  refine ⟨_, _, b, rfl, fun W => mc_literal ⟨b, 0, none⟩ W, fun _ _ => by kernel_rfl, ?_⟩
  intro w hS hI2 hE
  have C0 := Lib.hid (show CS w0 I fb tb sb f t s w w from ⟨hS, hI2, hE, Below.refl _ _⟩)
  have HB := Lib.hid (show ∀ W, Same I w0 W → W.heap[b]? = some (.cells #[u, .string x, .bool (n == 1)] 128 (0, 0)) from fun W h => (h b hI).trans hb)
  have HK := Lib.hid (fun W (hE : W.heap[sb]? = some (.cells #[.string s] 9 (0, 0))) => skipping (kindOf_literal ⟨b, 0, none⟩) W hE)
  have HF := Lib.hid (fun q W => fn_other (fb := fb) (tb := tb) 126 q (fun W => ta_literal ⟨q, 0, none⟩ W) W)
  have hnn := fun W => nil_nn W
  have hny := fun W => nil_yes W
  have hno := fun T q W => nil_no T ⟨q, 0, none⟩ W
  have hne := fun T q W => nil_ne T ⟨q, 0, none⟩ W
  obtain ⟨Tuu, guu, quu, rfl, muu, cuu, hcuu⟩ := hu
  have CUu := Lib.hid hcuu
  have Ru := Lib.hid ru
  clear hcuu ru
  clear hS hI2 hE hb hI
  go_enter Tryz.func166, Tryz.ntmps166
  go_wp2_with fail
  refine (HK.out _ C0.out.env.s).mono ?_
  rintro e w1 ⟨rfl, b1⟩
  have C1 := Lib.hid (C0.out.on b1)
  clear b1 HK
  cases hh : ((⟨#[76, 105, 116, 101, 114, 97, 108]⟩ : ByteArray).toList == s.toList) with
  | true =>
    have HH := Lib.hid hh
    clear hh
    go_wp2_with fail
    go_ret
    exact ⟨C1.out.below, _, rfl, .inl ⟨hit_skip HH.out, rfl⟩⟩
  | false =>
    have HH := Lib.hid hh
    clear hh
    obtain ⟨c0, c1, c2⟩ := cells3 (HB.out w1 C1.out.same)
    go_wp2_with fail
    refine (CUu.out _ C1.out.same C1.out.lt C1.out.env).mono ?_
    rintro e w2 ⟨b2, r, rfl, hr⟩
    have C2 := Lib.hid (C1.out.on b2)
    clear b2 c0 c1 c2
    obtain ⟨c0, c1, c2⟩ := cells3 (HB.out w2 C2.out.same)
    rcases hr with ⟨h0, rfl⟩ | ⟨h0, hr⟩
    · have Hu := Lib.hid h0
      clear h0
      go_wp2_with fail
      refine (HF.out b _).mono ?_
      rintro e w3 ⟨rfl, b3⟩
      have C3 := Lib.hid (C2.out.on b3)
      clear b3
      go_wp2_with fail
      go_ret
      exact ⟨C3.out.below, _, rfl, .inl ⟨by rw [hit_node (by kernel_rfl) HH.out]; simp [hitL, Hu.out], rfl⟩⟩
    · have Hu := Lib.hid h0
      obtain ⟨Tu, qu, rfl, _⟩ := Rep.form hr
      have Ku := Lib.hid (RepN.from hr C1.out.below.size)
      clear h0 hr
      go_wp2_with fail
      go_region_with (fail)
      all_goals
        have Kd := Lib.hid (RepN.on Ku.out (Below.refl _ _).drew)
        have Cd := Lib.hid (C2.out.on (Below.refl _ _).drew)
        go_wp2_with fail
        refine (HF.out w2.heap.size _).mono ?_
        rintro e w3 ⟨rfl, b3⟩
        have R := Lib.hid (RepN.on (madeN_literal (w := w2.drew) Cd.out.below.size x n hn Kd.out) b3)
        have CC := Lib.hid ((Cd.out.on (box_below _ _)).on b3)
        clear b3
        go_wp2_with fail
        go_ret
        exact ⟨CC.out.below, _, rfl, .inr ⟨by rw [hit_node (by kernel_rfl) HH.out]; simp [hitL, Hu.out], by rw [ren_node (by kernel_rfl) HH.out]; simp only [renL]; exact R.out⟩⟩

set_option maxRecDepth 100000 in
set_option maxHeartbeats 2000000 in
theorem copy_unnamedType {fb tb sb : Nat} {f t s : ByteArray} {w0 : World} {I : Nat → Prop} (n : Int) (b : Nat) (hI : I b) (hb : w0.heap[b]? = some (.cells #[.int .i64 n] 141 (0, 0))) : CopyOK fb tb sb f t s w0 I (.iface 139 (.pointer (some ⟨b, 0, none⟩))) (CopyR I f t s (.node ⟨#[85, 110, 110, 97, 109, 101, 100, 84, 121, 112, 101]⟩ ⟨#[]⟩ n [])) := by
  refine ⟨_, _, b, rfl, fun W => mc_unnamedType ⟨b, 0, none⟩ W, fun _ _ => by kernel_rfl, ?_⟩
  intro w hS hI2 hE
  have C0 := Lib.hid (show CS w0 I fb tb sb f t s w w from ⟨hS, hI2, hE, Below.refl _ _⟩)
  have HB := Lib.hid (show ∀ W, Same I w0 W → W.heap[b]? = some (.cells #[.int .i64 n] 141 (0, 0)) from fun W h => (h b hI).trans hb)
  have HK := Lib.hid (fun W (hE : W.heap[sb]? = some (.cells #[.string s] 9 (0, 0))) => skipping (kindOf_unnamedType ⟨b, 0, none⟩) W hE)
  have HF := Lib.hid (fun q W => fn_other (fb := fb) (tb := tb) 139 q (fun W => ta_unnamedType ⟨q, 0, none⟩ W) W)
  have hnn := fun W => nil_nn W
  have hny := fun W => nil_yes W
  have hno := fun T q W => nil_no T ⟨q, 0, none⟩ W
  have hne := fun T q W => nil_ne T ⟨q, 0, none⟩ W
  clear hS hI2 hE hb hI
  go_enter Tryz.func178, Tryz.ntmps178
  go_wp2_with fail
  refine (HK.out _ C0.out.env.s).mono ?_
  rintro e w1 ⟨rfl, b1⟩
  have C1 := Lib.hid (C0.out.on b1)
  clear b1 HK
  cases hh : ((⟨#[85, 110, 110, 97, 109, 101, 100, 84, 121, 112, 101]⟩ : ByteArray).toList == s.toList) with
  | true =>
    have HH := Lib.hid hh
    clear hh
    go_wp2_with fail
    go_ret
    exact ⟨C1.out.below, _, rfl, .inl ⟨hit_skip HH.out, rfl⟩⟩
  | false =>
    have HH := Lib.hid hh
    clear hh
    obtain c0 := cells1 (HB.out w1 C1.out.same)
    go_wp2_with fail
    refine (HF.out b _).mono ?_
    rintro e w2 ⟨rfl, b2⟩
    have C2 := Lib.hid (C1.out.on b2)
    clear b2
    go_wp2_with fail
    go_ret
    exact ⟨C2.out.below, _, rfl, .inl ⟨by rw [hit_node (by kernel_rfl) HH.out]; simp [hitL], rfl⟩⟩

set_option maxRecDepth 100000 in
set_option maxHeartbeats 2000000 in
theorem copy_cast {fb tb sb : Nat} {f t s : ByteArray} {w0 : World} {I : Nat → Prop} (b : Nat) {a : Tree} {u : Value} (hI : I b) (hb : w0.heap[b]? = some (.cells #[u] 156 (0, 0))) (ru : Rep w0 I a u) (hu : CopyOK fb tb sb f t s w0 I u (CopyR I f t s a)) : CopyOK fb tb sb f t s w0 I (.iface 154 (.pointer (some ⟨b, 0, none⟩))) (CopyR I f t s (.node ⟨#[67, 97, 115, 116]⟩ ⟨#[]⟩ 0 [a])) := by
  refine ⟨_, _, b, rfl, fun W => mc_cast ⟨b, 0, none⟩ W, fun _ _ => by kernel_rfl, ?_⟩
  intro w hS hI2 hE
  have C0 := Lib.hid (show CS w0 I fb tb sb f t s w w from ⟨hS, hI2, hE, Below.refl _ _⟩)
  have HB := Lib.hid (show ∀ W, Same I w0 W → W.heap[b]? = some (.cells #[u] 156 (0, 0)) from fun W h => (h b hI).trans hb)
  have HK := Lib.hid (fun W (hE : W.heap[sb]? = some (.cells #[.string s] 9 (0, 0))) => skipping (kindOf_cast ⟨b, 0, none⟩) W hE)
  have HF := Lib.hid (fun q W => fn_other (fb := fb) (tb := tb) 154 q (fun W => ta_cast ⟨q, 0, none⟩ W) W)
  have hnn := fun W => nil_nn W
  have hny := fun W => nil_yes W
  have hno := fun T q W => nil_no T ⟨q, 0, none⟩ W
  have hne := fun T q W => nil_ne T ⟨q, 0, none⟩ W
  obtain ⟨Tuu, guu, quu, rfl, muu, cuu, hcuu⟩ := hu
  have CUu := Lib.hid hcuu
  have Ru := Lib.hid ru
  clear hcuu ru
  clear hS hI2 hE hb hI
  go_enter Tryz.func193, Tryz.ntmps193
  go_wp2_with fail
  refine (HK.out _ C0.out.env.s).mono ?_
  rintro e w1 ⟨rfl, b1⟩
  have C1 := Lib.hid (C0.out.on b1)
  clear b1 HK
  cases hh : ((⟨#[67, 97, 115, 116]⟩ : ByteArray).toList == s.toList) with
  | true =>
    have HH := Lib.hid hh
    clear hh
    go_wp2_with fail
    go_ret
    exact ⟨C1.out.below, _, rfl, .inl ⟨hit_skip HH.out, rfl⟩⟩
  | false =>
    have HH := Lib.hid hh
    clear hh
    obtain c0 := cells1 (HB.out w1 C1.out.same)
    go_wp2_with fail
    refine (CUu.out _ C1.out.same C1.out.lt C1.out.env).mono ?_
    rintro e w2 ⟨b2, r, rfl, hr⟩
    have C2 := Lib.hid (C1.out.on b2)
    clear b2 c0
    obtain c0 := cells1 (HB.out w2 C2.out.same)
    rcases hr with ⟨h0, rfl⟩ | ⟨h0, hr⟩
    · have Hu := Lib.hid h0
      clear h0
      go_wp2_with fail
      refine (HF.out b _).mono ?_
      rintro e w3 ⟨rfl, b3⟩
      have C3 := Lib.hid (C2.out.on b3)
      clear b3
      go_wp2_with fail
      go_ret
      exact ⟨C3.out.below, _, rfl, .inl ⟨by rw [hit_node (by kernel_rfl) HH.out]; simp [hitL, Hu.out], rfl⟩⟩
    · have Hu := Lib.hid h0
      obtain ⟨Tu, qu, rfl, _⟩ := Rep.form hr
      have Ku := Lib.hid (RepN.from hr C1.out.below.size)
      clear h0 hr
      go_wp2_with fail
      refine (HF.out w2.heap.size _).mono ?_
      rintro e w3 ⟨rfl, b3⟩
      have R := Lib.hid (RepN.on (madeN_cast (w := w2) C2.out.below.size Ku.out) b3)
      have CC := Lib.hid ((C2.out.on (box_below _ _)).on b3)
      clear b3
      go_wp2_with fail
      go_ret
      exact ⟨CC.out.below, _, rfl, .inr ⟨by rw [hit_node (by kernel_rfl) HH.out]; simp [hitL, Hu.out], by rw [ren_node (by kernel_rfl) HH.out]; simp only [renL]; exact R.out⟩⟩

end Go.Proofs.YtnhccgbkalpcnaaGreatDoor
