/- spec.Kinds: the kinds of a tree's elements. -/
import Derived.Test.YtnhccgbkalpcnaaGreatDoorKindsT
import Derived.Test.YtnhccgbkalpcnaaGreatDoorKids
import Derived.Test.YtnhccgbkalpcnaaGreatDoorVisit
import Derived.Test.YtnhccgbkalpcnaaGreatDoorHas
namespace Go.Proofs.YtnhccgbkalpcnaaGreatDoor
open Go.RowKit

theorem kinds_step {B : Nat} {wr w2 w3 : World} {o : Obj} {x v3 : Value} {ss tt : List ByteArray} (hB : B ≤ wr.heap.size) (hown : wr.ownsRow B 9 1 x ss.length (strv ss)) (b2 : Below (wr.alloc o).heap.size (wr.alloc o) w2)
    (hown3 : w3.ownsRow B 9 1 v3 (ss.length + (strv tt).length) (strv ss ++ strv tt)) (hg : w2.grownBy w3 x.ownBlock) :
    w3.ownsRow B 9 1 v3 (ss ++ tt).length (strv (ss ++ tt)) ∧ Below B wr w3 := by
  have hx := hown.lt
  have hz := b2.size
  simp at hz
  refine ⟨by simpa [strv_append, strv_length] using hown3, ?_⟩
  refine (((Below.refl B wr).alloc hB o).trans (b2.mono (by simp; omega))).grown hg (by omega) (fun k hk => (hx k hk).1)

theorem sz_nodeK {k x : ByteArray} {n : Int} {ks : List Tree} : (Tree.node k x n ks).sz = 1 + Tree.szs ks := by simp only [Tree.sz]
/-- what Kinds makes of a tree -/
def Kin (W0 : World) (t : Tree) : Prop := ∀ v, At W0 t v → ∀ w, Later W0 w → Calls Tryz.prog 11 #[v, .string ⟨#[110, 111, 110, 101]⟩] w fun e w' => ∃ u, e = .returned u ∧ SliceOf w' (fun i => w.heap.size ≤ i ∧ i < w'.heap.size) u (strv (kindsT t)) ∧ Below w.heap.size w w'

theorem own_one (w : World) (k : ByteArray) {B b : Nat} (hb : b = w.heap.size) (hB : B ≤ w.heap.size) : (w.alloc (.cells #[.string k] 9)).ownsRow B 9 1 (.slice (some ⟨b, 0, none⟩) 1 1) 1 (strv [k]) := by
  subst hb
  exact ⟨by simp [strv], .inr ⟨w.heap.size, 1, #[.string k], rfl, hB, heap_alloc_new w _, Nat.le_refl _, by simp [maxLen], by simp, by simp [strv]⟩⟩

set_option maxRecDepth 100000 in
set_option maxHeartbeats 2000000 in
theorem kin_nil (W0 : World) : Kin W0 nilT := by
  intro v hv w hw
  obtain ⟨a', c', rfl, _⟩ := hv.shut
  have S0 := Lib.hid (St.start hw (.string ⟨#[]⟩) (.string ⟨#[]⟩) (.int .i64 0) (.slice a' ([] : List Tree).length c'))
  clear hv hw
  go_enter Tryz.func11, Tryz.ntmps11
  go_wp2_with fail
  go_ret
  exact ⟨_, rfl, by rw [kinds_nil]; exact SliceOf.nil _ _, S0.out.below⟩

theorem kinds_bound {ks : List Tree} (h : Tree.szs ks ≤ 500) {j : Nat} (hj : j < ks.length) (k : ByteArray) : (k :: kindsL (ks.take j)).length ≤ 1000 ∧ (kindsT ks[j]).length ≤ 1000 := by
  have h1 := kindsL_len ks
  have h2 := kindsT_len ks[j]
  have h3 : ks[j].sz ≤ Tree.szs ks := Tree.sz_le_szs (List.getElem_mem hj)
  have h4 : (kindsL (ks.take j)).length ≤ (kindsL ks).length := by
    conv => rhs; rw [← List.take_append_drop j ks]
    rw [kindsL_flat, kindsL_flat, List.map_append, List.flatten_append, List.length_append]
    omega
  simp only [List.length_cons]
  omega

set_option maxRecDepth 100000 in
set_option maxHeartbeats 4000000 in
theorem kin_rest (W0 : World) (k x : ByteArray) (n : Int) (ks : List Tree) (g1 : (k.toList == []) = false) (g2 : (k.toList == [110, 111, 110, 101]) = false) (g3 : (k.toList == [84, 121, 112, 101, 87, 105, 116, 104, 81, 117, 97, 108, 105, 102, 105, 101, 114, 115]) = false) (g4 : (k.toList == [77, 101, 116, 104, 111, 100, 87, 105, 116, 104, 81, 117, 97, 108, 105, 102, 105, 101, 114, 115]) = false)
    (hs : Tree.szs ks ≤ 500) (ih : ∀ p ∈ ks, Kin W0 p) : Kin W0 (.node k x n ks) := by
  intro v hv w hw
  obtain ⟨sv, rfl, a, c, rfl, hc1, hc2, hk⟩ := hv.kids
  obtain ⟨i0, hi, hz0, hz1, hz2⟩ := info_parts infoStr
  have g1' : k.toList.isEmpty = false := by
    cases h : k.toList with
    | nil => rw [h] at g1; simp at g1
    | cons _ _ => rfl
  have HM := Lib.hid (show kindsT (.node k x n ks) = k :: kindsL ks from kindsT_rest g1' (by rw [firstOnly, g3, g4]; rfl))
  have IH := Lib.hid (fun (j : Nat) (hj : j < ks.length) => ih ks[j] (List.getElem_mem hj))
  have SL := Lib.hid (fun (j : Nat) (hj : j < ks.length) => kinds_bound hs hj k)
  have HK := Lib.hid (show ∀ (j : Nat) (hj : j < ks.length), ∃ b off, a = some ⟨b, off, none⟩ ∧ ∃ ka kc, (∀ w, Later W0 w → Kid w b (off + j * 4) ks[j] ka kc) ∧ At W0 ks[j] (val ks[j] ka kc) from fun j hj => by
    obtain ⟨b, off, e, h⟩ := hk.resolve_left (by intro e; subst e; simp at hj)
    exact ⟨b, off, e, h j hj⟩)
  have S0 := St.start hw (.string k) (.string x) (.int .i64 n) (.slice a ks.length c)
  have S1 := Lib.hid (S0.on (box_below _ (.cells #[.string k] 9)))
  have OW0 := Lib.hid (show ((w.alloc (.cells #[.string k, .string x, .int .i64 n, .slice a ks.length c] 24)).alloc (.cells #[.string k] 9)).ownsRow (w.heap.size + 1) 9 1 (.slice (some ⟨w.heap.size + 1, 0, none⟩) 1 1) 1 (strv [k]) from own_one _ _ (by simp) (by simp))
  have HW := Lib.hid hw
  have hnl : (ks.length : Int) ≤ 9223372036854775807 := by omega
  clear hk ih hv hc1 hc2 hw S0 hs g1'
  go_enter Tryz.func11, Tryz.ntmps11
  go_wp2_with fail
  go_loopg [5, 34] (ks.length) (fun k' out i wr => ∃ j : Nat, j + k' = ks.length ∧ i = .int .i64 j ∧ ∃ ss : List ByteArray, Hid (ss = k :: kindsL (ks.take j)) ∧ Hid (wr.ownsRow (w.heap.size + 1) 9 1 out ss.length (strv ss)) ∧ Hid (St W0 w (.string k) (.string x) (.int .i64 n) (.slice a ks.length c) wr))
  case atStart => exact ⟨0, by omega, rfl, [k], by show _ = _; simp [kindsL], OW0.out, S1.out⟩
  case round =>
    obtain ⟨j, hj, rfl, ss, hss, hown, hst⟩ := hrel
    by_cases hlt : j < ks.length
    · obtain ⟨b, off, rfl, hk⟩ := HK.out j hlt
      obtain ⟨ka, kc, hkid, hat⟩ := hk
      obtain ⟨p0, p1, p2, p3⟩ := hkid wr hst.out.later
      have hst1 := hst.out.on (box_below wr (.cells #[.string ks[j].kind, .string ks[j].text, .int .i64 ks[j].num, .slice ka ks[j].kids.length kc] 24))
      have HC := Lib.hid (IH.out j hlt _ hat _ hst1.later)
      have HTK := Lib.hid (kindsL_take ks hlt)
      have HLN := Lib.hid (SL.out j hlt)
      have hwr : w.heap.size + 1 ≤ wr.heap.size := hst.out.sz
      have HS1 := Lib.hid hst1
      clear hkid hat hst1
      go_wp2_with fail
      refine (HC.out).mono ?_
      rintro e w2 ⟨u, rfl, hsl, b2⟩
      obtain ⟨ua, uc, rfl, _⟩ := hsl.lay
      have HSL := Lib.hid hsl
      have HB2 := Lib.hid b2
      have OW := Lib.hid (ownsRow_below ((hown.out).alloc (.cells #[.string ks[j].kind, .string ks[j].text, .int .i64 ks[j].num, .slice ka ks[j].kids.length kc] 24)) b2 (Nat.le_refl _))
      have hw2 : w.heap.size + 1 ≤ w2.heap.size := by have := b2.size; simp at this; omega
      have hsl1 : ss.length ≤ 1000 := by have := HLN.out.1; rw [hss.out]; exact this
      have hsl2 : (kindsT ks[j]).length ≤ 1000 := HLN.out.2
      clear b2 HC HS1 p0 p1 p2 p3 hsl
      go_wp2_with (first
        | (at_builtin; refine wpList_append_row rfl _ _ 26 rfl (w.heap.size + 1) 9 i0 (.string ByteArray.empty) 16 Tryz.underlying26 hi hz0 hz1 hz2 rfl _ ss.length (strv ss) rfl OW.out _ (strv (kindsT ks[j])) rfl HSL.out ?c2 ?c3 ?c4 ?c5 ?_
           rotate_left 4
           intro v3 w3 hown3 hg3
           have X := Lib.hid (kinds_step hwr hown.out HB2.out hown3 hg3)
           clear hown3 hg3))
      case c2 => exact strv_one _
      case c3 => rw [strv_length]; simp [maxLen]; omega
      case c4 => rw [strv_length]; omega
      case c5 => exact hw2
      go_roundg (gk - 1)
      case measure => omega
      case rel => exact ⟨j + 1, by omega, by go_num, ss ++ kindsT ks[j], by show _ = _; rw [hss.out, HTK.out]; rfl, X.out.1, hst.out.over HW.out X.out.2⟩
    · have HE := Lib.hid (show k :: kindsL (ks.take j) = k :: kindsL ks by rw [List.take_of_length_le (by first | omega | (simp only [List.length_cons, List.length_nil]; omega))])
      go_wp2_with fail
      go_ret
      refine ⟨_, rfl, ?_, hst.out.below⟩
      rw [HM.out, ← HE.out, ← hss.out]
      exact SliceOf.owned (base := w.heap.size + 1) hown.out (fun i h1 h2 => ⟨by omega, h2⟩)

set_option maxRecDepth 100000 in
set_option maxHeartbeats 800000 in
theorem kin_typeWithQualifiers (W0 : World) (x : ByteArray) (n : Int) (p q : Tree) (hs : p.sz ≤ 500) (ih : Kin W0 p) : Kin W0 (.node ⟨#[84, 121, 112, 101, 87, 105, 116, 104, 81, 117, 97, 108, 105, 102, 105, 101, 114, 115]⟩ x n [p, q]) := by
  intro v hv w hw
  obtain ⟨b, off, c, pa, pc, qa, qc, rfl, hc1, hc2, hkid, hp, hq⟩ := hv.two
  obtain ⟨i0, hi, hz0, hz1, hz2⟩ := info_parts infoStr
  obtain ⟨L, hL⟩ : ∃ L : List Tree, L = [p] := ⟨_, rfl⟩
  have hLl : L.length = 1 := by rw [hL]; rfl
  have HL := Lib.hid hLl
  have HM := Lib.hid (show kindsT (.node ⟨#[84, 121, 112, 101, 87, 105, 116, 104, 81, 117, 97, 108, 105, 102, 105, 101, 114, 115]⟩ x n [p, q]) = ⟨#[84, 121, 112, 101, 87, 105, 116, 104, 81, 117, 97, 108, 105, 102, 105, 101, 114, 115]⟩ :: kindsL L by rw [kindsT_first (by kernel_rfl) (by kernel_rfl), hL]; simp [kindsH, kindsL])
  have IH := Lib.hid (fun (j : Nat) (hj : j < L.length) => show Kin W0 L[j] by
    subst hL
    obtain rfl : j = 0 := by omega
    exact ih)
  have SL := Lib.hid (fun (j : Nat) (hj : j < L.length) => kinds_bound (ks := L) (by rw [hL]; simp only [Tree.szs]; omega) hj ⟨#[84, 121, 112, 101, 87, 105, 116, 104, 81, 117, 97, 108, 105, 102, 105, 101, 114, 115]⟩)
  have HK := Lib.hid (show ∀ (j : Nat) (hj : j < L.length), ∃ b' off', some (⟨b, off, none⟩ : Addr) = some ⟨b', off', none⟩ ∧ ∃ ka kc, (∀ w, Later W0 w → Kid w b' (off' + j * 4) L[j] ka kc) ∧ At W0 L[j] (val L[j] ka kc) from fun j hj => by
    subst hL
    obtain rfl : j = 0 := by omega
    exact ⟨b, off, rfl, pa, pc, fun w hw => by simpa using (hkid w hw).1, hp⟩)
  have S0 := St.start hw (.string ⟨#[84, 121, 112, 101, 87, 105, 116, 104, 81, 117, 97, 108, 105, 102, 105, 101, 114, 115]⟩) (.string x) (.int .i64 n) (.slice (some ⟨b, off, none⟩) 2 c)
  have S1 := Lib.hid (S0.on (box_below _ (.cells #[.string ⟨#[84, 121, 112, 101, 87, 105, 116, 104, 81, 117, 97, 108, 105, 102, 105, 101, 114, 115]⟩] 9)))
  have OW0 := Lib.hid (show ((w.alloc (.cells #[.string ⟨#[84, 121, 112, 101, 87, 105, 116, 104, 81, 117, 97, 108, 105, 102, 105, 101, 114, 115]⟩, .string x, .int .i64 n, .slice (some ⟨b, off, none⟩) 2 c] 24)).alloc (.cells #[.string ⟨#[84, 121, 112, 101, 87, 105, 116, 104, 81, 117, 97, 108, 105, 102, 105, 101, 114, 115]⟩] 9)).ownsRow (w.heap.size + 1) 9 1 (.slice (some ⟨w.heap.size + 1, 0, none⟩) 1 1) 1 (strv [⟨#[84, 121, 112, 101, 87, 105, 116, 104, 81, 117, 97, 108, 105, 102, 105, 101, 114, 115]⟩]) from own_one _ _ (by simp) (by simp))
  have HW := Lib.hid hw
  clear ih hv hw S0 hs hkid hp hq hL hLl
  go_enter Tryz.func11, Tryz.ntmps11
  go_wp2_with fail
  go_loopg [5, 34] (L.length) (fun k' out i wr => ∃ j : Nat, j + k' = L.length ∧ i = .int .i64 j ∧ ∃ ss : List ByteArray, Hid (ss = ⟨#[84, 121, 112, 101, 87, 105, 116, 104, 81, 117, 97, 108, 105, 102, 105, 101, 114, 115]⟩ :: kindsL (L.take j)) ∧ Hid (wr.ownsRow (w.heap.size + 1) 9 1 out ss.length (strv ss)) ∧ Hid (St W0 w (.string ⟨#[84, 121, 112, 101, 87, 105, 116, 104, 81, 117, 97, 108, 105, 102, 105, 101, 114, 115]⟩) (.string x) (.int .i64 n) (.slice (some ⟨b, off, none⟩) 2 c) wr))
  case atStart => exact ⟨0, by omega, rfl, [⟨#[84, 121, 112, 101, 87, 105, 116, 104, 81, 117, 97, 108, 105, 102, 105, 101, 114, 115]⟩], by show _ = _; simp [kindsL], OW0.out, S1.out⟩
  case round =>
    obtain ⟨j, hj, rfl, ss, hss, hown, hst⟩ := hrel
    by_cases hlt : j < L.length
    · have hlt1 : (j : Int) < 1 := by have := HL.out; omega
      have HJ := Lib.hid hlt1
      obtain ⟨b2, off2, e2, hk⟩ := HK.out j hlt
      obtain ⟨rfl, rfl⟩ : b = b2 ∧ off = off2 := by simpa using e2
      clear e2
      obtain ⟨ka, kc, hkid, hat⟩ := hk
      obtain ⟨p0, p1, p2, p3⟩ := hkid wr hst.out.later
      have hst1 := hst.out.on (box_below wr (.cells #[.string L[j].kind, .string L[j].text, .int .i64 L[j].num, .slice ka L[j].kids.length kc] 24))
      have HC := Lib.hid (IH.out j hlt _ hat _ hst1.later)
      have HTK := Lib.hid (kindsL_take L hlt)
      have HLN := Lib.hid (SL.out j hlt)
      have hwr : w.heap.size + 1 ≤ wr.heap.size := hst.out.sz
      have HS1 := Lib.hid hst1
      clear hkid hat hst1
      go_wp2_with fail
      refine (HC.out).mono ?_
      rintro e w2 ⟨u, rfl, hsl, b2⟩
      obtain ⟨ua, uc, rfl, _⟩ := hsl.lay
      have HSL := Lib.hid hsl
      have HB2 := Lib.hid b2
      have OW := Lib.hid (ownsRow_below ((hown.out).alloc (.cells #[.string L[j].kind, .string L[j].text, .int .i64 L[j].num, .slice ka L[j].kids.length kc] 24)) b2 (Nat.le_refl _))
      have hw2 : w.heap.size + 1 ≤ w2.heap.size := by have := b2.size; simp at this; omega
      have hsl1 : ss.length ≤ 1000 := by have := HLN.out.1; rw [hss.out]; exact this
      have hsl2 : (kindsT L[j]).length ≤ 1000 := HLN.out.2
      clear b2 HC HS1 p0 p1 p2 p3 hsl
      go_wp2_with (first
        | (at_builtin; refine wpList_append_row rfl _ _ 26 rfl (w.heap.size + 1) 9 i0 (.string ByteArray.empty) 16 Tryz.underlying26 hi hz0 hz1 hz2 rfl _ ss.length (strv ss) rfl OW.out _ (strv (kindsT L[j])) rfl HSL.out ?c2 ?c3 ?c4 ?c5 ?_
           rotate_left 4
           intro v3 w3 hown3 hg3
           have X := Lib.hid (kinds_step hwr hown.out HB2.out hown3 hg3)
           clear hown3 hg3))
      case c2 => exact strv_one _
      case c3 => rw [strv_length]; simp [maxLen]; omega
      case c4 => rw [strv_length]; omega
      case c5 => exact hw2
      go_roundg (gk - 1)
      case measure => omega
      case rel => exact ⟨j + 1, by omega, by go_num, ss ++ kindsT L[j], by show _ = _; rw [hss.out, HTK.out]; rfl, X.out.1, hst.out.over HW.out X.out.2⟩
    · have hlt1 : ¬ (j : Int) < 1 := by have := HL.out; omega
      have HE := Lib.hid (show ⟨#[84, 121, 112, 101, 87, 105, 116, 104, 81, 117, 97, 108, 105, 102, 105, 101, 114, 115]⟩ :: kindsL (L.take j) = ⟨#[84, 121, 112, 101, 87, 105, 116, 104, 81, 117, 97, 108, 105, 102, 105, 101, 114, 115]⟩ :: kindsL L by rw [List.take_of_length_le (by first | omega | (simp only [List.length_cons, List.length_nil]; omega))])
      go_wp2_with fail
      go_ret
      refine ⟨_, rfl, ?_, hst.out.below⟩
      rw [HM.out, ← HE.out, ← hss.out]
      exact SliceOf.owned (base := w.heap.size + 1) hown.out (fun i h1 h2 => ⟨by omega, h2⟩)

set_option maxRecDepth 100000 in
set_option maxHeartbeats 800000 in
theorem kin_methodWithQualifiers (W0 : World) (x : ByteArray) (n : Int) (p q : Tree) (hs : p.sz ≤ 500) (ih : Kin W0 p) : Kin W0 (.node ⟨#[77, 101, 116, 104, 111, 100, 87, 105, 116, 104, 81, 117, 97, 108, 105, 102, 105, 101, 114, 115]⟩ x n [p, q]) := by
  intro v hv w hw
  obtain ⟨b, off, c, pa, pc, qa, qc, rfl, hc1, hc2, hkid, hp, hq⟩ := hv.two
  obtain ⟨i0, hi, hz0, hz1, hz2⟩ := info_parts infoStr
  obtain ⟨L, hL⟩ : ∃ L : List Tree, L = [p] := ⟨_, rfl⟩
  have hLl : L.length = 1 := by rw [hL]; rfl
  have HL := Lib.hid hLl
  have HM := Lib.hid (show kindsT (.node ⟨#[77, 101, 116, 104, 111, 100, 87, 105, 116, 104, 81, 117, 97, 108, 105, 102, 105, 101, 114, 115]⟩ x n [p, q]) = ⟨#[77, 101, 116, 104, 111, 100, 87, 105, 116, 104, 81, 117, 97, 108, 105, 102, 105, 101, 114, 115]⟩ :: kindsL L by rw [kindsT_first (by kernel_rfl) (by kernel_rfl), hL]; simp [kindsH, kindsL])
  have IH := Lib.hid (fun (j : Nat) (hj : j < L.length) => show Kin W0 L[j] by
    subst hL
    obtain rfl : j = 0 := by omega
    exact ih)
  have SL := Lib.hid (fun (j : Nat) (hj : j < L.length) => kinds_bound (ks := L) (by rw [hL]; simp only [Tree.szs]; omega) hj ⟨#[77, 101, 116, 104, 111, 100, 87, 105, 116, 104, 81, 117, 97, 108, 105, 102, 105, 101, 114, 115]⟩)
  have HK := Lib.hid (show ∀ (j : Nat) (hj : j < L.length), ∃ b' off', some (⟨b, off, none⟩ : Addr) = some ⟨b', off', none⟩ ∧ ∃ ka kc, (∀ w, Later W0 w → Kid w b' (off' + j * 4) L[j] ka kc) ∧ At W0 L[j] (val L[j] ka kc) from fun j hj => by
    subst hL
    obtain rfl : j = 0 := by omega
    exact ⟨b, off, rfl, pa, pc, fun w hw => by simpa using (hkid w hw).1, hp⟩)
  have S0 := St.start hw (.string ⟨#[77, 101, 116, 104, 111, 100, 87, 105, 116, 104, 81, 117, 97, 108, 105, 102, 105, 101, 114, 115]⟩) (.string x) (.int .i64 n) (.slice (some ⟨b, off, none⟩) 2 c)
  have S1 := Lib.hid (S0.on (box_below _ (.cells #[.string ⟨#[77, 101, 116, 104, 111, 100, 87, 105, 116, 104, 81, 117, 97, 108, 105, 102, 105, 101, 114, 115]⟩] 9)))
  have OW0 := Lib.hid (show ((w.alloc (.cells #[.string ⟨#[77, 101, 116, 104, 111, 100, 87, 105, 116, 104, 81, 117, 97, 108, 105, 102, 105, 101, 114, 115]⟩, .string x, .int .i64 n, .slice (some ⟨b, off, none⟩) 2 c] 24)).alloc (.cells #[.string ⟨#[77, 101, 116, 104, 111, 100, 87, 105, 116, 104, 81, 117, 97, 108, 105, 102, 105, 101, 114, 115]⟩] 9)).ownsRow (w.heap.size + 1) 9 1 (.slice (some ⟨w.heap.size + 1, 0, none⟩) 1 1) 1 (strv [⟨#[77, 101, 116, 104, 111, 100, 87, 105, 116, 104, 81, 117, 97, 108, 105, 102, 105, 101, 114, 115]⟩]) from own_one _ _ (by simp) (by simp))
  have HW := Lib.hid hw
  clear ih hv hw S0 hs hkid hp hq hL hLl
  go_enter Tryz.func11, Tryz.ntmps11
  go_wp2_with fail
  go_loopg [5, 34] (L.length) (fun k' out i wr => ∃ j : Nat, j + k' = L.length ∧ i = .int .i64 j ∧ ∃ ss : List ByteArray, Hid (ss = ⟨#[77, 101, 116, 104, 111, 100, 87, 105, 116, 104, 81, 117, 97, 108, 105, 102, 105, 101, 114, 115]⟩ :: kindsL (L.take j)) ∧ Hid (wr.ownsRow (w.heap.size + 1) 9 1 out ss.length (strv ss)) ∧ Hid (St W0 w (.string ⟨#[77, 101, 116, 104, 111, 100, 87, 105, 116, 104, 81, 117, 97, 108, 105, 102, 105, 101, 114, 115]⟩) (.string x) (.int .i64 n) (.slice (some ⟨b, off, none⟩) 2 c) wr))
  case atStart => exact ⟨0, by omega, rfl, [⟨#[77, 101, 116, 104, 111, 100, 87, 105, 116, 104, 81, 117, 97, 108, 105, 102, 105, 101, 114, 115]⟩], by show _ = _; simp [kindsL], OW0.out, S1.out⟩
  case round =>
    obtain ⟨j, hj, rfl, ss, hss, hown, hst⟩ := hrel
    by_cases hlt : j < L.length
    · have hlt1 : (j : Int) < 1 := by have := HL.out; omega
      have HJ := Lib.hid hlt1
      obtain ⟨b2, off2, e2, hk⟩ := HK.out j hlt
      obtain ⟨rfl, rfl⟩ : b = b2 ∧ off = off2 := by simpa using e2
      clear e2
      obtain ⟨ka, kc, hkid, hat⟩ := hk
      obtain ⟨p0, p1, p2, p3⟩ := hkid wr hst.out.later
      have hst1 := hst.out.on (box_below wr (.cells #[.string L[j].kind, .string L[j].text, .int .i64 L[j].num, .slice ka L[j].kids.length kc] 24))
      have HC := Lib.hid (IH.out j hlt _ hat _ hst1.later)
      have HTK := Lib.hid (kindsL_take L hlt)
      have HLN := Lib.hid (SL.out j hlt)
      have hwr : w.heap.size + 1 ≤ wr.heap.size := hst.out.sz
      have HS1 := Lib.hid hst1
      clear hkid hat hst1
      go_wp2_with fail
      refine (HC.out).mono ?_
      rintro e w2 ⟨u, rfl, hsl, b2⟩
      obtain ⟨ua, uc, rfl, _⟩ := hsl.lay
      have HSL := Lib.hid hsl
      have HB2 := Lib.hid b2
      have OW := Lib.hid (ownsRow_below ((hown.out).alloc (.cells #[.string L[j].kind, .string L[j].text, .int .i64 L[j].num, .slice ka L[j].kids.length kc] 24)) b2 (Nat.le_refl _))
      have hw2 : w.heap.size + 1 ≤ w2.heap.size := by have := b2.size; simp at this; omega
      have hsl1 : ss.length ≤ 1000 := by have := HLN.out.1; rw [hss.out]; exact this
      have hsl2 : (kindsT L[j]).length ≤ 1000 := HLN.out.2
      clear b2 HC HS1 p0 p1 p2 p3 hsl
      go_wp2_with (first
        | (at_builtin; refine wpList_append_row rfl _ _ 26 rfl (w.heap.size + 1) 9 i0 (.string ByteArray.empty) 16 Tryz.underlying26 hi hz0 hz1 hz2 rfl _ ss.length (strv ss) rfl OW.out _ (strv (kindsT L[j])) rfl HSL.out ?c2 ?c3 ?c4 ?c5 ?_
           rotate_left 4
           intro v3 w3 hown3 hg3
           have X := Lib.hid (kinds_step hwr hown.out HB2.out hown3 hg3)
           clear hown3 hg3))
      case c2 => exact strv_one _
      case c3 => rw [strv_length]; simp [maxLen]; omega
      case c4 => rw [strv_length]; omega
      case c5 => exact hw2
      go_roundg (gk - 1)
      case measure => omega
      case rel => exact ⟨j + 1, by omega, by go_num, ss ++ kindsT L[j], by show _ = _; rw [hss.out, HTK.out]; rfl, X.out.1, hst.out.over HW.out X.out.2⟩
    · have hlt1 : ¬ (j : Int) < 1 := by have := HL.out; omega
      have HE := Lib.hid (show ⟨#[77, 101, 116, 104, 111, 100, 87, 105, 116, 104, 81, 117, 97, 108, 105, 102, 105, 101, 114, 115]⟩ :: kindsL (L.take j) = ⟨#[77, 101, 116, 104, 111, 100, 87, 105, 116, 104, 81, 117, 97, 108, 105, 102, 105, 101, 114, 115]⟩ :: kindsL L by rw [List.take_of_length_le (by first | omega | (simp only [List.length_cons, List.length_nil]; omega))])
      go_wp2_with fail
      go_ret
      refine ⟨_, rfl, ?_, hst.out.below⟩
      rw [HM.out, ← HE.out, ← hss.out]
      exact SliceOf.owned (base := w.heap.size + 1) hown.out (fun i h1 h2 => ⟨by omega, h2⟩)

theorem kinds_any (W0 : World) (t : Tree) (hg : Good t ∨ t = nilT) (hs : t.sz ≤ 400) : Kin W0 t := by
  induction hm : t.sz using Nat.strongRecOn generalizing t with
  | ind m ih =>
  rcases hg with hg | rfl
  · obtain ⟨k, x, n, ks⟩ := t
    obtain ⟨g1, g2, hk⟩ := good_kinds hg
    simp only [Tree.kind] at g1 g2 hk
    have e := @sz_nodeK k x n ks
    rcases hk with ⟨hf, p, q, rfl, hp⟩ | ⟨hf, hl⟩
    · simp only [Tree.szs] at e
      have hP : Kin W0 p := ih p.sz (by omega) p (.inl hp) (by omega) rfl
      have h2 : (k.toList == [84, 121, 112, 101, 87, 105, 116, 104, 81, 117, 97, 108, 105, 102, 105, 101, 114, 115]) = true ∨ (k.toList == [77, 101, 116, 104, 111, 100, 87, 105, 116, 104, 81, 117, 97, 108, 105, 102, 105, 101, 114, 115]) = true := by
        simpa [firstOnly] using hf
      rcases h2 with h2 | h2
      · obtain rfl := str_of (beq_iff_eq.1 h2)
        exact kin_typeWithQualifiers W0 x n p q (by omega) hP
      · obtain rfl := str_of (beq_iff_eq.1 h2)
        exact kin_methodWithQualifiers W0 x n p q (by omega) hP
    · have h2 : (k.toList == [84, 121, 112, 101, 87, 105, 116, 104, 81, 117, 97, 108, 105, 102, 105, 101, 114, 115]) = false ∧ (k.toList == [77, 101, 116, 104, 111, 100, 87, 105, 116, 104, 81, 117, 97, 108, 105, 102, 105, 101, 114, 115]) = false := by
        simpa [firstOnly] using hf
      refine kin_rest W0 k x n ks g1 g2 h2.1 h2.2 (by omega) fun p hp => ?_
      have := Tree.sz_le_szs (show p ∈ ks from hp)
      exact ih p.sz (by omega) p (hl p hp) (by omega) rfl
  · exact kin_nil W0

end Go.Proofs.YtnhccgbkalpcnaaGreatDoor
