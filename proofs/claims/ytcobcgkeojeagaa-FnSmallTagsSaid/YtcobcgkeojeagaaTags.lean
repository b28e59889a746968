/- FnSmallTags returns true, whatever it is given. -/
import Derived.Test.YtcobcgkeojeagaaScopes
namespace Go.Proofs.Ytcobcgkeojeagaa
open Go.RowKit

/-- a name with tags -/
def tagsText (t : ByteArray) (l : List ByteArray) : ByteArray := l.foldl (fun t s => t ++ (⟨#[91, 97, 98, 105, 58]⟩ ++ s ++ ⟨#[93]⟩)) t

theorem tagsText_snoc (t : ByteArray) (l : List ByteArray) {j : Nat} (h : j < l.length) : tagsText t (l.take (j + 1)) = tagsText t (l.take j) ++ (⟨#[91, 97, 98, 105, 58]⟩ ++ l[j] ++ ⟨#[93]⟩) := by
  rw [List.take_succ_eq_append_getElem h, tagsText, List.foldl_append]
  rfl

theorem tagsText_upto (K : Nat) (hK : 2147483653 ≤ K) (t : ByteArray) (l : List ByteArray) (j : Nat) (ht : t.size ≤ 2147483647) (hl : fitsB l = true) : (tagsText t (l.take j)).size ≤ j * K + 2147483647 := by
  induction j with
  | zero =>
    rw [Nat.zero_mul, Nat.zero_add]
    exact ht
  | succ j ih =>
    rw [Nat.succ_mul]
    generalize j * K = m at *
    rcases Nat.lt_or_ge j l.length with h | h
    · rw [tagsText_snoc t l h, size_append, size_append, size_append]
      have h2 := fits_get hl h
      have h3 : (⟨#[91, 97, 98, 105, 58]⟩ : ByteArray).size = 5 := rfl
      have h4 : (⟨#[93]⟩ : ByteArray).size = 1 := rfl
      rw [h3, h4]
      omega
    · have e1 : l.take (j + 1) = l := List.take_of_length_le (by omega)
      have e2 : l.take j = l := List.take_of_length_le h
      rw [e1]
      rw [e2] at ih
      omega

theorem tagsText_size (t : ByteArray) (l : List ByteArray) (j : Nat) (ht : t.size ≤ 2147483647) (hl : fitsB l = true) (hj : j ≤ 1000) : (tagsText t (l.take j)).size ≤ 9000000000000 := by
  have h := tagsText_upto 2147483653 (Nat.le_refl _) t l j ht hl
  have h2 : j * 2147483653 ≤ 2147483653000 := Nat.le_trans (Nat.mul_le_mul_right _ hj) (by decide)
  exact Nat.le_trans h (Nat.le_trans (Nat.add_le_add_right h2 _) (by decide))

theorem tag_bytes (t s : ByteArray) : (t ++ (⟨#[91, 97, 98, 105, 58]⟩ ++ s ++ ⟨#[93]⟩)).data.toList = t.data.toList ++ [91, 97, 98, 105, 58] ++ s.data.toList ++ [93] := by
  rw [ba_append, ba_append, ba_append, List.append_assoc, List.append_assoc, List.append_assoc]

/-- one tag more -/
theorem tags_step {wr : World} {d : Nat} {a : Value} {t s : ByteArray} (h : Pr AnyInner wr d a t.data.toList) (hd : 1 ≤ d) :
    Pr AnyInner ((wr.alloc (.cells #[.string s] 91)).alloc (.cells #[a, .iface 89 (.pointer (some ⟨wr.heap.size, 0, none⟩))] 56)) (d + 1)
      (.iface 54 (.pointer (some ⟨wr.heap.size + 1, 0, none⟩))) (t ++ (⟨#[91, 97, 98, 105, 58]⟩ ++ s ++ ⟨#[93]⟩)).data.toList := by
  rw [tag_bytes]
  exact Pr.tag (h.alloc _) ((Pr.newName AnyInner wr s).more hd) (by simp)

set_option maxRecDepth 100000 in
set_option maxHeartbeats 1000000 in
theorem printTags_any (w : World) {I : Nat → Prop} (hI : ∀ i, I i → i < w.heap.size) (first : ByteArray) (v : Value) (L : List ByteArray) (h : SliceOf w I v (strv L)) (hL : L.length ≤ 1000) (hf : first.size ≤ 2147483647) (hfit : fitsB L = true) :
    Calls Try.prog 17 #[.string first, v] w fun e w' => e = .returned (.string (tagsText first L)) ∧ Below w.heap.size w w' := by
  have hsz := tagsText_size first L L.length hf hfit hL
  rw [List.take_length] at hsz
  have HZ := Lib.hid hsz
  clear hsz
  obtain ⟨la, lc, rfl, hl1, hl2, hlr⟩ := h.strs
  have HR := Lib.hid hlr
  have HI := Lib.hid hI
  clear h hlr hI hl1 hl2
  go_enter Try.func17, Try.ntmps17
  go_wp2_with fail
  refine (name_any _ _).mono ?_
  rintro e w1 ⟨rfl, rfl⟩
  go_wp2_with fail
  go_loopg [5, 12] (L.length) (fun k a i wr => ∃ j : Nat, j + k = L.length ∧ i = .int .i64 j ∧ Hid (Pr AnyInner wr (j + 1) a (tagsText first (L.take j)).data.toList) ∧ Hid (Below w.heap.size w wr))
  case atStart => exact ⟨0, by omega, rfl, Pr.newName AnyInner w first, (Below.refl _ _).alloc (Nat.le_refl _) _⟩
  case round =>
    obtain ⟨j, hj, rfl, hp, hb⟩ := hrel
    by_cases hlt : j < L.length
    · rcases HR.out with rfl | ⟨b, off, rfl, hbI, hcell⟩
      · simp at hlt
      have hbl := HI.out _ hbI
      have hc1 : wr.cell? ⟨b, off + j, none⟩ = some (.string L[j]) := by rw [hb.out.cell (p := ⟨b, off + j, none⟩) hbl]; exact hcell j hlt
      have hws := hb.out.size
      obtain ⟨T, q, hv⟩ := hp.out.one
      subst hv
      have hst := tags_step (s := L[j]) hp.out (by omega)
      rw [← tagsText_snoc first L hlt] at hst
      have HS := Lib.hid hst
      clear hcell hbI hst
      go_wp2_with (first
        | (go_at_call 27; refine (name_any _ _).mono ?_; rintro e w1 ⟨rfl, rfl⟩))
      go_roundg (gk - 1)
      case measure => omega
      case rel => exact ⟨j + 1, by omega, by go_num, HS.out, ((hb.out.alloc hws _).alloc (by simp; omega) _)⟩
    · have hj' : j = L.length := by omega
      have HJ := Lib.hid hj'
      clear hj'
      have h5 := hp.out
      rw [HJ.out, List.take_length] at h5
      obtain ⟨T, q, hv⟩ := h5.one
      subst hv
      have HT := Lib.hid (toString_any (G := AnyInner) trivial h5.now (by omega) (by rw [ba_size]; have := HZ.out; omega))
      clear h5 hp
      go_wp2_with fail
      refine (HT.out).mono ?_
      rintro e w2 ⟨rfl, b2⟩
      have HX := Lib.hid (hb.out.trans (b2.mono hb.out.size))
      clear b2
      go_wp2_with fail
      go_ret
      exact ⟨rfl, HX.out⟩

set_option maxRecDepth 100000 in
set_option maxHeartbeats 1000000 in
theorem tagsLaw (w : World) (first : ByteArray) (v : Value) (L : List ByteArray) (h : SliceOf w (Old w) v (strv L)) :
    Calls Try.prog 5 #[.string first, v] w fun e w' => e = .returned (.bool true) ∧ Below w.heap.size w w' := by
  have HF := Lib.hid (fits_any v L w h)
  have HH := Lib.hid h
  obtain ⟨la, lc, rfl, hl1, hl2, hlr⟩ := h.strs
  have HR := Lib.hid hlr
  clear h hlr
  by_cases h1 : 2147483647 < first.size
  · go_enter Try.func5, Try.ntmps5
    go_wp2_with fail
    go_ret
    exact ⟨rfl, Below.refl _ _⟩
  · rcases Bool.eq_false_or_eq_true (fitsB L) with f1 | f1
    · by_cases h2 : 1000 < L.length
      · go_enter Try.func5, Try.ntmps5
        go_wp2_with fail
        refine (HF.out).mono ?_
        rintro e w' ⟨rfl, rfl⟩
        go_wp2_with fail
        go_ret
        exact ⟨rfl, Below.refl _ _⟩
      · have HP := Lib.hid (printTags_any w (I := Old w) (fun _ h => h) first _ L HH.out (by omega) (by omega) f1)
        have F1 := Lib.hid f1
        go_enter Try.func5, Try.ntmps5
        go_wp2_with fail
        refine (HF.out).mono ?_
        rintro e w' ⟨rfl, rfl⟩
        go_wp2_with fail
        clear f1
        go_loopg [5, 22] (L.length) (fun k t i wr => w = wr ∧ ∃ j : Nat, j + k = L.length ∧ i = .int .i64 j ∧ t = .string (tagsText first (L.take j)))
        case atStart => exact ⟨rfl, 0, by omega, rfl, rfl⟩
        case round =>
          obtain ⟨rfl, j, hj, rfl, rfl⟩ := hrel
          by_cases hlt : j < L.length
          · rcases HR.out with rfl | ⟨b, off, rfl, hbI, hcell⟩
            · simp at hlt
            have hc1 := hcell j hlt
            have HS := Lib.hid (tagsText_snoc first L hlt)
            have z1 := fits_get F1.out hlt
            have z3 := tagsText_size first L j (by omega) F1.out (by omega)
            clear hcell hbI
            go_wp2_with fail
            go_roundg (gk - 1)
            case measure => omega
            case rel => exact ⟨rfl, j + 1, by omega, by go_num, by rw [HS.out]⟩
          · have hj' : j = L.length := by omega
            have HJ := Lib.hid (show tagsText first (L.take j) = tagsText first L by rw [hj', List.take_length])
            clear hj'
            go_wp2_with fail
            refine (HP.out).mono ?_
            rintro e w2 ⟨rfl, b2⟩
            have HX := Lib.hid b2
            clear b2
            rw [HJ.out]
            go_wp2_with fail
            go_ret
            exact ⟨rfl, HX.out⟩
    · go_enter Try.func5, Try.ntmps5
      go_wp2_with fail
      refine (HF.out).mono ?_
      rintro e w' ⟨rfl, rfl⟩
      go_wp2_with fail
      go_ret
      exact ⟨rfl, Below.refl _ _⟩

end Go.Proofs.Ytcobcgkeojeagaa
