/- FnSmallScopes returns true, whatever it is given. -/
import Derived.Test.YtcobcgkeojeagaaTrees
namespace Go.Proofs.Ytcobcgkeojeagaa
open Go.RowKit

/-- a name in scopes -/
def scopesText (t : ByteArray) (l : List ByteArray) : ByteArray := l.foldl (fun t s => t ++ (⟨#[58, 58]⟩ ++ s)) t

theorem scopesText_snoc (t : ByteArray) (l : List ByteArray) {j : Nat} (h : j < l.length) : scopesText t (l.take (j + 1)) = scopesText t (l.take j) ++ (⟨#[58, 58]⟩ ++ l[j]) := by
  rw [List.take_succ_eq_append_getElem h, scopesText, List.foldl_append]
  rfl

theorem size_append (a b : ByteArray) : (a ++ b).size = a.size + b.size := by simp

theorem fits_get {l : List ByteArray} (hl : fitsB l = true) {j : Nat} (h : j < l.length) : l[j].size ≤ 2147483647 := by
  simp only [fitsB, Bool.and_eq_true, decide_eq_true_eq, List.all_eq_true] at hl
  exact hl.2 _ (List.getElem_mem h)

theorem scopesText_upto (K : Nat) (hK : 2147483649 ≤ K) (t : ByteArray) (l : List ByteArray) (j : Nat) (ht : t.size ≤ 2147483647) (hl : fitsB l = true) : (scopesText t (l.take j)).size ≤ j * K + 2147483647 := by
  induction j with
  | zero =>
    rw [Nat.zero_mul, Nat.zero_add]
    exact ht
  | succ j ih =>
    rw [Nat.succ_mul]
    generalize j * K = m at *
    rcases Nat.lt_or_ge j l.length with h | h
    · rw [scopesText_snoc t l h, size_append, size_append]
      have h2 := fits_get hl h
      have h3 : (⟨#[58, 58]⟩ : ByteArray).size = 2 := rfl
      rw [h3]
      omega
    · have e1 : l.take (j + 1) = l := List.take_of_length_le (by omega)
      have e2 : l.take j = l := List.take_of_length_le h
      rw [e1]
      rw [e2] at ih
      omega

theorem scopesText_size (t : ByteArray) (l : List ByteArray) (j : Nat) (ht : t.size ≤ 2147483647) (hl : fitsB l = true) (hj : j ≤ 1000) : (scopesText t (l.take j)).size ≤ 9000000000000 := by
  have h := scopesText_upto 2147483649 (Nat.le_refl _) t l j ht hl
  have h2 : j * 2147483649 ≤ 2147483649000 := Nat.le_trans (Nat.mul_le_mul_right _ hj) (by decide)
  exact Nat.le_trans h (Nat.le_trans (Nat.add_le_add_right h2 _) (by decide))

theorem qual_bytes (t s : ByteArray) : (t ++ (⟨#[58, 58]⟩ ++ s)).data.toList = t.data.toList ++ [58, 58] ++ s.data.toList := by
  rw [ba_append, ba_append, List.append_assoc]

/-- one scope more -/
theorem scopes_step {wr : World} {d : Nat} {a : Value} {t s : ByteArray} (h : Pr AnyInner wr d a t.data.toList) (hd : 1 ≤ d) :
    Pr AnyInner ((wr.alloc (.cells #[.string s] 91)).alloc (.cells #[a, .iface 89 (.pointer (some ⟨wr.heap.size, 0, none⟩)), .bool false] 94)) (d + 1)
      (.iface 92 (.pointer (some ⟨wr.heap.size + 1, 0, none⟩))) (t ++ (⟨#[58, 58]⟩ ++ s)).data.toList := by
  rw [qual_bytes]
  exact Pr.qual (h.alloc _) ((Pr.newName AnyInner wr s).more hd) false (by simp)

set_option maxRecDepth 100000 in
set_option maxHeartbeats 1000000 in
theorem scopes_any (w : World) {I : Nat → Prop} (hI : ∀ i, I i → i < w.heap.size) (first : ByteArray) (v : Value) (L : List ByteArray) (h : SliceOf w I v (strv L)) (hL : L.length ≤ 1000) :
    Calls Try.prog 30 #[.string first, v] w fun e w' => ∃ a, e = .returned a ∧ Pr AnyInner w' (L.length + 1) a (scopesText first L).data.toList ∧ Below w.heap.size w w' := by
  obtain ⟨la, lc, rfl, hl1, hl2, hlr⟩ := h.strs
  have HR := Lib.hid hlr
  have HI := Lib.hid hI
  clear h hlr hI hl1 hl2
  go_enter Try.func30, Try.ntmps30
  go_wp2_with fail
  refine (name_any _ _).mono ?_
  rintro e w1 ⟨rfl, rfl⟩
  go_wp2_with fail
  go_loopg [5, 12] (L.length) (fun k a i wr => ∃ j : Nat, j + k = L.length ∧ i = .int .i64 j ∧ Hid (Pr AnyInner wr (j + 1) a (scopesText first (L.take j)).data.toList) ∧ Hid (Below w.heap.size w wr))
  case atStart => exact ⟨0, by omega, rfl, Pr.newName AnyInner w first, (Below.refl _ _).alloc (Nat.le_refl _) _⟩
  case round =>
    obtain ⟨j, hj, rfl, hp, hb⟩ := hrel
    by_cases hlt : j < L.length
    · rcases HR.out with rfl | ⟨b, off, rfl, hbI, hcell⟩
      · simp at hlt
      have hbl := HI.out _ hbI
      have hc1 : wr.cell? ⟨b, off + j, none⟩ = some (.string L[j]) := by rw [hb.out.cell (p := ⟨b, off + j, none⟩) hbl]; exact hcell j hlt
      have hws := hb.out.size
      obtain ⟨T, q, hv⟩ := hp.out.one
      subst hv
      have hst := scopes_step (s := L[j]) hp.out (by omega)
      rw [← scopesText_snoc first L hlt] at hst
      have HS := Lib.hid hst
      clear hcell hbI hst
      go_wp2_with (first
        | (go_at_call 27; refine (name_any _ _).mono ?_; rintro e w1 ⟨rfl, rfl⟩))
      go_roundg (gk - 1)
      case measure => omega
      case rel => exact ⟨j + 1, by omega, by go_num, HS.out, ((hb.out.alloc hws _).alloc (by simp; omega) _)⟩
    · have hj' : j = L.length := by omega
      have HJ := Lib.hid hj'
      clear hj'
      go_wp2_with fail
      go_ret
      have h5 := hp.out
      rw [HJ.out, List.take_length] at h5
      exact ⟨_, rfl, h5, hb.out⟩

set_option maxRecDepth 100000 in
set_option maxHeartbeats 1000000 in
theorem printScopes_any (w : World) {I : Nat → Prop} (hI : ∀ i, I i → i < w.heap.size) (first : ByteArray) (v : Value) (L : List ByteArray) (h : SliceOf w I v (strv L)) (hL : L.length ≤ 1000) (hf : first.size ≤ 2147483647) (hfit : fitsB L = true) :
    Calls Try.prog 21 #[.string first, v] w fun e w' => e = .returned (.string (scopesText first L)) ∧ Below w.heap.size w w' := by
  have HC := Lib.hid (scopes_any w hI first v L h hL)
  have hsz := scopesText_size first L L.length hf hfit hL
  rw [List.take_length] at hsz
  have HZ := Lib.hid hsz
  clear h hI hsz
  go_enter Try.func21, Try.ntmps21
  go_wp2_with fail
  refine (HC.out).mono ?_
  rintro e w1 ⟨a, rfl, hp, hb⟩
  have HT := Lib.hid (toString_any (G := AnyInner) trivial hp.now (by omega) (by rw [ba_size]; have := HZ.out; omega))
  have HB := Lib.hid hb
  clear hp hb HC
  go_wp2_with fail
  refine (HT.out).mono ?_
  rintro e w2 ⟨rfl, b2⟩
  have HX := Lib.hid (HB.out.trans (b2.mono HB.out.size))
  clear b2
  go_wp2_with fail
  go_ret
  exact ⟨rfl, HX.out⟩

set_option maxRecDepth 100000 in
set_option maxHeartbeats 1000000 in
theorem scopesLaw (w : World) (first : ByteArray) (v : Value) (L : List ByteArray) (h : SliceOf w (Old w) v (strv L)) :
    Calls Try.prog 7 #[.string first, v] w fun e w' => e = .returned (.bool true) ∧ Below w.heap.size w w' := by
  have HF := Lib.hid (fits_any v L w h)
  have HH := Lib.hid h
  obtain ⟨la, lc, rfl, hl1, hl2, hlr⟩ := h.strs
  have HR := Lib.hid hlr
  clear h hlr
  by_cases h1 : 2147483647 < first.size
  · go_enter Try.func7, Try.ntmps7
    go_wp2_with fail
    go_ret
    exact ⟨rfl, Below.refl _ _⟩
  · rcases Bool.eq_false_or_eq_true (fitsB L) with f1 | f1
    · by_cases h2 : 1000 < L.length
      · go_enter Try.func7, Try.ntmps7
        go_wp2_with fail
        refine (HF.out).mono ?_
        rintro e w' ⟨rfl, rfl⟩
        go_wp2_with fail
        go_ret
        exact ⟨rfl, Below.refl _ _⟩
      · have HP := Lib.hid (printScopes_any w (I := Old w) (fun _ h => h) first _ L HH.out (by omega) (by omega) f1)
        have F1 := Lib.hid f1
        go_enter Try.func7, Try.ntmps7
        go_wp2_with fail
        refine (HF.out).mono ?_
        rintro e w' ⟨rfl, rfl⟩
        go_wp2_with fail
        clear f1
        go_loopg [5, 22] (L.length) (fun k t i wr => w = wr ∧ ∃ j : Nat, j + k = L.length ∧ i = .int .i64 j ∧ t = .string (scopesText first (L.take j)))
        case atStart => exact ⟨rfl, 0, by omega, rfl, rfl⟩
        case round =>
          obtain ⟨rfl, j, hj, rfl, rfl⟩ := hrel
          by_cases hlt : j < L.length
          · rcases HR.out with rfl | ⟨b, off, rfl, hbI, hcell⟩
            · simp at hlt
            have hc1 := hcell j hlt
            have HS := Lib.hid (scopesText_snoc first L hlt)
            have z1 := fits_get F1.out hlt
            have z3 := scopesText_size first L j (by omega) F1.out (by omega)
            clear hcell hbI
            go_wp2_with fail
            go_roundg (gk - 1)
            case measure => omega
            case rel => exact ⟨rfl, j + 1, by omega, by go_num, by rw [HS.out]⟩
          · have hj' : j = L.length := by omega
            have HJ := Lib.hid (show scopesText first (L.take j) = scopesText first L by rw [hj', List.take_length])
            clear hj'
            go_wp2_with fail
            refine (HP.out).mono ?_
            rintro e w2 ⟨rfl, b2⟩
            have HX := Lib.hid b2
            clear b2
            rw [HJ.out]
            go_wp2_with fail
            go_ret
            exact ⟨rfl, HX.out⟩
    · go_enter Try.func7, Try.ntmps7
      go_wp2_with fail
      refine (HF.out).mono ?_
      rintro e w' ⟨rfl, rfl⟩
      go_wp2_with fail
      go_ret
      exact ⟨rfl, Below.refl _ _⟩

end Go.Proofs.Ytcobcgkeojeagaa
