/- FnSmallCopyScopes returns true, whatever it is given: the sizes. -/
import Derived.Test.YtnhccgbkalpcnaaCsLaw
namespace Go.Proofs.Ytnhccgbkalpcnaa
open Go.RowKit

set_option maxRecDepth 100000 in
set_option maxHeartbeats 1000000 in
theorem csLaw (w : World) (first : ByteArray) (v : Value) (L : List ByteArray) (h : SliceOf w (Old w) v (strv L)) (f t : ByteArray) :
    Calls Try.prog 4 #[.string first, v, .string f, .string t] w fun e w' => e = .returned (.bool true) ∧ Below w.heap.size w w' := by
  have HF := Lib.hid (fits_any v L w h)
  have HH := Lib.hid h
  obtain ⟨la, lc, rfl, hl1, hl2, _⟩ := h.strs
  clear h
  have hL : (L.length : Int) ≤ 9223372036854775807 := by omega
  clear hl1 hl2
  by_cases h1 : 2147483647 < first.size
  · go_enter Try.func4, Try.ntmps4
    go_wp2_with fail
    go_ret
    exact ⟨rfl, Below.refl _ _⟩
  · rcases Bool.eq_false_or_eq_true (fitsB L) with f1 | f1
    · by_cases h3 : 2147483647 < f.size
      · go_enter Try.func4, Try.ntmps4
        go_wp2_with fail
        refine (HF.out).mono ?_
        rintro e w' ⟨rfl, rfl⟩
        go_wp2_with fail
        go_ret
        exact ⟨rfl, Below.refl _ _⟩
      · by_cases h4 : 2147483647 < t.size
        · go_enter Try.func4, Try.ntmps4
          go_wp2_with fail
          refine (HF.out).mono ?_
          rintro e w' ⟨rfl, rfl⟩
          go_wp2_with fail
          go_ret
          exact ⟨rfl, Below.refl _ _⟩
        · by_cases h5 : 1000 < L.length
          · go_enter Try.func4, Try.ntmps4
            go_wp2_with fail
            refine (HF.out).mono ?_
            rintro e w' ⟨rfl, rfl⟩
            go_wp2_with fail
            go_ret
            exact ⟨rfl, Below.refl _ _⟩
          · by_cases h6 : L.length = 0
            · have e1 : ((L.length : Int) == 0) = true := beq_iff_eq.2 (by omega)
              have h5' : ¬ (1000 : Int) < (L.length : Int) := by omega
              clear h6
              go_enter Try.func4, Try.ntmps4
              go_wp2_with fail
              refine (HF.out).mono ?_
              rintro e w' ⟨rfl, rfl⟩
              go_wp2_with fail
              go_ret
              exact ⟨rfl, Below.refl _ _⟩
            · exact csLaw_main w first la lc L f t HH.out (by omega) f1 (by omega) (by omega) (by omega) (fun e => h6 (by rw [e]; rfl))
    · go_enter Try.func4, Try.ntmps4
      go_wp2_with fail
      refine (HF.out).mono ?_
      rintro e w' ⟨rfl, rfl⟩
      go_wp2_with fail
      go_ret
      exact ⟨rfl, Below.refl _ _⟩

end Go.Proofs.Ytnhccgbkalpcnaa
