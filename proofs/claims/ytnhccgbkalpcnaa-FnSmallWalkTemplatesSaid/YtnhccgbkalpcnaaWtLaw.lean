/- FnSmallWalkTemplates returns true, whatever it is given. -/
import Derived.Test.YtnhccgbkalpcnaaWtWalk
import Derived.Test.YtnhccgbkalpcnaaAlike
namespace Go.Proofs.Ytnhccgbkalpcnaa
open Go.RowKit

set_option maxRecDepth 100000 in
set_option maxHeartbeats 1000000 in
theorem wtLaw_early (w : World) (la ma : Option Addr) (lc mc : Nat) (L : List ByteArray) (arg : ByteArray) (M : List ByteArray) (op : Int) (hl : SliceOf w (Old w) (.slice la L.length lc) (strv L)) (hm : SliceOf w (Old w) (.slice ma M.length mc) (strv M))
    (hlc : L.length ≤ 9223372036854775807) (hmc : M.length ≤ 9223372036854775807)
    (h : fitsB L = false ∨ 2147483647 < arg.size ∨ fitsB M = false ∨ L.length = 0 ∨ 1000 < L.length ∨ 1000 < M.length) :
    Calls Try.prog 3 #[.slice la L.length lc, .string arg, .slice ma M.length mc, .int .i64 op] w fun e w' => e = .returned (.bool true) ∧ w = w' := by
  have h1 := Lib.hid (fits_any _ L w hl)
  have h2 := Lib.hid (fits_any _ M w hm)
  have H := Lib.hid h
  clear hl hm h
  rcases Bool.eq_false_or_eq_true (fitsB L) with f1 | f1
  · by_cases f2 : 2147483647 < arg.size
    · go_enter Try.func3, Try.ntmps3
      go_wp2_with fail
      refine (h1.out).mono ?_
      rintro e w' ⟨rfl, rfl⟩
      go_wp2_with fail
      go_ret
      exact ⟨rfl, rfl⟩
    · rcases Bool.eq_false_or_eq_true (fitsB M) with f3 | f3
      · by_cases c1 : L.length = 0
        · have e1 : ((L.length : Int) == 0) = true := beq_iff_eq.2 (by omega)
          clear c1 H
          go_enter Try.func3, Try.ntmps3
          go_wp2_with fail
          refine (h1.out).mono ?_
          rintro e w' ⟨rfl, rfl⟩
          go_wp2_with fail
          refine (h2.out).mono ?_
          rintro e w' ⟨rfl, rfl⟩
          go_wp2_with fail
          go_ret
          exact ⟨rfl, rfl⟩
        · have e1 : ((L.length : Int) == 0) = false := beq_eq_false_iff_ne.2 (by omega)
          have c2 : 1000 < L.length ∨ L.length ≤ 1000 ∧ 1000 < M.length := by
            rcases H.out with h | h | h | h | h | h
            · rw [f1] at h; cases h
            · exact absurd h f2
            · rw [f3] at h; cases h
            · exact absurd h c1
            · exact .inl h
            · omega
          rcases c2 with c2 | ⟨c2, c3⟩
          · go_enter Try.func3, Try.ntmps3
            go_wp2_with fail
            refine (h1.out).mono ?_
            rintro e w' ⟨rfl, rfl⟩
            go_wp2_with fail
            refine (h2.out).mono ?_
            rintro e w' ⟨rfl, rfl⟩
            go_wp2_with fail
            go_ret
            exact ⟨rfl, rfl⟩
          · go_enter Try.func3, Try.ntmps3
            go_wp2_with fail
            refine (h1.out).mono ?_
            rintro e w' ⟨rfl, rfl⟩
            go_wp2_with fail
            refine (h2.out).mono ?_
            rintro e w' ⟨rfl, rfl⟩
            go_wp2_with fail
            go_ret
            exact ⟨rfl, rfl⟩
      · go_enter Try.func3, Try.ntmps3
        go_wp2_with fail
        refine (h1.out).mono ?_
        rintro e w' ⟨rfl, rfl⟩
        go_wp2_with fail
        refine (h2.out).mono ?_
        rintro e w' ⟨rfl, rfl⟩
        go_wp2_with fail
        go_ret
        exact ⟨rfl, rfl⟩
  · go_enter Try.func3, Try.ntmps3
    go_wp2_with fail
    refine (h1.out).mono ?_
    rintro e w' ⟨rfl, rfl⟩
    go_wp2_with fail
    go_ret
    exact ⟨rfl, rfl⟩

theorem strv_take (L : List ByteArray) (k : Nat) : (strv L).take k = strv (L.take k) := by simp [strv, List.map_take]

set_option maxRecDepth 100000 in
set_option maxHeartbeats 1000000 in
theorem wtLaw_main (w : World) (la ma : Option Addr) (lc mc : Nat) (L : List ByteArray) (arg : ByteArray) (M : List ByteArray) (op : Int) (hl : SliceOf w (Old w) (.slice la L.length lc) (strv L)) (hm : SliceOf w (Old w) (.slice ma M.length mc) (strv M))
    (f1 : fitsB L = true) (f2 : ¬ 2147483647 < arg.size) (f3 : fitsB M = true) (c1 : L ≠ []) (c2 : L.length ≤ 1000) (c3 : M.length ≤ 1000) :
    Calls Try.prog 3 #[.slice la L.length lc, .string arg, .slice ma M.length mc, .int .i64 op] w fun e w' => e = .returned (.bool true) ∧ Below w.heap.size w w' := by
  have h1 := Lib.hid (fits_any _ L w hl)
  have h2 := Lib.hid (fits_any _ M w hm)
  have c0 : 0 < L.length := List.length_pos_iff.2 c1
  obtain ⟨K, hK, hKl⟩ : ∃ K : Nat, ofB op ((L.length : Int) + 1) = K ∧ K ≤ L.length := by
    have := ofB_range op ((L.length : Int) + 1) (by omega)
    exact ⟨(ofB op ((L.length : Int) + 1)).toNat, by omega, by omega⟩
  have h4 := Lib.hid (show Calls Try.prog 6 #[.int .i64 op, .int .i64 ((L.length : Int) + 1)] w fun e w' => e = .returned (.int .i64 K) ∧ w = w' by
    have := cxxOf_any op ((L.length : Int) + 1) w (by omega) (by omega)
    rw [hK] at this
    exact this)
  obtain ⟨b, off, hla, hbO, hcell⟩ : ∃ b off, la = some ⟨b, off, none⟩ ∧ Old w b ∧ ∀ i (h : i < L.length), w.cell? ⟨b, off + i, none⟩ = some (.string L[i]) := by
    obtain ⟨a, cap, hv, _, _, hr⟩ := hl.strs
    simp at hv
    obtain ⟨rfl, rfl⟩ := hv
    exact hr.resolve_left c1
  subst hla
  obtain ⟨hcap1, hcap2⟩ : L.length ≤ lc ∧ lc ≤ 9223372036854775807 := by
    obtain ⟨a, cap, hv, h5, h6, _⟩ := hl.strs
    simp at hv
    obtain ⟨rfl, rfl⟩ := hv
    exact ⟨h5, h6⟩
  have hI : ∀ W : World, Below w.heap.size w W → ∀ i, Old w i → i < W.heap.size := fun W h i hi => Nat.lt_of_lt_of_le hi h.size
  have hS : ∀ W : World, Below w.heap.size w W → Same (Old w) w W := fun W h => Same.below h fun _ h => h
  have HI := Lib.hid hI
  have HS := Lib.hid hS
  have C1 := Lib.hid c1
  clear hI hS
  have hwant : SliceOf (w.alloc (.cells #[] 9)) (Old w) (.slice (some ⟨b, off, none⟩) K lc) (strv (L.take K)) := by
    refine .inr ⟨⟨b, off, none⟩, lc, by rw [strv_length, List.length_take]; simp; omega, by rw [strv_length, List.length_take]; omega, by unfold maxLen; omega, fun _ => hbO, fun i u hu => ?_⟩
    have hi : i < K := by
      have := (List.getElem?_eq_some_iff.1 hu).1
      rw [strv_length, List.length_take] at this
      omega
    have e : (⟨b, off, none⟩ : Addr).add i = ⟨b, off + i, none⟩ := by unfold Addr.add; split <;> simp_all
    rw [e, World.cell?_of_block (w := w) (Below.heap_alloc w _ b hbO), hcell i (by omega)]
    rw [← strv_take, List.getElem?_take, if_pos hi, strv_get (by omega)] at hu
    exact hu
  have HW := Lib.hid hwant
  have HL := Lib.hid hl
  have HM := Lib.hid hm
  have e1 : ((L.length : Int) == 0) = false := beq_eq_false_iff_ne.2 (by omega)
  clear hl hm hcell hK hwant c1
  obtain ⟨i0, hi, hz0, hz1, hz2⟩ := info_parts infoStr
  by_cases hKL : K = L.length
  · subst hKL
    rw [List.take_length] at HW
    have e2 : ((L.length : Int) == (L.length : Int)) = true := by simp
    go_enter Try.func3, Try.ntmps3
    go_wp2_with fail
    refine (h1.out).mono ?_
    rintro e w' ⟨rfl, rfl⟩
    go_wp2_with fail
    refine (h2.out).mono ?_
    rintro e w' ⟨rfl, rfl⟩
    go_wp2_with fail
    refine (h4.out).mono ?_
    rintro e w' ⟨rfl, rfl⟩
    have own0 := World.ownsRow_lit (base := w.heap.size) (size := 1) (e := 9) w #[] 0 (by omega) (by unfold maxLen; omega) rfl
    have O0 := Lib.hid own0
    clear own0
    go_wp2_with (first
      | (at_builtin; refine wpList_append_row rfl _ _ 22 rfl w.heap.size 9 i0 (.string ByteArray.empty) 16 Try.underlying22 hi hz0 hz1 hz2 rfl (.slice (some ⟨w.heap.size, 0, none⟩) 0 0) 0 [] rfl O0.out (.slice (some ⟨b, off, none⟩) L.length lc) (strv L) rfl HW.out (strv_one _) ?c3 ?c4 ?c5 ?_
         rotate_left 3
         intro v' w3 hown3 hg3
         have b3 : Below w.heap.size w w3 := ((Below.refl w.heap.size w).alloc (Nat.le_refl _) _).grown hg3 (by simp) (fun k hk => by simp [Value.ownBlock] at hk; omega)
         have O3 := Lib.hid hown3
         have B3 := Lib.hid b3
         clear hown3 hg3 b3 O0)
      | (at_builtin; refine wpList_append_row rfl _ _ 22 rfl w.heap.size 9 i0 (.string ByteArray.empty) 16 Try.underlying22 hi hz0 hz1 hz2 rfl v' _ (strv L) rfl (by simpa using O3.out.alloc (.cells #[.string arg] 9)) (.slice (some ⟨w3.heap.size, 0, none⟩) 1 1) (strv [arg]) rfl (I := fun _ => True) (SliceOf.one w3 _ _ _ rfl trivial) (strv_one _) ?c6 ?c7 ?c8 ?_
         rotate_left 3
         intro v6 w6 hown6 hg6
         have b6 : Below w.heap.size w w6 := (B3.out.alloc B3.out.size _).grown hg6 (by have := B3.out.size; simp; omega) (fun k hk => (O3.out.lt k hk).1)
         have O6 := Lib.hid hown6
         have B6 := Lib.hid b6
         have MM := Lib.hid (HM.out.same (HS.out w6 b6))
         clear hown6 hg6 b6 O3 B3)
      | (at_builtin; refine wpList_append_row rfl _ _ 22 rfl w.heap.size 9 i0 (.string ByteArray.empty) 16 Try.underlying22 hi hz0 hz1 hz2 rfl v6 _ (strv L ++ strv [arg]) rfl O6.out (.slice ma M.length mc) (strv M) rfl MM.out (strv_one _) ?c9 ?c10 ?c11 ?_
         rotate_left 3
         intro v9 w9 hown9 hg9
         have b9 : Below w.heap.size w w9 := B6.out.grown hg9 B6.out.size (fun k hk => (O6.out.lt k hk).1)
         have O9 := Lib.hid hown9
         have B9 := Lib.hid b9
         clear hown9 hg9 b9 O6 B6 MM))
    case c3 => simp [strv, maxLen]; omega
    case c4 => simp [strv]; omega
    case c5 => simp
    case c6 => simp [strv, maxLen]; omega
    case c7 => simp [strv]; omega
    case c8 => have := B3.out.size; simp; omega
    case c9 => simp [strv, maxLen]; omega
    case c10 => simp [strv]; omega
    case c11 => exact B6.out.size
    have hwt := walkTemplates_any w9 (I := Old w) (HI.out w9 B9.out) _ _ L arg M L.length (HL.out.same (HS.out w9 B9.out)) (HM.out.same (HS.out w9 B9.out)) C1.out c2 c3 (by omega)
    have HWT := Lib.hid hwt
    clear hwt
    refine (HWT.out).mono ?_
    rintro e w4 ⟨v4, rfl, hs4, hb4⟩
    rw [vis_all] at hs4
    have hs3 : SliceOf w4 (fun _ => True) v9 (strv (L ++ arg :: M)) := by
      have h := (SliceOf.owned (I := fun i => i < w9.heap.size) O9.out (fun _ _ h => h)).same (Same.below hb4 fun _ h => h)
      have e : strv L ++ strv [arg] ++ strv M = strv (L ++ arg :: M) := by simp [strv]
      rw [e] at h
      exact h.mono fun _ _ => trivial
    have HAL := Lib.hid (alike_same v4 v9 (L ++ arg :: M) w4 hs4 hs3)
    have B4 := Lib.hid (B9.out.trans (hb4.mono B9.out.size))
    clear hs4 hs3 hb4
    go_wp2_with fail
    refine (HAL.out).mono ?_
    rintro e w5 ⟨rfl, rfl⟩
    go_wp2_with fail
    go_ret
    exact ⟨rfl, B4.out⟩
  · have e2 : ((K : Int) == (L.length : Int)) = false := beq_eq_false_iff_ne.2 (by omega)
    go_enter Try.func3, Try.ntmps3
    go_wp2_with fail
    refine (h1.out).mono ?_
    rintro e w' ⟨rfl, rfl⟩
    go_wp2_with fail
    refine (h2.out).mono ?_
    rintro e w' ⟨rfl, rfl⟩
    go_wp2_with fail
    refine (h4.out).mono ?_
    rintro e w' ⟨rfl, rfl⟩
    have own0 := World.ownsRow_lit (base := w.heap.size) (size := 1) (e := 9) w #[] 0 (by omega) (by unfold maxLen; omega) rfl
    have O0 := Lib.hid own0
    clear own0
    go_wp2_with (first
      | (at_builtin; refine wpList_append_row rfl _ _ 22 rfl w.heap.size 9 i0 (.string ByteArray.empty) 16 Try.underlying22 hi hz0 hz1 hz2 rfl (.slice (some ⟨w.heap.size, 0, none⟩) 0 0) 0 [] rfl O0.out (.slice (some ⟨b, off, none⟩) K lc) (strv (L.take K)) rfl HW.out (strv_one _) ?c3 ?c4 ?c5 ?_
         rotate_left 3
         intro v' w3 hown3 hg3
         have O3 := Lib.hid hown3
         have G3 := Lib.hid hg3
         clear hown3 hg3))
    case c3 => simp [strv, maxLen]; omega
    case c4 => simp [strv]; omega
    case c5 => simp
    have b3 : Below w.heap.size w w3 := ((Below.refl w.heap.size w).alloc (Nat.le_refl _) _).grown G3.out (by simp) (fun k hk => by simp [Value.ownBlock] at hk; omega)
    have hwt := walkTemplates_any w3 (I := Old w) (HI.out w3 b3) _ _ L arg M K (HL.out.same (HS.out w3 b3)) (HM.out.same (HS.out w3 b3)) C1.out c2 c3 (by omega)
    have HWT := Lib.hid hwt
    have B3 := Lib.hid b3
    clear hwt b3
    refine (HWT.out).mono ?_
    rintro e w4 ⟨v4, rfl, hs4, hb4⟩
    rw [vis_take K L _ (by omega)] at hs4
    have hs3 : SliceOf w4 (fun _ => True) v' (strv (L.take K)) := (SliceOf.owned (I := fun i => i < w3.heap.size) (by simpa using O3.out) (fun _ _ h => h)).same (Same.below hb4 fun _ h => h) |>.mono fun _ _ => trivial
    have HAL := Lib.hid (alike_same v4 v' (L.take K) w4 hs4 hs3)
    have B4 := Lib.hid (B3.out.trans (hb4.mono B3.out.size))
    clear hs4 hs3 hb4
    go_wp2_with fail
    refine (HAL.out).mono ?_
    rintro e w5 ⟨rfl, rfl⟩
    go_wp2_with fail
    go_ret
    exact ⟨rfl, B4.out⟩
end Go.Proofs.Ytnhccgbkalpcnaa
