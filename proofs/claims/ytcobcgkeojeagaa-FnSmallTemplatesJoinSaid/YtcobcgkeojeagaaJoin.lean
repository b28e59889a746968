/- FnSmallTemplatesJoin returns true, whatever it is given. -/
import Derived.Test.YtcobcgkeojeagaaTText
namespace Go.Proofs.Ytcobcgkeojeagaa
open Go.RowKit

theorem infoStr : (Try.prog.info? 9).map (fun i => (i.zero, i.size, i.bytes)) = some (some (.string ByteArray.empty), 1, 16) := by kernel_rfl

theorem fitsB_len {L : List ByteArray} (hL : fitsB L = true) : L.length ≤ 2147483647 := by
  simp only [fitsB, Bool.and_eq_true, decide_eq_true_eq] at hL
  exact hL.1

/-- where the arguments are too great -/
theorem join_early (w : World) (s arg : ByteArray) (la ma : Option Addr) (lc mc : Nat) (L M : List ByteArray) (hl : SliceOf w (Old w) (.slice la L.length lc) (strv L)) (hm : SliceOf w (Old w) (.slice ma M.length mc) (strv M))
    (h : 2147483647 < s.size ∨ fitsB L = false ∨ 2147483647 < arg.size ∨ fitsB M = false) :
    Calls Try.prog 10 #[.string s, .slice la L.length lc, .string arg, .slice ma M.length mc] w fun e w' => e = .returned (.bool true) ∧ w = w' := by
  have h1 := Lib.hid (fits_any _ L w hl)
  have h2 := Lib.hid (fits_any _ M w hm)
  clear hl hm
  by_cases g1 : 2147483647 < s.size
  · clear h
    go_enter Try.func10, Try.ntmps10
    go_wp2_with fail
    go_ret
    exact ⟨rfl, rfl⟩
  · rcases Bool.eq_false_or_eq_true (fitsB L) with f1 | f1
    · by_cases g2 : 2147483647 < arg.size
      · clear h
        go_enter Try.func10, Try.ntmps10
        go_wp2_with fail
        refine (h1.out).mono ?_
        rintro e w' ⟨rfl, rfl⟩
        go_wp2_with fail
        go_ret
        exact ⟨rfl, rfl⟩
      · have f3 : fitsB M = false := by
          rcases h with h | h | h | h
          · exact absurd h g1
          · rw [f1] at h; cases h
          · exact absurd h g2
          · exact h
        clear h
        go_enter Try.func10, Try.ntmps10
        go_wp2_with fail
        refine (h1.out).mono ?_
        rintro e w' ⟨rfl, rfl⟩
        go_wp2_with fail
        refine (h2.out).mono ?_
        rintro e w' ⟨rfl, rfl⟩
        go_wp2_with fail
        go_ret
        exact ⟨rfl, rfl⟩
    · clear h
      go_enter Try.func10, Try.ntmps10
      go_wp2_with fail
      refine (h1.out).mono ?_
      rintro e w' ⟨rfl, rfl⟩
      go_wp2_with fail
      go_ret
      exact ⟨rfl, rfl⟩

theorem tc_ba (s : ByteArray) (L A : List ByteArray) {r : ByteArray} (h : r.data.toList = tcOut s.data.toList (⟨(inText L A).toArray⟩ : ByteArray).data.toList) : (⟨(inText (s :: L) A).toArray⟩ : ByteArray) = r := by
  apply ba_ext
  rw [h]
  rfl

set_option maxRecDepth 100000 in
set_option maxHeartbeats 4000000 in
theorem join_main (w : World) (s arg : ByteArray) (la ma : Option Addr) (lc mc : Nat) (L M : List ByteArray) (hl : SliceOf w (Old w) (.slice la L.length lc) (strv L)) (hm : SliceOf w (Old w) (.slice ma M.length mc) (strv M))
    (g1 : ¬ 2147483647 < s.size) (f1 : fitsB L = true) (g2 : ¬ 2147483647 < arg.size) (f2 : fitsB M = true) :
    Calls Try.prog 10 #[.string s, .slice la L.length lc, .string arg, .slice ma M.length mc] w fun e w' => e = .returned (.bool true) ∧ Below w.heap.size w w' := by
  have h1 := Lib.hid (fits_any _ L w hl)
  have h2 := Lib.hid (fits_any _ M w hm)
  have nL := fitsB_len f1
  have nM := fitsB_len f2
  have HL := Lib.hid (fun W (k : Below w.heap.size w W) => hl.same (Same.below k fun _ h => h))
  have HM := Lib.hid (fun W (k : Below w.heap.size w W) => hm.same (Same.below k fun _ h => h))
  have F1 := Lib.hid f1
  have F2 := Lib.hid f2
  clear hl hm f1 f2
  obtain ⟨i0, hi, hz0, hz1, hz2⟩ := info_parts infoStr
  go_enter Try.func10, Try.ntmps10
  go_wp2_with fail
  refine (h1.out).mono ?_
  rintro e w' ⟨rfl, rfl⟩
  have F1' := F1.out
  go_wp2_with fail
  refine (h2.out).mono ?_
  rintro e w' ⟨rfl, rfl⟩
  have F2' := F2.out
  have own0 := World.ownsRow_lit (base := w.heap.size) (size := 1) (e := 9) w #[.string arg] 1 (by omega) (by unfold maxLen; omega) rfl
  have O0 := Lib.hid own0
  clear own0
  have HM1 := Lib.hid (HM.out _ ((Below.refl w.heap.size w).alloc (Nat.le_refl _) (.cells #[.string arg] 9)))
  go_wp2_with (at_builtin; refine wpList_append_row rfl _ _ 28 rfl w.heap.size 9 i0 (.string ByteArray.empty) 16 Try.underlying28 hi hz0 hz1 hz2 rfl (.slice (some ⟨w.heap.size, 0, none⟩) 1 1) 1 [.string arg] rfl O0.out (.slice ma M.length mc) (strv M) rfl HM1.out (strv_one _) ?c1 ?c2 ?c3 ?_
               rotate_left 3
               intro v' w3 hown3 hg3
               have O3 := Lib.hid hown3
               have G3 := Lib.hid hg3
               clear hown3 hg3)
  case c1 => rw [strv_length]; unfold maxLen; omega
  case c2 => rw [strv_length]; omega
  case c3 => simp
  have b3 : Below w.heap.size w w3 := ((Below.refl w.heap.size w).alloc (Nat.le_refl _) _).grown G3.out (by simp) (fun k hk => by simp [Value.ownBlock] at hk; omega)
  have hs3 : SliceOf w3 (Old w3) v' (strv (arg :: M)) := SliceOf.owned (I := Old w3) O3.out (fun i _ h => h)
  have HS3 := Lib.hid (smList_any v' (arg :: M) w3 hs3 (elFit_cons (by omega) (fitsB_el F2.out)))
  have HS4 := Lib.hid (smList_any (.slice la L.length lc) L w3 (HL.out w3 b3) (fitsB_el F1.out))
  have B3 := Lib.hid b3
  clear b3 hs3 O0 O3 G3 F1' F2' HM1
  refine (HS3.out).mono ?_
  rintro e w4 ⟨rfl, ⟨ok, t1, ht1, rfl⟩ | ⟨no, rfl⟩⟩
  · have OK1 := Lib.hid (listOk_get ok)
    clear ok ht1
    go_wp2_with fail
    refine (HS4.out).mono ?_
    rintro e w5 ⟨rfl, ⟨ok2, t2, ht2, rfl⟩ | ⟨no, rfl⟩⟩
    · have OK2 := Lib.hid (listOk_get ok2)
      clear ok2 ht2
      by_cases h0 : s.size = 0
      · obtain rfl := empty_eq h0
        clear h0
        go_wp2_with fail
        go_ret
        exact ⟨rfl, B3.out⟩
      · have hbe := beq_empty h0
        by_cases hL0 : L = []
        · subst hL0
          clear h0
          go_wp2_with fail
          go_ret
          exact ⟨rfl, B3.out⟩
        · have e1 : ((L.length : Int) == 0) = false := beq_eq_false_iff_ne.2 (by have := List.length_pos_iff.2 hL0; omega)
          have H0 := Lib.hid (And.intro h0 hL0)
          have own5 := World.ownsRow_lit (base := w3.heap.size) (size := 1) (e := 9) w3 #[.string s] 1 (by omega) (by unfold maxLen; omega) rfl
          have O5 := Lib.hid own5
          have HL5 := Lib.hid (HL.out _ (B3.out.alloc B3.out.size (.cells #[.string s] 9)))
          clear own5 h0 hL0
          go_wp2_with (at_builtin; refine wpList_append_row rfl _ _ 28 rfl w3.heap.size 9 i0 (.string ByteArray.empty) 16 Try.underlying28 hi hz0 hz1 hz2 rfl (.slice (some ⟨w3.heap.size, 0, none⟩) 1 1) 1 [.string s] rfl O5.out (.slice la L.length lc) (strv L) rfl HL5.out (strv_one _) ?d1 ?d2 ?d3 ?_
                       rotate_left 3
                       intro v6 w6 hown6 hg6
                       have O6 := Lib.hid hown6
                       have G6 := Lib.hid hg6
                       clear hown6 hg6)
          case d1 => rw [strv_length]; unfold maxLen; omega
          case d2 => rw [strv_length]; omega
          case d3 => simp
          have b6 : Below w3.heap.size w3 w6 := ((Below.refl w3.heap.size w3).alloc (Nat.le_refl _) _).grown G6.out (by simp) (fun k hk => by simp [Value.ownBlock] at hk; omega)
          have hs6 : SliceOf w6 (Old w6) v6 (strv (s :: L)) := SliceOf.owned (I := Old w6) O6.out (fun i _ h => h)
          have b06 := B3.out.trans (b6.mono B3.out.size)
          have el1 := elFit_cons (s := s) (by omega) (fitsB_el F1.out)
          have el2 := elFit_cons (s := arg) (by omega) (fitsB_el F2.out)
          have hm6 := (HM.out w6 b06).mono (J := Old w6) (fun i h => Nat.lt_of_lt_of_le h b06.size)
          have HT1 := Lib.hid (printTemplates_any w6 (I := Old w6) (fun _ h => h) v6 (.slice ma M.length mc) (s :: L) arg M hs6 hm6 (by simp) (by have := OK2.out.1; simp; omega) OK1.out.1 el1 el2 (by
            intro x hx
            rcases List.mem_cons.1 hx with rfl | hx
            · exact H0.out.1
            · exact OK2.out.2 x hx))
          have B6 := Lib.hid b06
          clear b6 hs6 b06 el1 hm6 O5 HL5 O6 G6
          refine (HT1.out).mono ?_
          rintro e w7 ⟨rfl, b7⟩
          have b07 := B6.out.trans (b7.mono B6.out.size)
          have hl7 := (HL.out w7 b07).mono (J := Old w7) (fun i h => Nat.lt_of_lt_of_le h b07.size)
          have hm7 := (HM.out w7 b07).mono (J := Old w7) (fun i h => Nat.lt_of_lt_of_le h b07.size)
          have HT2 := Lib.hid (printTemplates_any w7 (I := Old w7) (fun _ h => h) (.slice la L.length lc) (.slice ma M.length mc) L arg M hl7 hm7 H0.out.2 (by have := OK2.out.1; omega) OK1.out.1 (fitsB_el F1.out) el2 OK2.out.2)
          have hz := inText_size L (arg :: M) (by have := OK2.out.1; omega) OK1.out.1 (fitsB_el F1.out) el2
          have B7 := Lib.hid b07
          clear b07 hl7 hm7 b7 el2 HT1
          go_wp2_with fail
          refine (HT2.out).mono ?_
          rintro e w8 ⟨rfl, b8⟩
          have HCl := Lib.hid (closed_any s ⟨(inText L (arg :: M)).toArray⟩ w8 (by omega) (by show (inText L (arg :: M)).toArray.size ≤ _; simp; omega))
          have B8 := Lib.hid (B7.out.trans (b8.mono B7.out.size))
          clear b8 HT2 hz
          go_wp2_with fail
          refine (HCl.out).mono ?_
          rintro e w9 ⟨rfl, r, hr, rfl⟩
          rw [tc_ba s L (arg :: M) hr]
          clear hr HCl
          go_wp2_with fail
          go_ret
          exact ⟨rfl, B8.out⟩
    · clear no
      go_wp2_with fail
      go_ret
      exact ⟨rfl, B3.out⟩
  · clear no
    go_wp2_with fail
    refine (HS4.out).mono ?_
    rintro e w5 ⟨rfl, ⟨ok2, t2, ht2, rfl⟩ | ⟨no, rfl⟩⟩
    · clear ok2 ht2
      go_wp2_with fail
      go_ret
      exact ⟨rfl, B3.out⟩
    · clear no
      go_wp2_with fail
      go_ret
      exact ⟨rfl, B3.out⟩

theorem joinLaw (w : World) (s : ByteArray) (lv : Value) (L : List ByteArray) (hl : SliceOf w (Old w) lv (strv L)) (arg : ByteArray) (mv : Value) (M : List ByteArray) (hm : SliceOf w (Old w) mv (strv M)) :
    Calls Try.prog 10 #[.string s, lv, .string arg, mv] w fun e w' => e = .returned (.bool true) ∧ Below w.heap.size w w' := by
  obtain ⟨la, lc, rfl, _⟩ := hl.strs
  obtain ⟨ma, mc, rfl, _⟩ := hm.strs
  by_cases g : 2147483647 < s.size ∨ fitsB L = false ∨ 2147483647 < arg.size ∨ fitsB M = false
  · refine (join_early w s arg la ma lc mc L M hl hm g).mono ?_
    rintro e w' ⟨rfl, rfl⟩
    exact ⟨rfl, Below.refl _ _⟩
  · simp only [not_or, Bool.not_eq_false] at g
    exact join_main w s arg la ma lc mc L M hl hm g.1 g.2.1 g.2.2.1 g.2.2.2

end Go.Proofs.Ytcobcgkeojeagaa
