/- FnSmallFunction, FnSmallFunctionType, FnSmallMember return true, whatever they are given. -/
import Derived.Test.YtcobcgkeojeagaaGreatFuncCalls
namespace Go.Proofs.YtcobcgkeojeagaaGreat
open Go.RowKit

theorem lastOf_last (s : ByteArray) (h : 0 < s.size) (m : Int) : lastOf m s.data.toList = (s[s.size - 1].toNat : Int) := lastOf_size m s h

/-- what smClean may answer -/
def CleanRes (s : ByteArray) (e : Ending) : Prop := ∃ r : Bool, e = .returned (.bool r) ∧ (r = true → ∀ l, lastOf l s.data.toList ≠ 40)

set_option maxRecDepth 100000 in
set_option maxHeartbeats 2000000 in
/-- what smClean takes does not end with an opening parenthesis -/
theorem smClean_any (s : ByteArray) (w : World) (hs : s.size ≤ 2147483647) : Calls Tryz.prog 9 #[.string s] w fun e w' => w = w' ∧ CleanRes s e := by
  by_cases h0 : s.size = 0
  · obtain rfl := empty_eq h0
    clear h0
    go_enter Tryz.func9, Tryz.ntmps9
    go_wp2_with fail
    go_ret
    exact ⟨rfl, false, rfl, fun h => by cases h⟩
  · have hbe := beq_empty h0
    have HL := Lib.hid (lastOf_last s (by omega))
    by_cases h40 : (s[s.size - 1]'(by omega)).toNat = 40
    · have hx : s[s.size - 1]'(by omega) = 40 := by
        apply UInt8.toNat_inj.1
        rw [h40]
        rfl
      go_enter Tryz.func9, Tryz.ntmps9
      go_wp2_with fail
      go_ret
      exact ⟨rfl, false, rfl, fun h => by cases h⟩
    · have H40 := Lib.hid (show ∀ l, lastOf l s.data.toList ≠ 40 from fun l => by rw [HL.out]; omega)
      clear h40 HL
      go_enter Tryz.func9, Tryz.ntmps9
      go_wp2_with fail
      all_goals go_ret
      all_goals exact ⟨rfl, _, rfl, fun _ => H40.out⟩

theorem fun_ba (s t : ByteArray) (A : List ByteArray) (ht : t.data.toList = jb A) : (⟨(s.data.toList ++ pb A).toArray⟩ : ByteArray) = s ++ ⟨#[40]⟩ ++ t ++ ⟨#[41]⟩ := by
  apply ba_ext
  simp only [ba_append, ht, pb]
  simp

theorem ft_ba (s t : ByteArray) (A : List ByteArray) (ht : t.data.toList = jb A) : (⟨(s.data.toList ++ [32] ++ pb A).toArray⟩ : ByteArray) = s ++ ⟨#[32, 40]⟩ ++ t ++ ⟨#[41]⟩ := by
  apply ba_ext
  simp only [ba_append, ht, pb]
  simp

theorem mem_ba (s c : ByteArray) : (⟨(s.data.toList ++ [32] ++ c.data.toList ++ [58, 58, 42]).toArray⟩ : ByteArray) = s ++ ⟨#[32]⟩ ++ c ++ ⟨#[58, 58, 42]⟩ := by
  apply ba_ext
  simp only [ba_append]

theorem mp_ba (s c t : ByteArray) (A : List ByteArray) (ht : t.data.toList = jb A) :
    (⟨(s.data.toList ++ [32] ++ [40] ++ c.data.toList ++ [58, 58, 42] ++ [41] ++ pb A).toArray⟩ : ByteArray) = s ++ ⟨#[32, 40]⟩ ++ c ++ ⟨#[58, 58, 42, 41, 40]⟩ ++ t ++ ⟨#[41]⟩ := by
  apply ba_ext
  simp only [ba_append, ht, pb]
  simp

set_option maxRecDepth 100000 in
set_option maxHeartbeats 2000000 in
theorem functionLaw (w : World) (s : ByteArray) (v : Value) (A : List ByteArray) (h : SliceOf w (Old w) v (strv A)) :
    Calls Tryz.prog 3 #[.string s, v] w fun e w' => e = .returned (.bool true) ∧ Below w.heap.size w w' := by
  have HF := Lib.hid (fits_any v A w h)
  obtain ⟨la, lc, rfl, _⟩ := h.strs
  by_cases g1 : 2147483647 < s.size
  · clear h
    go_enter Tryz.func3, Tryz.ntmps3
    go_wp2_with fail
    go_ret
    exact ⟨rfl, Below.refl _ _⟩
  · rcases Bool.eq_false_or_eq_true (fitsB A) with f1 | f1
    · have HS := Lib.hid (smList_any (.slice la A.length lc) A w h (fitsB_el f1))
      have F1 := Lib.hid (fitsB_el f1)
      have HH := Lib.hid h
      clear h
      go_enter Tryz.func3, Tryz.ntmps3
      go_wp2_with fail
      refine (HF.out).mono ?_
      rintro e w' ⟨rfl, rfl⟩
      go_wp2_with fail
      clear f1
      refine (HS.out).mono ?_
      rintro e w4 ⟨rfl, ⟨ok, t1, ht1, rfl⟩ | ⟨no, rfl⟩⟩
      · have OK1 := Lib.hid (listOk_get ok)
        have HT1 := Lib.hid ht1
        clear ok ht1
        by_cases h0 : s.size = 0
        · obtain rfl := empty_eq h0
          clear h0
          go_wp2_with fail
          go_ret
          exact ⟨rfl, Below.refl _ _⟩
        · have hbe := beq_empty h0
          have HP := Lib.hid (printFunction_any w (I := Old w) (fun _ h => h) s (.slice la A.length lc) A HH.out OK1.out.1 (by omega) F1.out)
          have hz : t1.size ≤ 30000000000000 := by
            have := jb_size A A.length F1.out OK1.out.1
            rw [List.take_length, ← HT1.out, ba_size] at this
            omega
          clear h0
          go_wp2_with fail
          refine (HP.out).mono ?_
          rintro e w5 ⟨rfl, b5⟩
          have B5 := Lib.hid b5
          clear b5 HP
          rw [fun_ba s t1 A HT1.out]
          go_wp2_with fail
          go_ret
          exact ⟨rfl, B5.out⟩
      · clear no
        go_wp2_with fail
        go_ret
        exact ⟨rfl, Below.refl _ _⟩
    · clear h
      go_enter Tryz.func3, Tryz.ntmps3
      go_wp2_with fail
      refine (HF.out).mono ?_
      rintro e w' ⟨rfl, rfl⟩
      go_wp2_with fail
      go_ret
      exact ⟨rfl, Below.refl _ _⟩

set_option maxRecDepth 100000 in
set_option maxHeartbeats 2000000 in
theorem functionTypeLaw (w : World) (s : ByteArray) (v : Value) (A : List ByteArray) (h : SliceOf w (Old w) v (strv A)) :
    Calls Tryz.prog 4 #[.string s, v] w fun e w' => e = .returned (.bool true) ∧ Below w.heap.size w w' := by
  have HF := Lib.hid (fits_any v A w h)
  obtain ⟨la, lc, rfl, _⟩ := h.strs
  by_cases g1 : 2147483647 < s.size
  · clear h
    go_enter Tryz.func4, Tryz.ntmps4
    go_wp2_with fail
    go_ret
    exact ⟨rfl, Below.refl _ _⟩
  · rcases Bool.eq_false_or_eq_true (fitsB A) with f1 | f1
    · have HS := Lib.hid (smList_any (.slice la A.length lc) A w h (fitsB_el f1))
      have F1 := Lib.hid (fitsB_el f1)
      have HH := Lib.hid h
      have HC := Lib.hid (smClean_any s w (by omega))
      clear h
      go_enter Tryz.func4, Tryz.ntmps4
      go_wp2_with fail
      refine (HF.out).mono ?_
      rintro e w' ⟨rfl, rfl⟩
      go_wp2_with fail
      clear f1
      refine (HS.out).mono ?_
      rintro e w4 ⟨rfl, ⟨ok, t1, ht1, rfl⟩ | ⟨no, rfl⟩⟩
      · have OK1 := Lib.hid (listOk_get ok)
        have HT1 := Lib.hid ht1
        clear ok ht1
        go_wp2_with fail
        refine (HC.out).mono ?_
        rintro e w4 ⟨rfl, r, rfl, _⟩
        cases r with
        | false =>
          go_wp2_with fail
          go_ret
          exact ⟨rfl, Below.refl _ _⟩
        | true =>
          have HP := Lib.hid (printFunctionType_any w (I := Old w) (fun _ h => h) s (.slice la A.length lc) A HH.out OK1.out.1 (by omega) F1.out)
          have hz : t1.size ≤ 30000000000000 := by
            have := jb_size A A.length F1.out OK1.out.1
            rw [List.take_length, ← HT1.out, ba_size] at this
            omega
          go_wp2_with fail
          refine (HP.out).mono ?_
          rintro e w5 ⟨rfl, b5⟩
          have B5 := Lib.hid b5
          clear b5 HP
          rw [ft_ba s t1 A HT1.out]
          go_wp2_with fail
          go_ret
          exact ⟨rfl, B5.out⟩
      · clear no
        go_wp2_with fail
        go_ret
        exact ⟨rfl, Below.refl _ _⟩
    · clear h
      go_enter Tryz.func4, Tryz.ntmps4
      go_wp2_with fail
      refine (HF.out).mono ?_
      rintro e w' ⟨rfl, rfl⟩
      go_wp2_with fail
      go_ret
      exact ⟨rfl, Below.refl _ _⟩

set_option maxRecDepth 100000 in
set_option maxHeartbeats 4000000 in
theorem memberLaw (w : World) (s c : ByteArray) (v : Value) (A : List ByteArray) (h : SliceOf w (Old w) v (strv A)) :
    Calls Tryz.prog 5 #[.string s, .string c, v] w fun e w' => e = .returned (.bool true) ∧ Below w.heap.size w w' := by
  have HF := Lib.hid (fits_any v A w h)
  obtain ⟨la, lc, rfl, _⟩ := h.strs
  by_cases g1 : 2147483647 < s.size
  · clear h
    go_enter Tryz.func5, Tryz.ntmps5
    go_wp2_with fail
    go_ret
    exact ⟨rfl, Below.refl _ _⟩
  · by_cases g2 : 2147483647 < c.size
    · clear h
      go_enter Tryz.func5, Tryz.ntmps5
      go_wp2_with fail
      go_ret
      exact ⟨rfl, Below.refl _ _⟩
    · rcases Bool.eq_false_or_eq_true (fitsB A) with f1 | f1
      · have HS := Lib.hid (smList_any (.slice la A.length lc) A w h (fitsB_el f1))
        have F1 := Lib.hid (fitsB_el f1)
        have HH := Lib.hid (fun W (k : Below w.heap.size w W) => h.same (Same.below k fun _ h => h))
        have HC := Lib.hid (smClean_any s w (by omega))
        clear h
        go_enter Tryz.func5, Tryz.ntmps5
        go_wp2_with fail
        refine (HF.out).mono ?_
        rintro e w' ⟨rfl, rfl⟩
        go_wp2_with fail
        clear f1
        refine (HS.out).mono ?_
        rintro e w4 ⟨rfl, ⟨ok, t1, ht1, rfl⟩ | ⟨no, rfl⟩⟩
        · have OK1 := Lib.hid (listOk_get ok)
          have HT1 := Lib.hid ht1
          clear ok ht1
          go_wp2_with fail
          refine (HC.out).mono ?_
          rintro e w4 ⟨rfl, r, rfl, hr⟩
          cases r with
          | false =>
            clear hr
            go_wp2_with fail
            go_ret
            exact ⟨rfl, Below.refl _ _⟩
          | true =>
            have HR := Lib.hid (hr rfl)
            clear hr
            by_cases h0 : c.size = 0
            · obtain rfl := empty_eq h0
              clear h0
              go_wp2_with fail
              go_ret
              exact ⟨rfl, Below.refl _ _⟩
            · have hbe := beq_empty h0
              have HP := Lib.hid (printMember_any w s c (by omega) (by omega) HR.out)
              have hz : t1.size ≤ 30000000000000 := by
                have := jb_size A A.length F1.out OK1.out.1
                rw [List.take_length, ← HT1.out, ba_size] at this
                omega
              clear h0
              go_wp2_with fail
              refine (HP.out).mono ?_
              rintro e w5 ⟨rfl, b5⟩
              have HQ := Lib.hid (printMethodPointer_any w5 (I := Old w) (fun i (h : i < w.heap.size) => Nat.lt_of_lt_of_le h b5.size) s c (.slice la A.length lc) A (HH.out w5 b5) OK1.out.1 (by omega) (by omega) F1.out)
              have B5 := Lib.hid b5
              clear b5 HP
              rw [mem_ba s c]
              go_wp2_with fail
              refine (HQ.out).mono ?_
              rintro e w6 ⟨rfl, b6⟩
              have B6 := Lib.hid (B5.out.trans (b6.mono B5.out.size))
              clear b6 HQ
              rw [mp_ba s c t1 A HT1.out]
              go_wp2_with fail
              go_ret
              exact ⟨rfl, B6.out⟩
        · clear no
          go_wp2_with fail
          go_ret
          exact ⟨rfl, Below.refl _ _⟩
      · clear h
        go_enter Tryz.func5, Tryz.ntmps5
        go_wp2_with fail
        refine (HF.out).mono ?_
        rintro e w' ⟨rfl, rfl⟩
        go_wp2_with fail
        go_ret
        exact ⟨rfl, Below.refl _ _⟩

end Go.Proofs.YtcobcgkeojeagaaGreat
