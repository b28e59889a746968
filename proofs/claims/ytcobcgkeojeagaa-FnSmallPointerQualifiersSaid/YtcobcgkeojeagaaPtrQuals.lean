/- FnSmallPointerQualifiers returns true, whatever it is given. -/
import Derived.Test.YtcobcgkeojeagaaWords
import Derived.Test.YtcobcgkeojeagaaSmList
namespace Go.Proofs.Ytcobcgkeojeagaa
open Go.RowKit

/-- texts with a blank in front of each -/
def wb (ss : List ByteArray) : List UInt8 := ss.flatMap fun s => [32] ++ s.data.toList

theorem wb_snoc (ss : List ByteArray) {j : Nat} (h : j < ss.length) : wb (ss.take (j + 1)) = wb (ss.take j) ++ ([32] ++ ss[j].data.toList) := by
  rw [List.take_succ_eq_append_getElem h, wb, List.flatMap_append]
  simp [wb]

theorem wb_js : ∀ ss : List ByteArray, ss ≠ [] → wb ss = [32] ++ js ss
  | [], h => absurd rfl h
  | s :: r, _ => by simp [wb, js, joinS, List.flatMap_map]

theorem wb_upto (K : Nat) (hK : 2147483649 ≤ K) (l : List ByteArray) (j : Nat) (hl : elFit l) : (wb (l.take j)).length ≤ j * K := by
  induction j with
  | zero => simp [wb]
  | succ j ih =>
    rw [Nat.succ_mul]
    generalize j * K = m at *
    rcases Nat.lt_or_ge j l.length with h | h
    · rw [wb_snoc l h, List.length_append, List.length_append, ba_size, List.length_cons, List.length_nil]
      have h2 := fitsB_get hl h
      omega
    · have e1 : l.take (j + 1) = l := List.take_of_length_le (by omega)
      have e2 : l.take j = l := List.take_of_length_le h
      rw [e1]
      rw [e2] at ih
      omega

theorem wb_size (l : List ByteArray) (j : Nat) (hl : elFit l) (hj : j ≤ 1000) : (wb (l.take j)).length ≤ 3000000000000 := by
  have h := wb_upto 2147483649 (Nat.le_refl _) l j hl
  have h2 : j * 2147483649 ≤ 2147483649000 := Nat.le_trans (Nat.mul_le_mul_right _ hj) (by decide)
  exact Nat.le_trans h (Nat.le_trans h2 (by decide))

set_option maxRecDepth 100000 in
set_option maxHeartbeats 1000000 in
theorem smWords_any {I : Nat → Prop} (v : Value) (ss : List ByteArray) (w : World) (h : SliceOf w I v (strv ss)) (hfit : elFit ss) :
    Calls Try.prog 22 #[v] w fun e w' => w = w' ∧ ((listOk ss = true ∧ ss ≠ [] ∧ ∃ t : ByteArray, t.data.toList = wb ss ∧ e = .returned (.tuple #[.string t, .bool true])) ∨ (∃ t : ByteArray, e = .returned (.tuple #[.string t, .bool false]))) := by
  obtain ⟨a, cap, rfl, hl, hc, hr⟩ := h.strs
  have HR := Lib.hid hr
  have HF := Lib.hid hfit
  clear h hr hfit
  go_enter Try.func22, Try.ntmps22
  go_wp2_with fail
  go_loopg [4, 9] (ss.length) (fun k t i wr => w = wr ∧ ∃ j : Nat, j + k = ss.length ∧ i = .int .i64 j ∧ ∃ T : ByteArray, t = .string T ∧ Hid (T.data.toList = wb (ss.take j)) ∧ Hid (∀ i (h : i < ss.length), i < j → ss[i].size ≠ 0) ∧ Hid (0 < j → ss.length ≤ 1000))
  case atStart => exact ⟨rfl, 0, by omega, rfl, _, rfl, rfl, fun i h hi => by omega, fun h => by omega⟩
  case round =>
    obtain ⟨rfl, j, hj, rfl, T, rfl, ht, hne, hsm⟩ := hrel
    by_cases hlt : j < ss.length
    · rcases HR.out with rfl | ⟨b, off, rfl, hbI, hcell⟩
      · simp at hlt
      have hc1 := hcell j hlt
      have hfj := fitsB_get HF.out hlt
      have HSN := Lib.hid (wb_snoc ss hlt)
      by_cases h0 : ss[j].size = 0
      · rw [empty_eq h0] at hc1
        clear hcell hfj h0 HSN
        go_wp2_with fail
        go_ret2
        exact ⟨rfl, .inr ⟨_, rfl⟩⟩
      · have hbe := beq_empty h0
        by_cases h1 : 1000 < ss.length
        · clear hcell HSN
          go_wp2_with fail
          go_ret2
          exact ⟨rfl, .inr ⟨_, rfl⟩⟩
        · have hz := wb_size ss j HF.out (by omega)
          rw [← ht.out, ba_size] at hz
          have HN := Lib.hid (show ∀ i (h : i < ss.length), i < j + 1 → ss[i].size ≠ 0 from fun i h hi => by
            rcases Nat.lt_or_ge i j with h' | h'
            · exact hne.out i h h'
            · obtain rfl : i = j := by omega
              exact h0)
          clear hcell
          go_wp2_with fail
          go_roundg (gk - 1)
          case measure => omega
          case rel => exact ⟨rfl, j + 1, by omega, by go_num, _, rfl, by show _ = _; rw [HSN.out, ba_append, ba_append, ht.out], HN.out, fun _ => by omega⟩
    · obtain rfl : j = ss.length := by omega
      rcases Nat.eq_zero_or_pos ss.length with hz0 | hz0
      · have hd0 : decide ((0 : Int) < (ss.length : Int)) = false := decide_eq_false (by omega)
        clear hlt
        go_wp2_with fail
        go_ret2
        exact ⟨rfl, .inr ⟨_, by rw [hz0]; rfl⟩⟩
      · have hok : listOk ss = true := listOk_true (hsm.out hz0) (fun i h hi => hne.out i h hi)
        have HO := Lib.hid hok
        have HT := Lib.hid (show T.data.toList = wb ss by rw [ht.out, List.take_length])
        have HNN := Lib.hid (show ss ≠ [] from List.length_pos_iff.1 hz0)
        have hd0 : decide ((0 : Int) < (ss.length : Int)) = true := decide_eq_true (by omega)
        clear hok
        go_wp2_with fail
        go_ret2
        exact ⟨rfl, .inl ⟨HO.out, HNN.out, T, HT.out, rfl⟩⟩

theorem pq_ba (s t1 t2 : ByteArray) (L M : List ByteArray) (h1 : t1.data.toList = wb L) (h2 : t2.data.toList = wb M) (hL : L ≠ []) (hM : M ≠ []) :
    (⟨(s.data.toList ++ [32] ++ js L ++ [42] ++ [32] ++ js M).toArray⟩ : ByteArray) = s ++ t1 ++ ⟨#[42]⟩ ++ t2 := by
  apply ba_ext
  rw [ba_append, ba_append, ba_append, h1, h2, wb_js L hL, wb_js M hM]
  simp

set_option maxRecDepth 100000 in
set_option maxHeartbeats 2000000 in
theorem ptrQualsLaw (w : World) (s : ByteArray) (lv : Value) (L : List ByteArray) (hl : SliceOf w (Old w) lv (strv L)) (mv : Value) (M : List ByteArray) (hm : SliceOf w (Old w) mv (strv M)) :
    Calls Try.prog 8 #[.string s, lv, mv] w fun e w' => e = .returned (.bool true) ∧ Below w.heap.size w w' := by
  have HF1 := Lib.hid (fits_any lv L w hl)
  have HF2 := Lib.hid (fits_any mv M w hm)
  have HL := Lib.hid hl
  have HM := Lib.hid hm
  obtain ⟨la, lc, rfl, _⟩ := hl.strs
  obtain ⟨ma, mc, rfl, _⟩ := hm.strs
  clear hl hm
  by_cases g1 : 2147483647 < s.size
  · go_enter Try.func8, Try.ntmps8
    go_wp2_with fail
    go_ret
    exact ⟨rfl, Below.refl _ _⟩
  · rcases Bool.eq_false_or_eq_true (fitsB L) with f1 | f1
    · rcases Bool.eq_false_or_eq_true (fitsB M) with f2 | f2
      · have HS1 := Lib.hid (smWords_any (.slice la L.length lc) L w HL.out (fitsB_el f1))
        have HS2 := Lib.hid (smWords_any (.slice ma M.length mc) M w HM.out (fitsB_el f2))
        have F1 := Lib.hid (fitsB_el f1)
        have F2 := Lib.hid (fitsB_el f2)
        go_enter Try.func8, Try.ntmps8
        go_wp2_with fail
        refine (HF1.out).mono ?_
        rintro e w' ⟨rfl, rfl⟩
        go_wp2_with fail
        refine (HF2.out).mono ?_
        rintro e w' ⟨rfl, rfl⟩
        go_wp2_with fail
        clear f1 f2
        refine (HS1.out).mono ?_
        rintro e w4 ⟨rfl, ⟨ok1, n1, t1, ht1, rfl⟩ | ⟨t1, rfl⟩⟩
        · have X1 := Lib.hid (And.intro (listOk_get ok1).1 (And.intro n1 ht1))
          clear ok1 n1 ht1
          go_wp2_with fail
          refine (HS2.out).mono ?_
          rintro e w4 ⟨rfl, ⟨ok2, n2, t2, ht2, rfl⟩ | ⟨t2, rfl⟩⟩
          · have X2 := Lib.hid (And.intro (listOk_get ok2).1 (And.intro n2 ht2))
            clear ok2 n2 ht2
            have z1 := wb_size L L.length F1.out X1.out.1
            have z2 := wb_size M M.length F2.out X2.out.1
            rw [List.take_length] at z1 z2
            have y1 := z1
            have y2 := z2
            rw [← X1.out.2.2, ba_size] at y1
            rw [← X2.out.2.2, ba_size] at y2
            rw [wb_js L X1.out.2.1, List.length_append] at z1
            rw [wb_js M X2.out.2.1, List.length_append] at z2
            have HP := Lib.hid (printPointerQuals_any w (I := Old w) (fun _ h => h) s (.slice la L.length lc) (.slice ma M.length mc) L M HL.out HM.out X1.out.1 X2.out.1 (by omega))
            clear z1 z2
            go_wp2_with fail
            refine (HP.out).mono ?_
            rintro e w5 ⟨rfl, b5⟩
            have B5 := Lib.hid b5
            clear b5 HP
            rw [pq_ba s t1 t2 L M X1.out.2.2 X2.out.2.2 X1.out.2.1 X2.out.2.1]
            go_wp2_with fail
            go_ret
            exact ⟨rfl, B5.out⟩
          · go_wp2_with fail
            go_ret
            exact ⟨rfl, Below.refl _ _⟩
        · go_wp2_with fail
          refine (HS2.out).mono ?_
          rintro e w4 ⟨rfl, ⟨ok2, n2, t2, ht2, rfl⟩ | ⟨t2, rfl⟩⟩
          · clear ok2 n2 ht2
            go_wp2_with fail
            go_ret
            exact ⟨rfl, Below.refl _ _⟩
          · go_wp2_with fail
            go_ret
            exact ⟨rfl, Below.refl _ _⟩
      · go_enter Try.func8, Try.ntmps8
        go_wp2_with fail
        refine (HF1.out).mono ?_
        rintro e w' ⟨rfl, rfl⟩
        go_wp2_with fail
        refine (HF2.out).mono ?_
        rintro e w' ⟨rfl, rfl⟩
        go_wp2_with fail
        go_ret
        exact ⟨rfl, Below.refl _ _⟩
    · go_enter Try.func8, Try.ntmps8
      go_wp2_with fail
      refine (HF1.out).mono ?_
      rintro e w' ⟨rfl, rfl⟩
      go_wp2_with fail
      go_ret
      exact ⟨rfl, Below.refl _ _⟩

end Go.Proofs.Ytcobcgkeojeagaa
