/- The law's own helper smList: texts with commas between. -/
import Derived.Test.YtcobcgkeojeagaaGreatPList
import Derived.Test.YtcobcgkeojeagaaGreatTrees
namespace Go.Proofs.YtcobcgkeojeagaaGreat
open Go.RowKit

/-- no text is too long -/
def elFit (l : List ByteArray) : Prop := ∀ s ∈ l, s.size ≤ 2147483647

theorem fitsB_el {l : List ByteArray} (hl : fitsB l = true) : elFit l := by
  simp only [fitsB, Bool.and_eq_true, decide_eq_true_eq, List.all_eq_true] at hl
  exact hl.2

theorem elFit_cons {s : ByteArray} {l : List ByteArray} (hs : s.size ≤ 2147483647) (hl : elFit l) : elFit (s :: l) := by
  intro x hx
  rcases List.mem_cons.1 hx with rfl | hx
  · exact hs
  · exact hl x hx

theorem fitsB_get {l : List ByteArray} (hl : elFit l) {j : Nat} (h : j < l.length) : l[j].size ≤ 2147483647 := hl _ (List.getElem_mem h)

/-- texts with commas between -/
def jb (ss : List ByteArray) : List UInt8 := joinC (ss.map fun s => s.data.toList)

theorem jb_snoc (ss : List ByteArray) {j : Nat} (h : j < ss.length) : jb (ss.take (j + 1)) = jb (ss.take j) ++ (if 0 < j then [44, 32] else []) ++ ss[j].data.toList := by
  rw [List.take_succ_eq_append_getElem h, jb, List.map_append]
  rcases Nat.eq_zero_or_pos j with h0 | h0
  · subst h0
    simp [joinC, jb]
  · rw [if_pos h0]
    have hne : (ss.take j).map (fun s => s.data.toList) ≠ [] := by
      intro e
      have h2 : ((ss.take j).map (fun s => s.data.toList)).length = j := by rw [List.length_map, List.length_take]; omega
      rw [e] at h2
      simp at h2
      omega
    exact joinC_snoc _ _ hne

theorem jb_upto (K : Nat) (hK : 2147483649 ≤ K) (l : List ByteArray) (j : Nat) (hl : elFit l) : (jb (l.take j)).length ≤ j * K := by
  induction j with
  | zero => simp [jb, joinC]
  | succ j ih =>
    rw [Nat.succ_mul]
    generalize j * K = m at *
    rcases Nat.lt_or_ge j l.length with h | h
    · rw [jb_snoc l h, List.length_append, List.length_append, ba_size]
      have h2 := fitsB_get hl h
      have h3 : (if 0 < j then [44, 32] else ([] : List UInt8)).length ≤ 2 := by split <;> simp
      omega
    · have e1 : l.take (j + 1) = l := List.take_of_length_le (by omega)
      have e2 : l.take j = l := List.take_of_length_le h
      rw [e1]
      rw [e2] at ih
      omega

theorem jb_size (l : List ByteArray) (j : Nat) (hl : elFit l) (hj : j ≤ 1000) : (jb (l.take j)).length ≤ 3000000000000 := by
  have h := jb_upto 2147483649 (Nat.le_refl _) l j hl
  have h2 : j * 2147483649 ≤ 2147483649000 := Nat.le_trans (Nat.mul_le_mul_right _ hj) (by decide)
  exact Nat.le_trans h (Nat.le_trans h2 (by decide))

/-- smList takes the list -/
def listOk (ss : List ByteArray) : Bool := decide (ss.length ≤ 1000) && ss.all fun s => decide (s.size ≠ 0)

theorem listOk_get {ss : List ByteArray} (h : listOk ss = true) : ss.length ≤ 1000 ∧ ∀ s ∈ ss, s.size ≠ 0 := by
  simp only [listOk, Bool.and_eq_true, decide_eq_true_eq, List.all_eq_true] at h
  exact h

theorem listOk_true {ss : List ByteArray} (h1 : ss.length ≤ 1000) (h : ∀ i (h : i < ss.length), i < ss.length → ss[i].size ≠ 0) : listOk ss = true := by
  simp only [listOk, Bool.and_eq_true, decide_eq_true_eq, List.all_eq_true]
  refine ⟨h1, fun s hs => ?_⟩
  obtain ⟨i, hi, rfl⟩ := List.mem_iff_getElem.1 hs
  exact h i hi hi

theorem listOk_long {ss : List ByteArray} (h : 1000 < ss.length) : listOk ss = false := by
  simp only [listOk, Bool.and_eq_false_iff, decide_eq_false_iff_not]
  exact .inl (by omega)

theorem listOk_empty {ss : List ByteArray} {i : Nat} (hi : i < ss.length) (h : ss[i].size = 0) : listOk ss = false := by
  simp only [listOk, Bool.and_eq_false_iff, List.all_eq_false]
  exact .inr ⟨_, List.getElem_mem hi, by simp [h]⟩

theorem empty_eq {s : ByteArray} (h : s.size = 0) : s = ⟨#[]⟩ := by
  apply ba_ext
  rw [List.eq_nil_of_length_eq_zero (l := s.data.toList) (by rw [ba_size]; exact h)]

theorem beq_empty {s : ByteArray} (h : s.size ≠ 0) : s.toList.isEmpty = false := by
  rw [ByteArray.toList_eq]
  cases e : s.data.toList with
  | nil => exact absurd (by rw [← ba_size, e]; rfl) h
  | cons a l => rfl

set_option maxRecDepth 100000 in
set_option maxHeartbeats 1000000 in
theorem smList_any {I : Nat → Prop} (v : Value) (ss : List ByteArray) (w : World) (h : SliceOf w I v (strv ss)) (hfit : elFit ss) :
    Calls Tryz.prog 7 #[v] w fun e w' => w = w' ∧ ((listOk ss = true ∧ ∃ t : ByteArray, t.data.toList = jb ss ∧ e = .returned (.tuple #[.string t, .bool true])) ∨ (listOk ss = false ∧ e = .returned (.tuple #[.string ⟨#[]⟩, .bool false]))) := by
  obtain ⟨a, cap, rfl, hl, hc, hr⟩ := h.strs
  have HR := Lib.hid hr
  have HF := Lib.hid hfit
  clear h hr hfit
  go_enter Tryz.func7, Tryz.ntmps7
  go_wp2_with fail
  go_loopg [4, 9] (ss.length) (fun k t i wr => w = wr ∧ ∃ j : Nat, j + k = ss.length ∧ i = .int .i64 j ∧ ∃ T : ByteArray, t = .string T ∧ Hid (T.data.toList = jb (ss.take j)) ∧ Hid (∀ i (h : i < ss.length), i < j → ss[i].size ≠ 0) ∧ Hid (0 < j → ss.length ≤ 1000))
  case atStart => exact ⟨rfl, 0, by omega, rfl, _, rfl, rfl, fun i h hi => by omega, fun h => by omega⟩
  case round =>
    obtain ⟨rfl, j, hj, rfl, T, rfl, ht, hne, hsm⟩ := hrel
    by_cases hlt : j < ss.length
    · rcases HR.out with rfl | ⟨b, off, rfl, hbI, hcell⟩
      · simp at hlt
      have hc1 := hcell j hlt
      have hfj := fitsB_get HF.out hlt
      have HSN := Lib.hid (jb_snoc ss hlt)
      by_cases h0 : ss[j].size = 0
      · have HE := Lib.hid (listOk_empty hlt h0)
        rw [empty_eq h0] at hc1
        clear hcell hfj h0 HSN
        go_wp2_with fail
        go_ret2
        exact ⟨rfl, .inr ⟨HE.out, rfl⟩⟩
      · have hbe := beq_empty h0
        by_cases h1 : 1000 < ss.length
        · have HE := Lib.hid (listOk_long h1)
          clear hcell HSN
          go_wp2_with fail
          go_ret2
          exact ⟨rfl, .inr ⟨HE.out, rfl⟩⟩
        · have hz := jb_size ss j HF.out (by omega)
          rw [← ht.out, ba_size] at hz
          have HN := Lib.hid (show ∀ i (h : i < ss.length), i < j + 1 → ss[i].size ≠ 0 from fun i h hi => by
            rcases Nat.lt_or_ge i j with h' | h'
            · exact hne.out i h h'
            · obtain rfl : i = j := by omega
              exact h0)
          clear hcell
          by_cases hj0 : 0 < j
          · go_wp2_with fail
            go_roundg (gk - 1)
            case measure => omega
            case rel => exact ⟨rfl, j + 1, by omega, by go_num, _, rfl, by show _ = _; rw [HSN.out, if_pos hj0, ba_append, ba_append, ht.out], HN.out, fun _ => by omega⟩
          · go_wp2_with fail
            go_roundg (gk - 1)
            case measure => omega
            case rel => exact ⟨rfl, j + 1, by omega, by go_num, _, rfl, by show _ = _; rw [HSN.out, if_neg hj0, ba_append, ht.out, List.append_nil], HN.out, fun _ => by omega⟩
    · obtain rfl : j = ss.length := by omega
      have hok : listOk ss = true := listOk_true (by
        rcases Nat.eq_zero_or_pos ss.length with h | h
        · omega
        · exact hsm.out h) (fun i h hi => hne.out i h hi)
      have HO := Lib.hid hok
      have HT := Lib.hid (show T.data.toList = jb ss by rw [ht.out, List.take_length])
      clear hok
      go_wp2_with fail
      go_ret2
      exact ⟨rfl, .inl ⟨HO.out, T, HT.out, rfl⟩⟩

end Go.Proofs.YtcobcgkeojeagaaGreat
