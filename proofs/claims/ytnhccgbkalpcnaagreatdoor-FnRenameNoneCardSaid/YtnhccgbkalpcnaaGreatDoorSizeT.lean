/- size, Small, zzFits2. -/
import Derived.Test.YtnhccgbkalpcnaaGreatDoorHas
namespace Go.Proofs.YtnhccgbkalpcnaaGreatDoor
open Go.RowKit

theorem szs_take (ks : List Tree) {j : Nat} (h : j < ks.length) : Tree.szs (ks.take (j + 1)) = Tree.szs (ks.take j) + ks[j].sz := by
  induction ks generalizing j with
  | nil => simp at h
  | cons t r ih =>
    cases j with
    | zero => simp [Tree.szs]
    | succ j =>
      have h2 : j < r.length := by simpa using h
      simp only [List.take_succ_cons, Tree.szs, List.getElem_cons_succ]
      rw [ih h2]
      omega

set_option maxRecDepth 100000 in
set_option maxHeartbeats 2000000 in
theorem size_any (W0 : World) (t : Tree) : ∀ (d b : Int), 0 ≤ d → d ≤ 1000 → 0 ≤ b → b ≤ 200 → ∀ (v : Value), At W0 t v → ∀ w, Later W0 w →
    Calls Tryz.prog 17 #[v, .int .i64 d, .int .i64 b] w fun e w' => (∃ r : Int, e = .returned (.int .i64 r) ∧ (r = 201 ∨ r = (t.sz : Nat) ∧ r ≤ b)) ∧ Below w.heap.size w w' := by
  induction hn : t.sz using Nat.strongRecOn generalizing t with
  | ind m ih =>
  intro d b hd0 hd1 hb0 hb1 v hv w hw
  obtain ⟨k, x, n, ks⟩ := t
  obtain ⟨sv, rfl, a, c, rfl, hc1, hc2, hk⟩ := hv.kids
  have S0 := Lib.hid (St.start hw (.string k) (.string x) (.int .i64 n) (.slice a ks.length c))
  by_cases hdb : 0 < d ∧ 0 < b
  · obtain ⟨hd, hb⟩ := hdb
    have hd' : ¬ d ≤ 0 := by omega
    have hb' : ¬ b ≤ 0 := by omega
    have HM := Lib.hid (show (m : Int) = 1 + Tree.szs ks by rw [← hn]; simp only [Tree.sz]; omega)
    have HK := Lib.hid hk
    have IH := Lib.hid (fun (t : Tree) (ht : t ∈ ks) => ih t.sz (by rw [← hn]; exact Tree.sz_lt (t := .node k x n ks) ht) t rfl)
    have hnl : (ks.length : Int) ≤ 9223372036854775807 := by omega
    clear hk ih hn hv hc1 hc2 hw
    go_enter Tryz.func17, Tryz.ntmps17
    go_wp2_with fail
    go_loopg [7, 19] (ks.length) (fun k' all i wr => ∃ j : Nat, j + k' = ks.length ∧ i = .int .i64 j ∧ ∃ s : Nat, all = .int .i64 s ∧ (s : Int) ≤ b ∧ 1 ≤ s ∧ Hid (s = 1 + Tree.szs (ks.take j)) ∧ Hid (St W0 w (.string k) (.string x) (.int .i64 n) (.slice a ks.length c) wr))
    case atStart => exact ⟨0, by omega, rfl, 1, rfl, by omega, by omega, by show (1 : Nat) = _; simp [Tree.szs], S0.out⟩
    case round =>
      obtain ⟨j, hj, rfl, s, rfl, hsb, hs1, hse, hst⟩ := hrel
      by_cases hlt : j < ks.length
      · obtain ⟨b', off, rfl, hk⟩ := HK.out.resolve_left (by intro e; subst e; simp at hlt)
        obtain ⟨ka, kc, hkid, hat⟩ := hk j hlt
        obtain ⟨p0, p1, p2, p3⟩ := hkid wr hst.out.later
        have hst1 := hst.out.on (box_below wr (.cells #[.string ks[j].kind, .string ks[j].text, .int .i64 ks[j].num, .slice ka ks[j].kids.length kc] 24))
        have HC := Lib.hid (IH.out ks[j] (List.getElem_mem hlt) (d - 1) (b - s) (by omega) (by omega) (by omega) (by omega) _ hat _ hst1.later)
        have HTK := Lib.hid (szs_take ks hlt)
        have HS1 := Lib.hid hst1
        clear hk hkid hat hst1
        go_wp2_with fail
        refine (HC.out).mono ?_
        rintro e w2 ⟨⟨r, rfl, hr⟩, b2⟩
        have HS2 := Lib.hid (HS1.out.on b2)
        clear b2 HC HS1 p0 p1 p2 p3
        rcases hr with rfl | ⟨rfl, hr⟩
        · have hgt : b < (s : Int) + 201 := by omega
          go_wp2_with fail
          go_ret
          exact ⟨⟨_, rfl, .inl rfl⟩, HS2.out.below⟩
        · have HSE := Lib.hid (show s + ks[j].sz = 1 + Tree.szs (ks.take (j + 1)) by rw [HTK.out, hse.out]; omega)
          have hgt : ¬ b < (s : Int) + (ks[j].sz : Int) := by omega
          have hr0 : (0 : Int) ≤ (ks[j].sz : Int) := by omega
          have hr2 : (s : Int) + (ks[j].sz : Int) ≤ 200 := by omega
          go_wp2_with fail
          go_roundg (gk - 1)
          case measure => omega
          case rel => exact ⟨j + 1, by omega, by go_num, s + ks[j].sz, by go_num, by omega, by omega, HSE.out, HS2.out⟩
      · have HSE := Lib.hid (show s = 1 + Tree.szs ks by have := hse.out; rwa [show ks.take j = ks from List.take_of_length_le (by omega)] at this)
        go_wp2_with fail
        go_ret
        exact ⟨⟨_, rfl, .inr ⟨by rw [HM.out]; have := HSE.out; omega, hsb⟩⟩, hst.out.below⟩
  · clear hk ih hn hv hw
    rcases (show d ≤ 0 ∨ 0 < d ∧ b ≤ 0 by omega) with hd | ⟨hd, hb⟩
    · clear hdb
      go_enter Tryz.func17, Tryz.ntmps17
      go_wp2_with fail
      go_ret
      exact ⟨⟨_, rfl, .inl rfl⟩, S0.out.below⟩
    · have hd' : ¬ d ≤ 0 := by omega
      clear hdb
      go_enter Tryz.func17, Tryz.ntmps17
      go_wp2_with fail
      go_ret
      exact ⟨⟨_, rfl, .inl rfl⟩, S0.out.below⟩

set_option maxRecDepth 100000 in
set_option maxHeartbeats 2000000 in
theorem small_any (W0 : World) (t : Tree) : Test W0 7 t (t.sz ≤ 200) := by
  intro v hv w hw
  obtain ⟨a', c', rfl, _⟩ := hv.lay
  have S0 := Lib.hid (St.start hw (.string t.kind) (.string t.text) (.int .i64 t.num) (.slice a' t.kids.length c'))
  have HC := Lib.hid (size_any W0 t 24 200 (by omega) (by omega) (by omega) (by omega) _ hv _ S0.out.later)
  clear hv hw
  unfold val
  go_enter Tryz.func7, Tryz.ntmps7
  go_wp2_with fail
  refine (HC.out).mono ?_
  rintro e w2 ⟨⟨r, rfl, hr⟩, b2⟩
  have HS2 := Lib.hid (S0.out.on b2)
  have HR := Lib.hid hr
  clear b2 HC hr
  go_wp2_with fail
  go_ret
  refine ⟨⟨_, rfl, fun h => ?_⟩, HS2.out.below⟩
  have h2 : r ≤ 200 := by simpa using h
  rcases HR.out with h | ⟨h, _⟩ <;> omega

set_option maxRecDepth 100000 in
set_option maxHeartbeats 2000000 in
theorem fits2_any (W0 : World) (t : Tree) : Test W0 6 t True := by
  intro v hv w hw
  obtain ⟨a', c', rfl, h1, h2, _⟩ := hv.lay
  have S0 := Lib.hid (St.start hw (.string t.kind) (.string t.text) (.int .i64 t.num) (.slice a' t.kids.length c'))
  clear hv hw
  unfold val
  go_enter Tryz.func6, Tryz.ntmps6
  go_wp2_with fail
  all_goals go_ret
  all_goals exact ⟨says_any rfl, S0.out.below⟩

end Go.Proofs.YtnhccgbkalpcnaaGreatDoor
