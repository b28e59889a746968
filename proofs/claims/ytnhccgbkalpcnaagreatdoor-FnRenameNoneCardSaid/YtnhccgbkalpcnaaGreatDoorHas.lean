/- spec.Has, spec.HasName. -/
import Derived.Test.YtnhccgbkalpcnaaGreatDoorTag
namespace Go.Proofs.YtnhccgbkalpcnaaGreatDoor
open Go.RowKit

/-- a list of trees in the base world -/
def AtL (W0 : World) (ks : List Tree) (sv : Value) : Prop := ∃ a c, sv = .slice a ks.length c ∧ ks.length ≤ c ∧ c ≤ 9223372036854775807 ∧
  (ks = [] ∨ ∃ b off, a = some ⟨b, off, none⟩ ∧ ∀ i (h : i < ks.length), ∃ ka kc, (∀ w, Later W0 w → Kid w b (off + i * 4) ks[i] ka kc) ∧ At W0 ks[i] (val ks[i] ka kc))

theorem At.kids {W0 : World} {k x : ByteArray} {n : Int} {ks : List Tree} {v : Value} (h : At W0 (.node k x n ks) v) : ∃ sv, v = .agg #[.string k, .string x, .int .i64 n, sv] ∧ AtL W0 ks sv := by
  obtain ⟨a, c, rfl, h1, h2, h3⟩ := h.lay
  exact ⟨_, rfl, a, c, rfl, h1, h2, h3⟩

theorem AtL.tail {W0 : World} {p : Tree} {l : List Tree} {a : Option Addr} {c : Nat} (h : AtL W0 (p :: l) (.slice a (l.length + 1) c)) :
    ∃ b off, a = some ⟨b, off, none⟩ ∧ 1 ≤ c ∧ AtL W0 l (.slice (some ⟨b, off + 4, none⟩) l.length (c - 1)) ∧ ∃ pa pc, (∀ w, Later W0 w → Kid w b off p pa pc) ∧ At W0 p (val p pa pc) := by
  obtain ⟨a', c', e, h1, h2, h3⟩ := h
  simp only [Value.slice.injEq, List.length_cons, true_and] at e
  obtain ⟨rfl, rfl⟩ := e
  rcases h3 with h3 | ⟨b, off, rfl, hk⟩
  · cases h3
  rw [List.length_cons] at h1
  refine ⟨b, off, rfl, by omega, ⟨_, _, rfl, by omega, by omega, .inr ⟨b, off + 4, rfl, fun i hi => ?_⟩⟩, ?_⟩
  · obtain ⟨ka, kc, hc, ht⟩ := hk (i + 1) (by simp; omega)
    refine ⟨ka, kc, fun w hw => ?_, ht⟩
    have := hc w hw
    rw [show off + (i + 1) * 4 = off + 4 + i * 4 by omega] at this
    exact this
  · obtain ⟨ka, kc, hc, ht⟩ := hk 0 (by simp)
    refine ⟨ka, kc, fun w hw => ?_, ht⟩
    have := hc w hw
    simpa using this

mutual
/-- an element of the kind -/
def hasK (f : ByteArray) : Tree → Bool
  | .node k _ _ ks => k.toList == f.toList || hasKs f ks
def hasKs (f : ByteArray) : List Tree → Bool
  | [] => false
  | t :: r => hasK f t || hasKs f r
end

theorem hasKs_take (f : ByteArray) (ks : List Tree) {j : Nat} (h : j < ks.length) : hasKs f (ks.take (j + 1)) = (hasKs f (ks.take j) || hasK f ks[j]) := by
  induction ks generalizing j with
  | nil => simp at h
  | cons t r ih =>
    cases j with
    | zero => simp [hasKs]
    | succ j =>
      simp only [List.take_succ_cons, hasKs, List.getElem_cons_succ]
      rw [ih (by simpa using h), Bool.or_assoc]

theorem hasKs_mem (f : ByteArray) : ∀ {ks : List Tree} {t : Tree}, t ∈ ks → hasK f t = true → hasKs f ks = true
  | [], _, h, _ => by cases h
  | x :: r, t, h, h2 => by
    rw [hasKs]
    rcases List.mem_cons.1 h with rfl | h
    · rw [h2]; rfl
    · rw [hasKs_mem f h h2, Bool.or_true]

set_option maxRecDepth 100000 in
set_option maxHeartbeats 2000000 in
theorem has_any (W0 : World) (f : ByteArray) (t : Tree) : ∀ (v : Value), At W0 t v → ∀ w, Later W0 w → Calls Tryz.prog 24 #[v, .string f] w fun e w' => e = .returned (.bool (hasK f t)) ∧ Below w.heap.size w w' := by
  induction hn : t.sz using Nat.strongRecOn generalizing t with
  | ind m ih =>
  intro v hv w hw
  obtain ⟨k, x, n, ks⟩ := t
  obtain ⟨sv, rfl, a, c, rfl, hc1, hc2, hk⟩ := hv.kids
  have S0 := Lib.hid (St.start hw (.string k) (.string x) (.int .i64 n) (.slice a ks.length c))
  cases hkf : (k.toList == f.toList) with
  | true =>
    have HM := Lib.hid (show hasK f (.node k x n ks) = true by rw [hasK, hkf]; rfl)
    clear hk ih hv
    go_enter Tryz.func24, Tryz.ntmps24
    go_wp2_with fail
    go_ret
    exact ⟨by rw [HM.out]; rfl, S0.out.below⟩
  | false =>
    have HM := Lib.hid (show hasK f (.node k x n ks) = hasKs f ks by rw [hasK, hkf]; rfl)
    have HK := Lib.hid hk
    have IH := Lib.hid (fun (t : Tree) (ht : t ∈ ks) => ih t.sz (by rw [← hn]; exact Tree.sz_lt (t := .node k x n ks) ht) t rfl)
    have hnl : (ks.length : Int) ≤ 9223372036854775807 := by omega
    clear hk ih hn hv hc1 hc2
    go_enter Tryz.func24, Tryz.ntmps24
    go_wp2_with fail
    go_loopg [14] (ks.length) (fun k' i wr => ∃ j : Nat, j + k' = ks.length ∧ i = .int .i64 j ∧ Hid (hasKs f (ks.take j) = false) ∧ Hid (St W0 w (.string k) (.string x) (.int .i64 n) (.slice a ks.length c) wr))
    case atStart => exact ⟨0, by omega, rfl, rfl, S0.out⟩
    case round =>
      obtain ⟨j, hj, rfl, hno, hst⟩ := hrel
      by_cases hlt : j < ks.length
      · obtain ⟨b, off, rfl, hk⟩ := HK.out.resolve_left (by intro e; subst e; simp at hlt)
        obtain ⟨ka, kc, hkid, hat⟩ := hk j hlt
        obtain ⟨p0, p1, p2, p3⟩ := hkid wr hst.out.later
        have hst1 := hst.out.on (box_below wr (.cells #[.string ks[j].kind, .string ks[j].text, .int .i64 ks[j].num, .slice ka ks[j].kids.length kc] 24))
        have HC := Lib.hid (IH.out ks[j] (List.getElem_mem hlt) _ hat _ hst1.later)
        have HTK := Lib.hid (hasKs_take f ks hlt)
        have HS1 := Lib.hid hst1
        clear hk hkid hat hst1
        go_wp2_with fail
        refine (HC.out).mono ?_
        rintro e w2 ⟨rfl, b2⟩
        have HS2 := Lib.hid (HS1.out.on b2)
        clear b2 HC HS1 p0 p1 p2 p3
        cases hh : hasK f ks[j] with
        | true =>
          have HN := Lib.hid (show hasKs f ks = true from hasKs_mem f (List.getElem_mem hlt) hh)
          go_wp2_with fail
          go_ret
          exact ⟨by rw [HM.out, HN.out]; rfl, HS2.out.below⟩
        | false =>
          have HN := Lib.hid (show hasKs f (ks.take (j + 1)) = false by rw [HTK.out, hno.out, hh]; rfl)
          go_wp2_with fail
          go_roundg (gk - 1)
          case measure => omega
          case rel => exact ⟨j + 1, by omega, by go_num, HN.out, HS2.out⟩
      · have HN := Lib.hid (show hasKs f ks = false by have := hno.out; rwa [show ks.take j = ks from List.take_of_length_le (by omega)] at this)
        go_wp2_with fail
        go_ret
        exact ⟨by rw [HM.out, HN.out]; rfl, hst.out.below⟩

end Go.Proofs.YtnhccgbkalpcnaaGreatDoor
