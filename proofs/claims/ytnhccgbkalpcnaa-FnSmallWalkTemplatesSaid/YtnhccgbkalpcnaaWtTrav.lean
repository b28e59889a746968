/- Traverse over the Templates: to which texts it comes. -/
import Derived.Test.YtnhccgbkalpcnaaWtVisit
namespace Go.Proofs.Ytnhccgbkalpcnaa
open Go.RowKit

/-- what is visited when so many Templates may still be opened -/
def vis : Nat → List ByteArray → List ByteArray → List ByteArray
  | _, [], A => A
  | 0, _ :: _, _ => []
  | k + 1, s :: r, A => s :: vis k r A

def clo (ob kb : Nat) : Value := .func (.func 13) #[] #[.pointer (some ⟨ob, 0, none⟩), .pointer (some ⟨kb, 0, none⟩)]

set_option maxHeartbeats 400000 in
theorem trav_name {I : Nat → Prop} (B ob kb : Nat) (out : List ByteArray) (k : Int) (x : Value) (s : ByteArray) (w : World) (b : Nat) (hx : IsName w I (.iface 37 (.pointer (some ⟨b, 0, none⟩))) s) (h : St B ob kb out k w) (hlen : out.length ≤ 2147483648) :
    Calls Try.prog 37 #[.pointer (some ⟨b, 0, none⟩), .func (.func 13) #[] #[.pointer (some ⟨ob, 0, none⟩), .pointer (some ⟨kb, 0, none⟩)]] w fun e w' => e = .returned (.tuple #[]) ∧ St B ob kb (out ++ [s]) k w' ∧ Only B ob kb w w' := by
  have hv := visit_name B ob kb out k _ s w hx h hlen
  have HV := Lib.hid hv
  clear hv hx h
  go_enter Try.func37, Try.ntmps37
  go_wp2_with fail
  refine (HV.out).mono ?_
  rintro e w' ⟨rfl, h1, h2⟩
  have X := Lib.hid (And.intro h1 h2)
  clear h1 h2
  go_wp2_with fail
  go_end0
  exact ⟨rfl, X.out⟩

theorem Only.same {I : Nat → Prop} {B ob kb : Nat} {w w' : World} (h : Only B ob kb w w') (hI : ∀ i, I i → i < B ∧ i ≠ ob ∧ i ≠ kb) : Same I w w' :=
  fun i hi => h.2.2.2.2 i (hI i hi).1 (hI i hi).2.1 (hI i hi).2.2

/-- what Traverse leaves: these texts, and nothing else has turned -/
def TravPost (B ob kb : Nat) (out : List ByteArray) (w w' : World) : Prop := (∃ k', St B ob kb out k' w') ∧ Only B ob kb w w'

/-- the two cells of a Template's block -/
theorem cells_two {w : World} {p : Nat} {x y : Value} {t : TypeId} (h : w.heap[p]? = some (.cells #[x, y] t (0, 0))) : w.cell? ⟨p, 0, none⟩ = some x ∧ w.cell? ⟨p, 1, none⟩ = some y := by
  simp [World.cell?, h]

theorem m_name (a : Addr) (w : World) : (method 183 37 (.pointer (some a)) "Traverse").run Try.prog w = .ok (37, .pointer (some a)) w := by kernel_rfl
theorem m_tmpl (a : Addr) (w : World) : (method 183 54 (.pointer (some a)) "Traverse").run Try.prog w = .ok (43, .pointer (some a)) w := by kernel_rfl

theorem vis_nil (k : Nat) (s : ByteArray) (A : List ByteArray) (hk : 1 ≤ k) : vis k [s] A = s :: A := by
  obtain ⟨k, rfl⟩ : ∃ m, k = m + 1 := ⟨k - 1, by omega⟩
  simp [vis]
theorem vis_cons (k : Nat) (s : ByteArray) (L A : List ByteArray) (hk : 1 ≤ k) : vis k (s :: L) A = s :: vis (k - 1) L A := by
  obtain ⟨k, rfl⟩ : ∃ m, k = m + 1 := ⟨k - 1, by omega⟩
  simp [vis]
theorem vis_zero (s : ByteArray) (L A : List ByteArray) : vis 0 (s :: L) A = [] := rfl

theorem Names.get {w : World} {I : Nat → Prop} : ∀ {vs : List Value} {ss : List ByteArray}, Names w I vs ss → ∀ (j : Nat) (h : j < ss.length), ∃ v, vs[j]? = some v ∧ IsName w I v ss[j]
  | [], [], _, j, h => by simp at h
  | v :: vs, s :: ss, ⟨hv, r⟩, j, h => by
    cases j with
    | zero => exact ⟨v, rfl, hv⟩
    | succ j => obtain ⟨u, h1, h2⟩ := Names.get r j (by simpa using h); exact ⟨u, by simpa using h1, by simpa using h2⟩
  | [], _ :: _, h, _, _ => h.elim
  | _ :: _, [], h, _, _ => h.elim

set_option maxRecDepth 100000 in
set_option maxHeartbeats 1000000 in
theorem trav_tmpl {I : Nat → Prop} (B ob kb : Nat) (A : List ByteArray) (hIB : ∀ i, I i → i < B ∧ i ≠ ob ∧ i ≠ kb) : ∀ (L : List ByteArray) (s : ByteArray) (k : Nat) (out : List ByteArray) (w : World) (p : Nat),
    Args w I (s :: L) A [.iface 54 (.pointer (some ⟨p, 0, none⟩))] → St B ob kb out k w → out.length + (L.length + 1) + A.length ≤ 2147483648 → k ≤ 2147483648 →
    Calls Try.prog 43 #[.pointer (some ⟨p, 0, none⟩), .func (.func 13) #[] #[.pointer (some ⟨ob, 0, none⟩), .pointer (some ⟨kb, 0, none⟩)]] w fun e w' => e = .returned (.tuple #[]) ∧ TravPost B ob kb (out ++ vis k (s :: L) A) w w' := by
  intro L
  induction L with
  | nil =>
    intro s k out w p ha hst hlen hk
    obtain ⟨p', nv, sv, vs', hv, hI, hc, hn, hs, hr, h1, h2⟩ := ha
    obtain rfl : p = p' := by simpa using hv
    have hv0 := visit_tmpl B ob kb out k ⟨p, 0, none⟩ w hst (by omega) (by omega)
    have HV0 := Lib.hid hv0
    clear hv0 h1 h2 hv
    have HI := Lib.hid hIB
    clear hIB
    by_cases hk1 : 1 ≤ (k : Int)
    · go_enter Try.func43, Try.ntmps43
      have X0 := Lib.hid (And.intro hn (And.intro hs (And.intro hr (And.intro hI hc))))
      clear hn hs hr hI hc hst
      go_wp2_with fail
      refine (HV0.out).mono ?_
      rintro e w1 ⟨rfl, hst1, ho1⟩
      obtain ⟨hn, hs, hr, hI, hc⟩ := X0.out
      have hS := ho1.same HI.out
      obtain ⟨b, rfl, hbI, hbc⟩ := hn.same hS
      have hn1 : IsName w1 I (.iface 37 (.pointer (some ⟨b, 0, none⟩))) s := ⟨b, rfl, hbI, hbc⟩
      obtain ⟨c0, c1⟩ := cells_two (w := w1) ((hS p hI).trans hc)
      obtain ⟨a2, n2, rfl, hl2, hn2, h3⟩ := hs.lay
      have H3 := Lib.hid h3
      clear h3
      have X1 := Lib.hid (And.intro ho1 (And.intro (hs.same hS) (And.intro (Args.same hS hr) (And.intro hI ((hS p hI).trans hc)))))
      have HN := Lib.hid (trav_name (I := I) B ob kb out (k - 1) (.iface 37 (.pointer (some ⟨b, 0, none⟩))) s w1 b hn1 hst1 (by omega))
      clear hst1 ho1 hS hn hn1 hs hr hc hbc hbI hI HV0 X0
      have hm := fun W => m_name ⟨b, 0, none⟩ W
      go_wp2_with fail
      refine (HN.out).mono ?_
      rintro e w2 ⟨rfl, hst2, ho2⟩
      obtain ⟨ho1, hs1, hr1, hI, hc1⟩ := X1.out
      have hS2 := ho2.same HI.out
      obtain ⟨d0, d1⟩ := cells_two (w := w2) ((hS2 p hI).trans hc1)
      have HO := Lib.hid (ho1.trans ho2)
      have HR := Lib.hid (Names.same hr1 hS2)
      have hlA := Names.length hr1
      have hle : ((vs'.length : Int)) ≤ 9223372036854775807 := by omega
      have HL := Lib.hid hlA
      clear c0 c1 HN hm hl2 hn2 X1 ho1 hs1 hr1 hI hc1 hS2 hlA
      have HST := Lib.hid hst2
      clear hst2
      have HO2 := Lib.hid ho2
      clear ho2 d0
      go_wp2_with fail
      clear d1
      go_loopg [21] (A.length) (fun n i wr => ∃ j : Nat, j + n = A.length ∧ i = .int .i64 j ∧ Hid (St B ob kb (out ++ [s] ++ A.take j) (k - 1) wr) ∧ Hid (Only B ob kb w wr) ∧ Hid (Only B ob kb w2 wr))
      case atStart => exact ⟨0, by omega, rfl, by show St _ _ _ _ _ _; simpa using HST.out, HO.out, Only.refl _ _ _ _⟩
      case round =>
        obtain ⟨j, hj, rfl, hst3, ho3, ho4⟩ := hrel
        have hlA := HL.out
        by_cases hlt : j < A.length
        · have hlt' : j < vs'.length := by omega
          obtain ⟨u, hu, hnu⟩ := Names.get (HR.out.same (ho4.out.same HI.out)) j hlt
          obtain ⟨b2, rfl, hbI, hbc⟩ := hnu
          rcases H3.out with rfl | ⟨bb, off, rfl, hbb, hcell⟩
          · simp at hlt'
          have hc3 : wr.cell? ⟨bb, off + j, none⟩ = some (.iface 37 (.pointer (some ⟨b2, 0, none⟩))) := by
            rw [World.cell?_of_block (w := w) (ho3.out.same HI.out bb hbb)]
            exact hcell j _ hu
          have hk2 : out.length + 1 + (A.take j).length ≤ 2147483648 := by rw [List.length_take]; omega
          have HN := Lib.hid (trav_name (I := I) B ob kb (out ++ [s] ++ A.take j) (k - 1) (.iface 37 (.pointer (some ⟨b2, 0, none⟩))) A[j] wr b2 ⟨b2, rfl, hbI, hbc⟩ hst3.out (by simp only [List.length_append, List.length_cons, List.length_nil]; omega))
          have HT := Lib.hid (show out ++ [s] ++ A.take j ++ [A[j]] = out ++ [s] ++ A.take (j + 1) by rw [List.take_succ_eq_append_getElem hlt]; simp)
          have hm := fun W => m_name ⟨b2, 0, none⟩ W
          clear hcell hu hbI hbc hk2 hlA hbb hst3
          go_wp2_with fail
          refine (HN.out).mono ?_
          rintro e w4 ⟨rfl, hst4, ho5⟩
          have HST4 := Lib.hid hst4
          have HO5 := Lib.hid ho5
          clear hst4 ho5 hm hc3 HN
          go_wp2_with fail
          go_roundg (gk - 1)
          case measure => omega
          case rel => exact ⟨j + 1, by omega, by go_num, by show St _ _ _ _ _ _; rw [← HT.out]; exact HST4.out, ho3.out.trans HO5.out, ho4.out.trans HO5.out⟩
        · have hlt' : ¬ j < vs'.length := by omega
          have hj' : j = A.length := by omega
          have HJ := Lib.hid hj'
          clear hj'
          go_wp2_with fail
          go_end0
          refine ⟨rfl, ⟨(k : Int) - 1, ?_⟩, ho3.out⟩
          have h5 := hst3.out
          rw [HJ.out, List.take_length] at h5
          rw [vis_nil k s A (by omega)]
          simpa using h5
    · have hd : ¬ 1 ≤ (k : Int) := hk1
      obtain rfl : k = 0 := by omega
      go_enter Try.func43, Try.ntmps43
      clear hn hs hr hI hc hst
      go_wp2_with fail
      refine (HV0.out).mono ?_
      rintro e w1 ⟨rfl, hst1, ho1⟩
      have X1 := Lib.hid (And.intro hst1 ho1)
      clear hst1 ho1 HV0
      go_wp2_with fail
      go_end0
      exact ⟨rfl, ⟨_, by rw [vis_zero, List.append_nil]; exact X1.out.1⟩, X1.out.2⟩
  | cons s' r ih =>
    intro s k out w p ha hst hlen hk
    obtain ⟨p', nv, sv, vs', hv, hI, hc, hn, hs, hr, h1, h2⟩ := ha
    obtain rfl : p = p' := by simpa using hv
    have IH := Lib.hid ih
    have hv0 := visit_tmpl B ob kb out k ⟨p, 0, none⟩ w hst (by omega) (by omega)
    have HV0 := Lib.hid hv0
    clear hv0 h1 h2 hv ih
    have HI := Lib.hid hIB
    clear hIB
    by_cases hk1 : 1 ≤ (k : Int)
    · go_enter Try.func43, Try.ntmps43
      have X0 := Lib.hid (And.intro hn (And.intro hs (And.intro hr (And.intro hI hc))))
      clear hn hs hr hI hc hst
      go_wp2_with fail
      refine (HV0.out).mono ?_
      rintro e w1 ⟨rfl, hst1, ho1⟩
      obtain ⟨hn, hs, hr, hI, hc⟩ := X0.out
      have hS := ho1.same HI.out
      obtain ⟨b, rfl, hbI, hbc⟩ := hn.same hS
      have hn1 : IsName w1 I (.iface 37 (.pointer (some ⟨b, 0, none⟩))) s := ⟨b, rfl, hbI, hbc⟩
      obtain ⟨c0, c1⟩ := cells_two (w := w1) ((hS p hI).trans hc)
      obtain ⟨p2, nv2, sv2, vs2, rfl, hr'⟩ := hr
      obtain ⟨a2, n2, rfl, hl2, hn2, h3⟩ := hs.lay
      have H3 := Lib.hid h3
      clear h3
      have X1 := Lib.hid (And.intro ho1 (And.intro (hs.same hS) (And.intro (Args.same hS (show Args w I (s' :: r) A [.iface 54 (.pointer (some ⟨p2, 0, none⟩))] from ⟨p2, nv2, sv2, vs2, rfl, hr'⟩)) (And.intro hI ((hS p hI).trans hc)))))
      have HN := Lib.hid (trav_name (I := I) B ob kb out (k - 1) (.iface 37 (.pointer (some ⟨b, 0, none⟩))) s w1 b hn1 hst1 (by omega))
      clear hst1 ho1 hS hn hn1 hs hr' hc hbc hbI hI HV0 X0
      have hm := fun W => m_name ⟨b, 0, none⟩ W
      go_wp2_with fail
      refine (HN.out).mono ?_
      rintro e w2 ⟨rfl, hst2, ho2⟩
      obtain ⟨ho1, hs1, hr1, hI, hc1⟩ := X1.out
      have hS2 := ho2.same HI.out
      obtain ⟨d0, d1⟩ := cells_two (w := w2) ((hS2 p hI).trans hc1)
      have HO := Lib.hid (ho1.trans ho2)
      have HR := Lib.hid (Args.same hS2 hr1)
      clear c0 c1 HN hm hl2 hn2 X1 ho1 hs1 hr1 hI hc1 hS2
      have HST := Lib.hid hst2
      clear hst2
      have HO2 := Lib.hid ho2
      clear ho2 d0
      go_wp2_with fail
      clear d1
      go_loopg [21] 1 (fun n i wr => ∃ j : Nat, j + n = 1 ∧ i = .int .i64 j ∧ Hid (j = 0 → St B ob kb (out ++ [s]) (k - 1) wr) ∧ Hid (j = 1 → ∃ k', St B ob kb (out ++ vis k (s :: s' :: r) A) k' wr) ∧ Hid (Only B ob kb w wr) ∧ Hid (Only B ob kb w2 wr))
      case atStart => exact ⟨0, by omega, rfl, fun _ => HST.out, fun h => by omega, HO.out, Only.refl _ _ _ _⟩
      case round =>
        obtain ⟨j, hj, rfl, hst3, hst4, ho3, ho4⟩ := hrel
        by_cases hlt : j < 1
        · obtain rfl : j = 0 := by omega
          rcases H3.out with hnil | ⟨bb, off, rfl, hbb, hcell⟩
          · cases hnil
          have hc3 : wr.cell? ⟨bb, off, none⟩ = some (.iface 54 (.pointer (some ⟨p2, 0, none⟩))) := by
            rw [World.cell?_of_block (w := w) (ho3.out.same HI.out bb hbb)]
            exact hcell 0 _ rfl
          have hk' : ((k - 1 : Nat) : Int) = (k : Int) - 1 := by omega
          have HN := Lib.hid (IH.out s' (k - 1) (out ++ [s]) wr p2 (Args.same (ho4.out.same HI.out) HR.out) (by rw [hk']; exact hst3.out rfl) (by simp only [List.length_append, List.length_cons, List.length_nil] at *; omega) (by omega))
          have hm := fun W => m_tmpl ⟨p2, 0, none⟩ W
          clear hcell hbb hst3 hst4 hk'
          go_wp2_with fail
          refine (HN.out).mono ?_
          rintro e w4 ⟨rfl, ⟨hst5, ho5⟩⟩
          have HST4 := Lib.hid hst5
          have HO5 := Lib.hid ho5
          clear hst5 ho5 hm hc3 HN
          go_wp2_with fail
          go_roundg (gk - 1)
          case measure => omega
          case rel =>
            refine ⟨1, by omega, by go_num, fun h => by omega, fun _ => ?_, ho3.out.trans HO5.out, ho4.out.trans HO5.out⟩
            obtain ⟨k', h⟩ := HST4.out
            refine ⟨k', ?_⟩
            rw [vis_cons k s _ A (by omega)]
            simpa using h
        · obtain rfl : j = 1 := by omega
          go_wp2_with fail
          go_end0
          exact ⟨rfl, hst4.out (by simp), ho3.out⟩
    · have hd : ¬ 1 ≤ (k : Int) := hk1
      obtain rfl : k = 0 := by omega
      go_enter Try.func43, Try.ntmps43
      clear hn hs hr hI hc hst
      go_wp2_with fail
      refine (HV0.out).mono ?_
      rintro e w1 ⟨rfl, hst1, ho1⟩
      have X1 := Lib.hid (And.intro hst1 ho1)
      clear hst1 ho1 HV0
      go_wp2_with fail
      go_end0
      exact ⟨rfl, ⟨_, by rw [vis_zero, List.append_nil]; exact X1.out.1⟩, X1.out.2⟩

end Go.Proofs.Ytnhccgbkalpcnaa
