/- impl.PrintTemplates: Templates of Names, each the only argument of the one around it, are printed. -/
import Derived.Test.YtcobcgkeojeagaaClosed
import Derived.Test.YtcobcgkeojeagaaTmpls
namespace Go.Proofs.Ytcobcgkeojeagaa
open Go.RowKit

/-- what stands in the brackets -/
def inText : List ByteArray → List ByteArray → List UInt8
  | [], A => jb A
  | s :: r, A => tcOut s.data.toList (inText r A)

theorem printer_tmpl : Printer 57 87 := ⟨ptrTy_of (by kernel_rfl), fun _ _ => by kernel_rfl, fun _ _ => by kernel_rfl⟩

/-- what is wanted of the elements in the brackets -/
def ItemOk (b : Nat) (w0 : World) (d : Nat) (it : Item) : Prop :=
  Empt b w0 it.v it.e ∧ (it.e = false → Prints Bare b w0 d it.v it.o) ∧ ∃ T q, it.v = .iface T (.pointer (some ⟨q, 0, none⟩))

theorem names_items {b : Nat} {w0 : World} {I : Nat → Prop} (hI : ∀ i, I i → i < b) : ∀ {vs : List Value} {A : List ByteArray}, Names w0 I vs A →
    ∃ its : List Item, its.map (·.v) = vs ∧ outs its = A.map (fun s => s.data.toList) ∧ (∀ it ∈ its, it.e = false) ∧ ∀ it ∈ its, ItemOk b w0 1 it
  | [], [], _ => ⟨[], rfl, rfl, fun _ h => (by cases h), fun _ h => (by cases h)⟩
  | v :: vs, s :: A, ⟨h, r⟩ => by
    obtain ⟨its, h1, h2, h3, h4⟩ := names_items hI r
    have hat := hI _ h.at
    have hp := prints_name Bare h hat
    obtain ⟨q, rfl, _, _⟩ := h
    refine ⟨⟨.iface 89 (.pointer (some ⟨q, 0, none⟩)), false, s.data.toList⟩ :: its, by simp [h1], ?_, ?_, ?_⟩
    · simp only [outs, List.filter_cons, Bool.not_false, if_true, List.map_cons] at h2 ⊢
      rw [h2]
    · intro it hit
      rcases List.mem_cons.1 hit with rfl | hit
      · rfl
      · exact h3 it hit
    · intro it hit
      rcases List.mem_cons.1 hit with rfl | hit
      · exact ⟨empt_no b w0 noPack_name q, fun _ => hp, _, _, rfl⟩
      · exact h4 it hit
  | [], _ :: _, h => h.elim
  | _ :: _, [], h => h.elim

theorem outs_one (v : Value) (o : List UInt8) : joinC (outs [⟨v, false, o⟩]) = o := by simp [outs, joinC]

theorem args_items {b : Nat} {w0 : World} {I : Nat → Prop} (hI : ∀ i, I i → i < b) : ∀ {L A : List ByteArray} {vs : List Value}, Args w0 I L A vs → (∀ s ∈ L, s.size ≠ 0) →
    ∃ its : List Item, its.map (·.v) = vs ∧ joinC (outs its) = inText L A ∧ (∀ it ∈ its, it.e = false) ∧ ∀ it ∈ its, ItemOk b w0 (L.length + 1) it
  | [], A, vs, h, _ => by
    obtain ⟨its, h1, h2, h3, h4⟩ := names_items hI h
    exact ⟨its, h1, by rw [h2]; rfl, h3, h4⟩
  | s :: r, A, vs, ⟨p, nv, sv, vs', hv, hi, hc, hn, hs, hr, hb1, hb2⟩, hne => by
    obtain ⟨its, h1, h2, h3, h4⟩ := args_items hI hr (fun s hs => hne s (List.mem_cons_of_mem _ hs))
    subst hv
    have hnl := hI _ hn.at
    have hp := prints_name Bare hn hnl
    have ho : s.data.toList ≠ [] := by
      intro e
      exact hne s (by simp) (by rw [← ba_size, e]; rfl)
    have hbody := body_tmpl (b := b) (q := p) (d := r.length + 1) (its := its) (hI _ hi) hc (hp.more (by omega)) ho hb1 h4 (fun it hit _ => hb2 _ (by rw [← h1]; exact List.mem_map_of_mem hit)) (by rw [h1]; exact hs.mono hI)
    rw [h2] at hbody
    refine ⟨[⟨.iface 57 (.pointer (some ⟨p, 0, none⟩)), false, tcOut s.data.toList (inText r A)⟩], rfl, outs_one _ _, ?_, ?_⟩
    · intro it hit
      simp at hit
      subst hit
      rfl
    · intro it hit
      simp at hit
      subst hit
      exact ⟨empt_no b w0 noPack_tmpl p, fun _ => prints_of printer_tmpl hc (hI _ hi) hbody, _, _, rfl⟩

theorem spc_le (l c : Int) : (spc l c).length ≤ 1 := by unfold spc; split <;> simp
theorem tcOut_le (a c : List UInt8) : (tcOut a c).length ≤ a.length + c.length + 4 := by
  have h1 := spc_le (lastOf 0 a) 60
  have h2 := spc_le (lastOf 60 c) 62
  simp only [tcOut, List.length_append, List.length_cons, List.length_nil]
  omega

theorem inText_upto (K B : Nat) (hK : 2147483651 ≤ K) (A : List ByteArray) (hA : (jb A).length ≤ B) : ∀ L : List ByteArray, (∀ s ∈ L, s.size ≤ 2147483647) → (inText L A).length ≤ L.length * K + B
  | [], _ => by simpa [inText] using hA
  | s :: r, h => by
    have ih := inText_upto K B hK A hA r (fun s hs => h s (List.mem_cons_of_mem _ hs))
    have h1 := tcOut_le s.data.toList (inText r A)
    have h2 := h s (by simp)
    rw [ba_size] at h1
    rw [List.length_cons, Nat.succ_mul]
    show (tcOut _ _).length ≤ _
    generalize r.length * K = m at *
    omega

theorem inText_size (L A : List ByteArray) (hL : L.length ≤ 1001) (hA : A.length ≤ 1000) (fL : elFit L) (fA : elFit A) : (inText L A).length ≤ 9000000000000 := by
  have h1 := jb_size A A.length fA hA
  rw [List.take_length] at h1
  have h := inText_upto 2147483651 3000000000000 (Nat.le_refl _) A h1 L fL
  have h2 : L.length * 2147483651 ≤ 1001 * 2147483651 := Nat.mul_le_mul_right _ hL
  omega

set_option maxRecDepth 100000 in
set_option maxHeartbeats 1000000 in
theorem printTemplates_any (w : World) {I : Nat → Prop} (hI : ∀ i, I i → i < w.heap.size) (lv mv : Value) (L : List ByteArray) (arg : ByteArray) (M : List ByteArray) (hl : SliceOf w I lv (strv L)) (hm : SliceOf w I mv (strv M))
    (hL : L ≠ []) (hL1 : L.length ≤ 1001) (hM1 : (arg :: M).length ≤ 1000) (fL : elFit L) (fM : elFit (arg :: M)) (hne : ∀ s ∈ L, s.size ≠ 0) :
    Calls Try.prog 25 #[lv, .string arg, mv] w fun e w' => e = .returned (.string ⟨(inText L (arg :: M)).toArray⟩) ∧ Below w.heap.size w w' := by
  have HC := Lib.hid (templates_any w hI lv mv L arg M hl hm hL (by omega) (by simp only [List.length_cons] at hM1; omega))
  have HZ := Lib.hid (inText_size L (arg :: M) hL1 hM1 fL fM)
  have HN := Lib.hid hne
  obtain ⟨a1, c1, rfl, _⟩ := hl.strs
  obtain ⟨a2, c2, rfl, _⟩ := hm.strs
  clear hI hl hm hL fL fM hne hM1
  go_enter Try.func25, Try.ntmps25
  go_wp2_with fail
  refine (HC.out).mono ?_
  rintro e w1 ⟨v, rfl, ha, hb⟩
  obtain ⟨its, h1, h2, h3, h4⟩ := args_items (b := w1.heap.size) (fun i h => h.2) ha HN.out
  have hp : Prints Bare w1.heap.size w1 (L.length + 1) v (inText L (arg :: M)) := by
    match its, h1 with
    | [it], h1 =>
      simp at h1
      subst h1
      have he := h3 it (by simp)
      have := (h4 it (by simp)).2.1 he
      have e2 : it.o = inText L (arg :: M) := by
        rw [← h2]
        obtain ⟨v, e, o⟩ := it
        simp at he
        subst he
        rw [outs_one]
      rw [← e2]
      exact this
  have HT := Lib.hid (toString_any (G := Bare) ⟨rfl, rfl⟩ hp (by omega) (by have := HZ.out; omega))
  have HB := Lib.hid hb
  obtain ⟨T, f, q, _, _, _, rfl, _⟩ := hp
  clear h1 h2 h3 h4 ha hb HC
  go_wp2_with fail
  refine (HT.out).mono ?_
  rintro e w2 ⟨rfl, b2⟩
  have HX := Lib.hid (HB.out.trans (b2.mono HB.out.size))
  clear b2
  go_wp2_with fail
  go_ret
  exact ⟨rfl, HX.out⟩

end Go.Proofs.Ytcobcgkeojeagaa
