/- FnSmallWalkTemplates: for every input the call returns true, and each argument reads afterwards as it read before. No condition. -/
import Derived.Test.YtnhccgbkalpcnaaWtLaw
import Derived.Test.YtnhccgbkalpcnaaFrame
namespace Go.Proofs.Ytnhccgbkalpcnaa
open Go.ChangeShapes Go.WideShapes Go.ChangeAt Go.RowKit
open Go.ChangeMaps (open_string shut_string)

theorem wtLaw (w : World) (lv mv : Value) (L : List ByteArray) (arg : ByteArray) (M : List ByteArray) (op : Int) (hl : SliceOf w (Old w) lv (strv L)) (hm : SliceOf w (Old w) mv (strv M)) :
    Calls Try.prog 3 #[lv, .string arg, mv, .int .i64 op] w fun e w' => e = .returned (.bool true) ∧ Below w.heap.size w w' := by
  obtain ⟨la, lc, rfl, hl1, hl2, hl3⟩ := hl.strs
  obtain ⟨ma, mc, rfl, hm1, hm2, hm3⟩ := hm.strs
  by_cases h : fitsB L = false ∨ 2147483647 < arg.size ∨ fitsB M = false ∨ L.length = 0 ∨ 1000 < L.length ∨ 1000 < M.length
  · exact (wtLaw_early w la ma lc mc L arg M op hl hm (by omega) (by omega) h).mono fun e w' ⟨he, hw⟩ => ⟨he, hw ▸ Below.refl _ _⟩
  · have f1 : fitsB L = true := by
      cases e : fitsB L with
      | true => rfl
      | false => exact absurd (.inl e) h
    have f3 : fitsB M = true := by
      cases e : fitsB M with
      | true => rfl
      | false => exact absurd (.inr (.inr (.inl e))) h
    have f2 : ¬ 2147483647 < arg.size := fun e => h (.inr (.inl e))
    have c1 : ¬ L.length = 0 := fun e => h (.inr (.inr (.inr (.inl e))))
    have c2 : ¬ 1000 < L.length := fun e => h (.inr (.inr (.inr (.inr (.inl e)))))
    have c3 : ¬ 1000 < M.length := fun e => h (.inr (.inr (.inr (.inr (.inr e)))))
    exact wtLaw_main w la ma lc mc L arg M op hl hm f1 f2 f3 (fun e => c1 (by rw [e]; rfl)) (by omega) (by omega)

set_option maxRecDepth 100000 in
theorem wt_lifted (os : Os) (started : os.Started) (H : Type) (enc : TypeId × Value → H) :
    ReturnsInHanded {} Try.checked os 3 .any (Rows.fnSmallWalkTemplatesSpec.pre6 enc Try.prog Try.f3 Rows.fnSmallWalkTemplatesRow.domain false) (Rows.fnSmallWalkTemplatesSpec.post enc Try.prog Try.f3 false true false false) := by
  refine returnsInHanded_of_change (C := Try.checked) own started (by kernel_rfl) Try.func3
    (ChangeSpec.witness6 (enc := enc) (C := Try.checked) false ⟨#[], #[.slice none 0 0, .string ByteArray.empty, .slice none 0 0, .int .i64 0], []⟩ 8 (by kernel_rfl) (by kernel_rfl) (by kernel_rfl) (by kernel_rfl)) ?_
  intro W base args ds gs before hval0 hW hcnd _
  have hval : ∀ (j : Nat) t v, Try.f3.params[j]? = some t → args[j]? = some v → Value.okWide Try.prog W .any base t v := hval0
  have hW' := hW
  obtain ⟨p, q, hA0, hV, rfl, hfz, hnd⟩ := hW
  have hA : DataW.TrodAll enc Try.prog W 0 (fun _ => true) true Try.f3.params.toList args.toList ds p := hA0
  rw [Try.params3] at hA hval
  obtain ⟨v0, vs0, d0, ds0, p0, q0, hargs, rfl, rfl, h0, r0⟩ := trodAll_cons hA
  obtain ⟨v1, vs1, d1, ds1, p1, q1, rfl, rfl, rfl, h1, r1⟩ := trodAll_cons r0
  obtain ⟨v2, vs2, d2, ds2, p2, q2, rfl, rfl, rfl, h2, r2⟩ := trodAll_cons r1
  obtain ⟨v3, vs3, d3, ds3, p3, q3, rfl, rfl, rfl, h3, r3⟩ := trodAll_cons r2
  obtain ⟨rfl, rfl, rfl⟩ := trodAll_nil r3
  obtain rfl : args = #[v0, v1, v2, v3] := by cases args; simp_all
  obtain ⟨rfl, rfl⟩ := trodVars_none hV
  have lt0 : ∀ x ∈ p0, x.block < W.heap.size := by obtain ⟨m, hm⟩ := h0; exact DataW.trod_lt m _ _ _ hm
  have lt2 : ∀ x ∈ p2, x.block < W.heap.size := by obtain ⟨m, hm⟩ := h2; exact DataW.trod_lt m _ _ _ hm
  obtain ⟨_, _, L, _, s0⟩ := open_list (hval 0 22 v0 rfl rfl) h0
  obtain ⟨s1, rfl, rfl, rfl, hs1⟩ := open_string Try.underlying9 (hval 1 9 v1 rfl rfl) h1
  obtain ⟨_, _, M, _, s2⟩ := open_list (hval 2 22 v2 rfl rfl) h2
  obtain ⟨a3, rfl, rfl, rfl, w3⟩ := open_int Try.underlying3 (hval 3 3 v3 rfl rfl) h3
  clear hA0 hval0
  refine (wtLaw W v0 v2 L s1 M a3 s0 s2).mono fun e W' ⟨he, bel⟩ => ?_
  subst he
  exact ⟨_, rfl, _, _, _, [], _, [], hW', trodAll_mk1 (shut_bool Try.underlying4 _),
    (trodAll_cons_mk (Below.trod laidOut (by kernel_rfl) (of_decide_eq_true (by kernel_rfl)) h0 bel lt0) (trodAll_cons_mk (shut_string Try.underlying9 hs1) (trodAll_cons_mk (Below.trod laidOut (by kernel_rfl) (of_decide_eq_true (by kernel_rfl)) h2 bel lt2) (trodAll_cons_mk (shut_int Try.underlying3 w3) trodAll_mk0)))),
    rfl, bel.frame _, fun h => by cases h⟩

theorem wt_holds : Rows.FnSmallWalkTemplatesSaid :=
  OpenClaim.holds_of_wide 3 Try.f3 rfl rfl rfl rfl rfl rfl rfl ⟨rfl, rfl, rfl, rfl, rfl⟩ rfl rfl rfl rfl rfl (by kernel_rfl) Try.func3 (by kernel_rfl)
    (of_decide_eq_true (by kernel_rfl)) (by unfold Func.isWrapper; first | (rw [if_pos (by decide +kernel)]; kernel_rfl) | (rw [if_neg (by decide +kernel)]; exact ⟨rfl, rfl⟩))
    (fun os started H enc _ => wt_lifted os started H enc)

#print axioms wt_holds
end Go.Proofs.Ytnhccgbkalpcnaa
