/- FnRename: for every input the call returns true, and the arguments read afterwards as they read before; the two listed tables read as the program's text lays them (tied). -/
import Derived.Test.YtnhccgbkalpcnaaGreatDoorRenJ
import Derived.Test.YtnhccgbkalpcnaaGreatDoorFrameN
import Derived.Test.YtnhccgbkalpcnaaGreatDoorCards
import Derived.Test.YtnhccgbkalpcnaaGreatDoorTie
import Derived.SevenTiedAt
namespace Go.Proofs.YtnhccgbkalpcnaaGreatDoor
open Go Go.ChangeShapes Go.WideShapes Go.ChangeAt Go.RowKit
open Go.ChangeMaps (open_string shut_string)

set_option maxRecDepth 100000 in
theorem rename_lifted (os : Os) (started : os.Started) (H : Type) (enc : TypeId × Value → H) :
    ReturnsInHanded {} Tryz.checked os 4 .any (fun w args => (Rows.fnRenameSpec.pre enc Tryz.prog Tryz.f4 [] false w args ∧ laidMetH Tryz.prog laid2 w) ∧ sizedMet enc Tryz.prog Tryz.f4 (OpenSpec.ofChange Rows.fnRenameSpec) false w args)
      (Rows.fnRenameSpec.post enc Tryz.prog Tryz.f4 false true false false) := by
  refine returnsInHanded_of_change_and (C := Tryz.checked) (X := fun w _ => laidMetH Tryz.prog laid2 w) (fun _ _ _ hh h => h.of_heap hh) own started (by kernel_rfl) Tryz.func4
    (ChangeSpec.witness_shaped (enc := enc) (C := Tryz.checked) (os := os) (X := fun w _ => laidMetH Tryz.prog laid2 w) false (World.doorLaid Tryz.prog 400 os) #[.agg #[.string ByteArray.empty, .string ByteArray.empty, .int .i64 0, .slice none 0 0], .string ByteArray.empty, .string ByteArray.empty, .string ByteArray.empty] 8 rfl (World.shaped_of_RefB (by kernel_rfl) (by kernel_rfl)) (by kernel_rfl) (by kernel_rfl) (by kernel_rfl) (door_met os _)) ?_
  intro W base args ds gs before hval0 hW _ _ hL _
  have hval : ∀ (j : Nat) t v, Tryz.f4.params[j]? = some t → args[j]? = some v → Value.okWide Tryz.prog W .any base t v := hval0
  have hW' := hW
  obtain ⟨p, q, hA0, hV, rfl, hfz, hnd⟩ := hW
  have hA : DataW.TrodAll enc Tryz.prog W 0 (fun _ => true) true Tryz.f4.params.toList args.toList ds p := hA0
  rw [Tryz.params4] at hA hval
  obtain ⟨v0, vs0, d0, ds0, p0, q0, hargs, rfl, rfl, h0, r0⟩ := trodAll_cons hA
  obtain ⟨v1, vs1, d1, ds1, p1, q1, rfl, rfl, rfl, h1, r1⟩ := trodAll_cons r0
  obtain ⟨v2, vs2, d2, ds2, p2, q2, rfl, rfl, rfl, h2, r2⟩ := trodAll_cons r1
  obtain ⟨v3, vs3, d3, ds3, p3, q3, rfl, rfl, rfl, h3, r3⟩ := trodAll_cons r2
  obtain ⟨rfl, rfl, rfl⟩ := trodAll_nil r3
  obtain rfl : args = #[v0, v1, v2, v3] := by cases args; simp_all
  have hV' := hV
  obtain ⟨_, _, _, _, e0, _, _, _, _, _, e1, _, rfl, _⟩ := trodVars_two hV
  have lt0 : ∀ x ∈ p0, x.block < W.heap.size := by obtain ⟨m, hm⟩ := h0; exact DataW.trod_lt m _ _ _ hm
  obtain ⟨t0, hat0⟩ := open_node h0
  obtain ⟨s1, rfl, rfl, rfl, w1⟩ := open_string Tryz.underlying9 (hval 1 9 v1 rfl rfl) h1
  obtain ⟨s2, rfl, rfl, rfl, w2⟩ := open_string Tryz.underlying9 (hval 2 9 v2 rfl rfl) h2
  obtain ⟨s3, rfl, rfl, rfl, w3⟩ := open_string Tryz.underlying9 (hval 3 9 v3 rfl rfl) h3
  clear hA0 hval0
  have hT := tables_of hL
  refine (fnRename_walk W hT.1 t0 v0 hat0 s1 s2 s3 W (later_refl hT)).mono fun e W2 ⟨he, bel⟩ => ?_
  subst he
  exact ⟨_, rfl, _, _, _, [], _, _, hW', trodAll_mk1 (shut_bool Tryz.underlying4 _), (trodAll_cons_mk (Below.trod laidOut (by kernel_rfl) (of_decide_eq_true (by kernel_rfl)) h0 bel lt0) (trodAll_cons_mk (shut_string Tryz.underlying9 w1) (trodAll_cons_mk (shut_string Tryz.underlying9 w2) (trodAll_cons_mk (shut_string Tryz.underlying9 w3) trodAll_mk0)))),
    bel.trodVars laidOut (by kernel_rfl) hV', bel.frame _, fun h => by cases h⟩

theorem rename_row : Rows.FnRenameSaid :=
  OpenClaim.holds_of_wide 4 Tryz.f4 rfl rfl rfl rfl rfl rfl rfl ⟨rfl, rfl, rfl, rfl, rfl⟩ rfl rfl rfl rfl rfl (by kernel_rfl) Tryz.func4 (by kernel_rfl)
    (of_decide_eq_true (by kernel_rfl)) (by unfold Func.isWrapper; first | (rw [if_pos (by decide +kernel)]; kernel_rfl) | (rw [if_neg (by decide +kernel)]; exact ⟨rfl, rfl⟩))
    (fun os started H enc _ => rename_lifted os started H enc)

theorem rename_card : Rows.FnRenameCardSaid :=
  Claim7.holds_tied_plain_at .later [] [.data, .data] true (true, "f3c873f0342fd7c6a935b252c77dbe9eab8d52faa3740a14ff509d4be4e598a8") true
    rename_row (fun _ h => by cases h) (by kernel_rfl) (fun _ h => by cases h) fnRename_row_tie rfl ⟨rfl, rfl⟩ (by kernel_rfl) rfl
    (fun f fn hf hfn => by
      obtain rfl : f = 4 := Option.some.inj ((show Tryz.prog.funcNamed "loop.example/pub-g01448/laws.FnRename" = some 4 by kernel_rfl).symm.trans hf) |>.symm
      obtain rfl : fn = Tryz.f4 := (Option.some.inj (Tryz.func4.symm.trans hfn)).symm
      exact ⟨by kernel_rfl, fun j t ht => by
        rw [Tryz.params4] at ht
        have hm : t ∈ [24, 9, 9, 9] := by simpa using Array.mem_of_getElem? ht
        have hall : ([24, 9, 9, 9].all fun u => !Tryz.prog.wantsStandIn u) = true := by kernel_rfl
        exact (show Tryz.prog.wantsStandIn t = false by simpa using List.all_eq_true.1 hall t hm)⟩)
    (by kernel_rfl)

#print axioms rename_card
end Go.Proofs.YtnhccgbkalpcnaaGreatDoor
