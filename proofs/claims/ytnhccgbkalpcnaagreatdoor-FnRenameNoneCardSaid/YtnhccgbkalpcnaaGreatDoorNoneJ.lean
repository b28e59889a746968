/- FnRenameNone: for every input the call returns true, and the arguments read afterwards as they read before; the two listed tables read as the program's text lays them (tied). -/
import Derived.Test.YtnhccgbkalpcnaaGreatDoorRenJ
import Derived.Test.YtnhccgbkalpcnaaGreatDoorFrameN
import Derived.Test.YtnhccgbkalpcnaaGreatDoorCards
import Derived.Test.YtnhccgbkalpcnaaGreatDoorTie
import Derived.SevenTiedAt
namespace Go.Proofs.YtnhccgbkalpcnaaGreatDoor
open Go.RowKit

theorem hit_self (f : ByteArray) (tr : Tree) : hitT f tr.kind tr = false := by
  obtain ⟨k, x, n, ks⟩ := tr
  exact hit_skip (by simp [Tree.kind])

set_option maxRecDepth 100000 in
set_option maxHeartbeats 4000000 in
theorem fnRenameNone_walk (W0 : World) (hb1 : 1 < W0.heap.size) (tr : Tree) (v : Value) (hv : At W0 tr v) (f t : ByteArray) (w : World) (hw : Later W0 w) : Calls Tryz.prog 5 #[v, .string f, .string t] w fun e w' => e = .returned (.bool true) ∧ Below w.heap.size w w' := by
  have I1 := Lib.hid (fits2_any W0 tr _ hv)
  have I2 := Lib.hid (small_any W0 tr _ hv)
  have I3 := Lib.hid (encoding_good W0 hb1 tr _ hv)
  have I4 := Lib.hid (copied_any W0 tr _ hv)
  have HAT := Lib.hid (fun W hW => At.in_ (W0 := W0) (w := W) hv hW)
  have HV := Lib.hid hv
  obtain ⟨a0, c0, hv0, _⟩ := hv.lay
  have hv1 : v = .agg #[.string tr.kind, .string tr.text, .int .i64 tr.num, .slice a0 tr.kids.length c0] := hv0
  subst hv1
  clear hv0
  have S0 := Lib.hid (St.start hw (.string tr.kind) (.string tr.text) (.int .i64 tr.num) (.slice a0 tr.kids.length c0))
  clear hv hw
  go_enter Tryz.func5, Tryz.ntmps5
  go_wp2_with fail
  refine (I1.out _ S0.out.later).mono ?_
  rintro e w1 ⟨⟨r, rfl, hr⟩, b⟩
  have S1 := Lib.hid (S0.out.on b)
  clear b
  try clear x0 x1 x2 x3
  cases r with
  | false =>
    clear hr
    obtain ⟨x0, x1, x2, x3⟩ := S1.out.box
    go_wp2_with fail
    go_ret
    exact ⟨rfl, S1.out.below⟩
  | true =>
    clear hr
    obtain ⟨x0, x1, x2, x3⟩ := S1.out.box
    by_cases lf : 2147483647 < (f.size : Int)
    · go_wp2_with fail
      go_ret
      exact ⟨rfl, S1.out.below⟩
    by_cases lt : 2147483647 < (t.size : Int)
    · go_wp2_with fail
      go_ret
      exact ⟨rfl, S1.out.below⟩
    go_wp2_with fail
    refine (I2.out _ S1.out.later).mono ?_
    rintro e w2 ⟨⟨r, rfl, hr⟩, b⟩
    have S2 := Lib.hid (S1.out.on b)
    clear b
    try clear x0 x1 x2 x3
    cases r with
    | false =>
      clear hr
      obtain ⟨x0, x1, x2, x3⟩ := S2.out.box
      go_wp2_with fail
      go_ret
      exact ⟨rfl, S2.out.below⟩
    | true =>
      have R2 := Lib.hid (hr rfl)
      clear hr
      obtain ⟨x0, x1, x2, x3⟩ := S2.out.box
      go_wp2_with fail
      refine (I3.out _ S2.out.later).mono ?_
      rintro e w3 ⟨⟨r, rfl, hr⟩, b⟩
      have S3 := Lib.hid (S2.out.on b)
      clear b
      try clear x0 x1 x2 x3
      cases r with
      | false =>
        clear hr
        obtain ⟨x0, x1, x2, x3⟩ := S3.out.box
        go_wp2_with fail
        go_ret
        exact ⟨rfl, S3.out.below⟩
      | true =>
        have R3 := Lib.hid (hr rfl)
        clear hr
        obtain ⟨x0, x1, x2, x3⟩ := S3.out.box
        go_wp2_with fail
        refine (I4.out _ S3.out.later).mono ?_
        rintro e w4 ⟨⟨r, rfl, hr⟩, b⟩
        have S4 := Lib.hid (S3.out.on b)
        clear b
        try clear x0 x1 x2 x3
        cases r with
        | false =>
          clear hr
          obtain ⟨x0, x1, x2, x3⟩ := S4.out.box
          go_wp2_with fail
          go_ret
          exact ⟨rfl, S4.out.below⟩
        | true =>
          have R4 := Lib.hid (hr rfl)
          clear hr
          obtain ⟨x0, x1, x2, x3⟩ := S4.out.box
          have HR1 := Lib.hid (fun W hW => rename_no W0 R3.out R2.out R4.out f t tr.kind (hit_self f tr) _ HV.out W hW)
          cases hh : hitT f noneT tr with
          | false =>
            have HRW := Lib.hid (fun W hW => rename_no W0 R3.out R2.out R4.out f t ⟨#[110, 111, 110, 101]⟩ hh _ HV.out W hW)
            have HNM := Lib.hid (fun W hW => hasName_any W0 f tr _ HV.out W hW)
            rw [show hasN f tr = false from (none_good f R3.out).symm.trans hh] at HNM
            clear hh
            go_wp2_with fail
            refine (HR1.out _ S4.out.later).mono ?_
            rintro e w5 ⟨rfl, b5⟩
            have S5 := Lib.hid (S4.out.on b5)
            clear b5 HR1 x0 x1 x2 x3
            have S5b := Lib.hid (S5.out.on (box_below w5 (.cells #[.string ⟨#[]⟩, .string ⟨#[]⟩, .int .i64 0, .slice none 0 0] 24)))
            obtain ⟨x0, x1, x2, x3⟩ := S5b.out.box
            go_wp2_with fail
            refine (HRW.out _ S5b.out.later).mono ?_
            rintro e w6 ⟨rfl, b6⟩
            have S6 := Lib.hid (S5b.out.on b6)
            clear b6 HRW x0 x1 x2 x3
            have S6b := Lib.hid (S6.out.on (box_below w6 (.cells #[.string ⟨#[]⟩, .string ⟨#[]⟩, .int .i64 0, .slice none 0 0] 24)))
            obtain ⟨x0, x1, x2, x3⟩ := S6b.out.box
            go_wp2_with fail
            refine (HNM.out _ S6b.out.later).mono ?_
            rintro e w7 ⟨rfl, b7⟩
            have S7 := Lib.hid (S6b.out.on b7)
            clear b7 HNM
            go_wp2_with fail
            go_ret
            exact ⟨rfl, S7.out.below⟩
          | true =>
            have HRW := Lib.hid (fun W hW => rename_yes W0 R3.out R2.out R4.out f t ⟨#[110, 111, 110, 101]⟩ hh _ HV.out W hW)
            have HNM := Lib.hid (fun W hW => hasName_any W0 f tr _ HV.out W hW)
            rw [show hasN f tr = true from (none_good f R3.out).symm.trans hh] at HNM
            clear hh
            generalize renT f t ⟨#[110, 111, 110, 101]⟩ tr = RT at *
            go_wp2_with fail
            refine (HR1.out _ S4.out.later).mono ?_
            rintro e w5 ⟨rfl, b5⟩
            have S5 := Lib.hid (S4.out.on b5)
            clear b5 HR1 x0 x1 x2 x3
            have S5b := Lib.hid (S5.out.on (box_below w5 (.cells #[.string ⟨#[]⟩, .string ⟨#[]⟩, .int .i64 0, .slice none 0 0] 24)))
            obtain ⟨x0, x1, x2, x3⟩ := S5b.out.box
            go_wp2_with fail
            refine (HRW.out _ S5b.out.later).mono ?_
            rintro e w6 ⟨⟨a6, n6, c6, rfl, h6⟩, b6⟩
            clear h6
            have S6 := Lib.hid (S5b.out.on b6)
            clear b6 HRW x0 x1 x2 x3
            have S6b := Lib.hid (S6.out.on (box_below w6 (.cells #[.string RT.kind, .string RT.text, .int .i64 RT.num, .slice a6 n6 c6] 24)))
            obtain ⟨x0, x1, x2, x3⟩ := S6b.out.box
            go_wp2_with fail
            refine (HNM.out _ S6b.out.later).mono ?_
            rintro e w7 ⟨rfl, b7⟩
            have S7 := Lib.hid (S6b.out.on b7)
            clear b7 HNM
            go_wp2_with fail
            go_ret
            exact ⟨rfl, S7.out.below⟩

end Go.Proofs.YtnhccgbkalpcnaaGreatDoor

namespace Go.Proofs.YtnhccgbkalpcnaaGreatDoor
open Go Go.ChangeShapes Go.WideShapes Go.ChangeAt Go.RowKit
open Go.ChangeMaps (open_string shut_string)

set_option maxRecDepth 100000 in
theorem renameNone_lifted (os : Os) (started : os.Started) (H : Type) (enc : TypeId × Value → H) :
    ReturnsInHanded {} Tryz.checked os 5 .any (fun w args => (Rows.fnRenameNoneSpec.pre enc Tryz.prog Tryz.f5 [] false w args ∧ laidMetH Tryz.prog laid2 w) ∧ sizedMet enc Tryz.prog Tryz.f5 (OpenSpec.ofChange Rows.fnRenameNoneSpec) false w args)
      (Rows.fnRenameNoneSpec.post enc Tryz.prog Tryz.f5 false true false false) := by
  refine returnsInHanded_of_change_and (C := Tryz.checked) (X := fun w _ => laidMetH Tryz.prog laid2 w) (fun _ _ _ hh h => h.of_heap hh) own started (by kernel_rfl) Tryz.func5
    (ChangeSpec.witness_shaped (enc := enc) (C := Tryz.checked) (os := os) (X := fun w _ => laidMetH Tryz.prog laid2 w) false (World.doorLaid Tryz.prog 400 os) #[.agg #[.string ByteArray.empty, .string ByteArray.empty, .int .i64 0, .slice none 0 0], .string ByteArray.empty, .string ByteArray.empty] 8 rfl (World.shaped_of_RefB (by kernel_rfl) (by kernel_rfl)) (by kernel_rfl) (by kernel_rfl) (by kernel_rfl) (door_met os _)) ?_
  intro W base args ds gs before hval0 hW _ _ hL _
  have hval : ∀ (j : Nat) t v, Tryz.f5.params[j]? = some t → args[j]? = some v → Value.okWide Tryz.prog W .any base t v := hval0
  have hW' := hW
  obtain ⟨p, q, hA0, hV, rfl, hfz, hnd⟩ := hW
  have hA : DataW.TrodAll enc Tryz.prog W 0 (fun _ => true) true Tryz.f5.params.toList args.toList ds p := hA0
  rw [Tryz.params5] at hA hval
  obtain ⟨v0, vs0, d0, ds0, p0, q0, hargs, rfl, rfl, h0, r0⟩ := trodAll_cons hA
  obtain ⟨v1, vs1, d1, ds1, p1, q1, rfl, rfl, rfl, h1, r1⟩ := trodAll_cons r0
  obtain ⟨v2, vs2, d2, ds2, p2, q2, rfl, rfl, rfl, h2, r2⟩ := trodAll_cons r1
  obtain ⟨rfl, rfl, rfl⟩ := trodAll_nil r2
  obtain rfl : args = #[v0, v1, v2] := by cases args; simp_all
  have hV' := hV
  obtain ⟨_, _, _, _, e0, _, _, _, _, _, e1, _, rfl, _⟩ := trodVars_two hV
  have lt0 : ∀ x ∈ p0, x.block < W.heap.size := by obtain ⟨m, hm⟩ := h0; exact DataW.trod_lt m _ _ _ hm
  obtain ⟨t0, hat0⟩ := open_node h0
  obtain ⟨s1, rfl, rfl, rfl, w1⟩ := open_string Tryz.underlying9 (hval 1 9 v1 rfl rfl) h1
  obtain ⟨s2, rfl, rfl, rfl, w2⟩ := open_string Tryz.underlying9 (hval 2 9 v2 rfl rfl) h2
  clear hA0 hval0
  have hT := tables_of hL
  refine (fnRenameNone_walk W hT.1 t0 v0 hat0 s1 s2 W (later_refl hT)).mono fun e W2 ⟨he, bel⟩ => ?_
  subst he
  exact ⟨_, rfl, _, _, _, [], _, _, hW', trodAll_mk1 (shut_bool Tryz.underlying4 _), (trodAll_cons_mk (Below.trod laidOut (by kernel_rfl) (of_decide_eq_true (by kernel_rfl)) h0 bel lt0) (trodAll_cons_mk (shut_string Tryz.underlying9 w1) (trodAll_cons_mk (shut_string Tryz.underlying9 w2) trodAll_mk0))),
    bel.trodVars laidOut (by kernel_rfl) hV', bel.frame _, fun h => by cases h⟩

theorem renameNone_row : Rows.FnRenameNoneSaid :=
  OpenClaim.holds_of_wide 5 Tryz.f5 rfl rfl rfl rfl rfl rfl rfl ⟨rfl, rfl, rfl, rfl, rfl⟩ rfl rfl rfl rfl rfl (by kernel_rfl) Tryz.func5 (by kernel_rfl)
    (of_decide_eq_true (by kernel_rfl)) (by unfold Func.isWrapper; first | (rw [if_pos (by decide +kernel)]; kernel_rfl) | (rw [if_neg (by decide +kernel)]; exact ⟨rfl, rfl⟩))
    (fun os started H enc _ => renameNone_lifted os started H enc)

theorem renameNone_card : Rows.FnRenameNoneCardSaid :=
  Claim7.holds_tied_plain_at .later [] [.data, .data] true (true, "f3c873f0342fd7c6a935b252c77dbe9eab8d52faa3740a14ff509d4be4e598a8") true
    renameNone_row (fun _ h => by cases h) (by kernel_rfl) (fun _ h => by cases h) fnRenameNone_row_tie rfl ⟨rfl, rfl⟩ (by kernel_rfl) rfl
    (fun f fn hf hfn => by
      obtain rfl : f = 5 := Option.some.inj ((show Tryz.prog.funcNamed "loop.example/pub-g01448/laws.FnRenameNone" = some 5 by kernel_rfl).symm.trans hf) |>.symm
      obtain rfl : fn = Tryz.f5 := (Option.some.inj (Tryz.func5.symm.trans hfn)).symm
      exact ⟨by kernel_rfl, fun j t ht => by
        rw [Tryz.params5] at ht
        have hm : t ∈ [24, 9, 9] := by simpa using Array.mem_of_getElem? ht
        have hall : ([24, 9, 9].all fun u => !Tryz.prog.wantsStandIn u) = true := by kernel_rfl
        exact (show Tryz.prog.wantsStandIn t = false by simpa using List.all_eq_true.1 hall t hm)⟩)
    (by kernel_rfl)

#print axioms renameNone_card
end Go.Proofs.YtnhccgbkalpcnaaGreatDoor
