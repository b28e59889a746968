/- FnWalk: what the law's code does. -/
import Derived.Test.YtnhccgbkalpcnaaGreatDoorWalkW
import Derived.Test.YtnhccgbkalpcnaaGreatDoorKindsW
import Derived.Test.YtnhccgbkalpcnaaGreatDoorSizeT
import Derived.Test.YtnhccgbkalpcnaaGreatDoorAlikeC
import Derived.Test.YtnhccgbkalpcnaaGreatDoorEnc4
namespace Go.Proofs.YtnhccgbkalpcnaaGreatDoor
open Go.RowKit

theorem kinds_head {t : Tree} (h : Good t) : ∃ r, kindsT t = t.kind :: r := by
  obtain ⟨k, x, n, ks⟩ := t
  obtain ⟨g1, _, _⟩ := good_kinds h
  have g1' : k.toList.isEmpty = false := by
    cases e : k.toList with
    | nil => simp only [Tree.kind] at g1; rw [e] at g1; simp at g1
    | cons _ _ => rfl
  rw [kindsT, g1']
  exact ⟨_, rfl⟩

set_option maxRecDepth 100000 in
set_option maxHeartbeats 4000000 in
theorem fnWalk_walk (W0 : World) (hb1 : 1 < W0.heap.size) (t : Tree) (v : Value) (hv : At W0 t v) (w : World) (hw : Later W0 w) : Calls Tryz.prog 3 #[v] w fun e w' => e = .returned (.bool true) ∧ Below w.heap.size w w' := by
  have I1 := Lib.hid (fits2_any W0 t _ hv)
  have I2 := Lib.hid (small_any W0 t _ hv)
  have I3 := Lib.hid (encoding_good W0 hb1 t _ hv)
  have HW := Lib.hid (fun (hg : Good t) (hs : t.sz ≤ 200) W hW => walk_ok W0 t hg hs _ hv W hW)
  have HK0 := Lib.hid (fun (hg : Good t) (hs : t.sz ≤ 200) W hW => kinds_any W0 t (.inl hg) (by omega) _ hv W hW)
  have HH := Lib.hid (fun (hg : Good t) => kinds_head hg)
  obtain ⟨k, x, n, ks⟩ := t
  obtain ⟨a, c, rfl, _⟩ := hv.shut
  have S0 := Lib.hid (St.start hw (.string k) (.string x) (.int .i64 n) (.slice a ks.length c))
  clear hv hw
  go_enter Tryz.func3, Tryz.ntmps3
  go_wp2_with fail
  refine (I1.out _ S0.out.later).mono ?_
  rintro e w1 ⟨⟨r, rfl, hr⟩, b⟩
  have S1 := Lib.hid (S0.out.on b)
  clear b
  cases r with
  | false =>
    clear hr
    obtain ⟨bx0, bx1, bx2, bx3⟩ := S1.out.box
    go_wp2_with fail
    go_ret
    exact ⟨rfl, S1.out.below⟩
  | true =>
    clear hr
    obtain ⟨bx0, bx1, bx2, bx3⟩ := S1.out.box
    go_wp2_with fail
    refine (I2.out _ S1.out.later).mono ?_
    rintro e w2 ⟨⟨r, rfl, hr⟩, b⟩
    have S2 := Lib.hid (S1.out.on b)
    clear b
    try clear bx0 bx1 bx2 bx3
    cases r with
    | false =>
      clear hr
      obtain ⟨bx0, bx1, bx2, bx3⟩ := S2.out.box
      go_wp2_with fail
      go_ret
      exact ⟨rfl, S2.out.below⟩
    | true =>
      have R2 := Lib.hid (hr rfl)
      clear hr
      obtain ⟨bx0, bx1, bx2, bx3⟩ := S2.out.box
      go_wp2_with fail
      refine (I3.out _ S2.out.later).mono ?_
      rintro e w3 ⟨⟨r, rfl, hr⟩, b⟩
      have S3 := Lib.hid (S2.out.on b)
      clear b
      try clear bx0 bx1 bx2 bx3
      cases r with
      | false =>
        clear hr
        obtain ⟨bx0, bx1, bx2, bx3⟩ := S3.out.box
        go_wp2_with fail
        go_ret
        exact ⟨rfl, S3.out.below⟩
      | true =>
        have R3 := Lib.hid (hr rfl)
        clear hr
        obtain ⟨bx0, bx1, bx2, bx3⟩ := S3.out.box
        go_wp2_with fail
        have HK := Lib.hid (fun W hW => HK0.out R3.out R2.out W hW)
        refine (HW.out R3.out R2.out _ S3.out.later).mono ?_
        rintro e w4 ⟨u, rfl, hsl, b⟩
        have S4 := Lib.hid (S3.out.on b)
        clear bx0 bx1 bx2 bx3
        obtain ⟨r, hr⟩ := HH.out R3.out
        obtain ⟨ga, gc, rfl, hgl, hgc, hgr⟩ := hsl.strs
        rw [hr] at hgr
        obtain ⟨gb, go, rfl, hgb, hgcell⟩ := hgr.resolve_left (by simp)
        have g0 : w4.drew.cell? ⟨gb, go, none⟩ = some (.string k) := by simpa [Tree.kind] using hgcell 0 (by simp)
        have SG := Lib.hid (show SliceOf w4.drew (fun i => i < w4.drew.heap.size) (.slice (some ⟨gb, go, none⟩) (kindsT (.node k x n ks)).length gc) (strv (kindsT (.node k x n ks))) from (SliceOf.mono hsl (fun i hi => hi.2)).same (fun _ _ => rfl))
        have hlen : 0 < (kindsT (.node k x n ks)).length := by rw [hr]; simp
        have hlen' : (0 : Int) < ((kindsT (.node k x n ks)).length : Int) := by omega
        have S5 := Lib.hid (S4.out.on (Below.refl _ _).drew)
        obtain ⟨bx0, bx1, bx2, bx3⟩ := S5.out.box
        clear hsl hgl hgc hgr hgb hgcell HH hr b HW
        generalize kindsT (.node k x n ks) = ss at *
        go_wp2_with fail
        refine wp_region_any (by kernel_rfl) ?_
        change wpAny _ _ _ _ _ _ _ (World.drew _)
        refine wpAny_take_at (i := 0) (some 17) (v := ?_) rfl rfl (by kernel_rfl) (by kernel_rfl) (by kernel_rfl) (fun _ _ _ h => h) (Or.inl ⟨by rfl, ?_⟩) ?_
        rotate_left
        focus (intro w; go_simp; try with_reducible rfl)
        simp only [Act.put, List.setIfInBounds_toArray, List.set_cons_succ, List.set_cons_zero]
        refine wpAny_take_at (i := 1) (some 18) (v := ?_) rfl rfl (by kernel_rfl) (by kernel_rfl) (by kernel_rfl) (fun _ _ _ h => h) (Or.inl ⟨by rfl, ?_⟩) ?_
        rotate_left
        focus (intro w; go_simp; try with_reducible rfl)
        simp only [Act.put, List.setIfInBounds_toArray, List.set_cons_succ, List.set_cons_zero]
        refine wpAny_take_at (i := 2) (some 19) (v := ?_) rfl rfl (by kernel_rfl) (by kernel_rfl) (by kernel_rfl) (fun _ _ _ h => h) (Or.inl ⟨by rfl, ?_⟩) ?_
        rotate_left
        focus (intro w; go_simp; try with_reducible rfl)
        simp only [Act.put, List.setIfInBounds_toArray, List.set_cons_succ, List.set_cons_zero]
        refine wpAny_take_at (i := 3) (some 20) (v := ?_) rfl rfl (by kernel_rfl) (by kernel_rfl) (by kernel_rfl) (fun _ _ _ h => h) (Or.inl ⟨by rfl, ?_⟩) ?_
        rotate_left
        focus (intro w; go_simp; try with_reducible rfl)
        simp only [Act.put, List.setIfInBounds_toArray, List.set_cons_succ, List.set_cons_zero]
        refine wpAny_take_at (i := 4) (some 21) (v := ?_) rfl rfl (by kernel_rfl) (by kernel_rfl) (by kernel_rfl) (fun _ _ _ h => h) (Or.inl ⟨by rfl, ?_⟩) ?_
        rotate_left
        focus (intro w; go_simp; try with_reducible rfl)
        simp only [Act.put, List.setIfInBounds_toArray, List.set_cons_succ, List.set_cons_zero]
        refine wpAny_take_at (i := 5) (some 22) (v := ?_) rfl rfl (by kernel_rfl) (by kernel_rfl) (by kernel_rfl) (fun _ _ _ h => h) (Or.inl ⟨by rfl, ?_⟩) ?_
        rotate_left
        focus (intro w; go_simp; try with_reducible rfl)
        simp only [Act.put, List.setIfInBounds_toArray, List.set_cons_succ, List.set_cons_zero]
        refine wpAny_take_at (i := 7) (some 24) (v := ?_) rfl rfl (by kernel_rfl) (by kernel_rfl) (by kernel_rfl) (fun _ _ _ h => h) (Or.inl ⟨by rfl, ?_⟩) ?_
        rotate_left
        focus (intro w; go_simp; try with_reducible rfl)
        simp only [Act.put, List.setIfInBounds_toArray, List.set_cons_succ, List.set_cons_zero]
        refine wpAny_ready (rs := [6, 8]) (by kernel_rfl) (by simp) ?_
        refine AllReady.cons rfl (fun K hK => ?_) (AllReady.cons rfl (fun K hK => ?_) AllReady.nil)
        · go_simp
          refine hK _ _ ?_
          clear hK K
          refine wpAny_ready (rs := [8]) (by kernel_rfl) (by simp) ?_
          refine AllReady.cons rfl (fun K hK => ?_) AllReady.nil
          go_simp
          refine hK _ _ ?_
          clear hK K
          refine wpAny_take_at (i := 9) (some 26) (v := ?_) rfl rfl (by kernel_rfl) (by kernel_rfl) (by kernel_rfl) (fun _ _ _ h => h) (Or.inl ⟨by rfl, ?_⟩) ?_
          rotate_left
          focus (intro w; go_simp; try with_reducible rfl)
          simp only [Act.put, List.setIfInBounds_toArray, List.set_cons_succ, List.set_cons_zero]
          refine wpAny_take_at (i := 10) (some 27) (v := ?_) rfl rfl (by kernel_rfl) (by kernel_rfl) (by kernel_rfl) (fun _ _ _ h => h) (Or.inl ⟨by rfl, ?_⟩) ?_
          rotate_left
          focus (intro w; go_simp; try with_reducible rfl)
          simp only [Act.put, List.setIfInBounds_toArray, List.set_cons_succ, List.set_cons_zero]
          refine wpAny_take_at (i := 11) (some 28) (v := ?_) rfl rfl (by kernel_rfl) (by kernel_rfl) (by kernel_rfl) (fun _ _ _ h => h) (Or.inl ⟨by rfl, ?_⟩) ?_
          rotate_left
          focus (intro w; go_simp; try with_reducible rfl)
          simp only [Act.put, List.setIfInBounds_toArray, List.set_cons_succ, List.set_cons_zero]
          refine wpAny_take_at (i := 12) (some 29) (v := ?_) rfl rfl (by kernel_rfl) (by kernel_rfl) (by kernel_rfl) (fun _ _ _ h => h) (Or.inl ⟨by rfl, ?_⟩) ?_
          rotate_left
          focus (intro w; go_simp; try with_reducible rfl)
          simp only [Act.put, List.setIfInBounds_toArray, List.set_cons_succ, List.set_cons_zero]
          refine wpAny_ready (rs := [13]) (by kernel_rfl) (by simp) ?_
          refine AllReady.cons rfl (fun K hK => ?_) AllReady.nil
          go_simp
          refine hK _ _ ?_
          clear hK K
          refine wpAny_ready (rs := [14]) (by kernel_rfl) (by simp) ?_
          refine AllReady.cons rfl (fun K hK => ?_) AllReady.nil
          go_simp
          refine (HK.out _ S5.out.later).mono ?_
          rintro e w6 ⟨u6, rfl, hsl, b⟩
          have S6 := Lib.hid (S5.out.on b)
          have SA := Lib.hid (SliceOf.same SG.out (Same.below b (fun i hi => hi)))
          have SU := Lib.hid hsl
          obtain ⟨a6, c6, rfl, _⟩ := hsl.lay
          clear b g0 bx0 bx1 bx2 bx3 hsl
          go_wp2_with fail
          refine wpAny_ready (rs := [15]) (by kernel_rfl) (by simp) ?_
          refine AllReady.cons rfl (fun K hK => ?_) AllReady.nil
          go_simp
          refine (alike_same _ _ _ _ SA.out SU.out).mono ?_
          rintro e w7 ⟨rfl, rfl⟩
          go_wp2_with fail
          refine wpAny_take_at (i := 16) (some 33) (v := ?_) rfl rfl (by kernel_rfl) (by kernel_rfl) (by kernel_rfl) (fun _ _ _ h => h) (Or.inl ⟨by rfl, ?_⟩) ?_
          rotate_left
          focus (intro w; go_simp; try with_reducible rfl)
          simp only [Act.put, List.setIfInBounds_toArray, List.set_cons_succ, List.set_cons_zero]
          refine wpAny_take_at (i := 17) (some 2) (v := ?_) rfl rfl (by kernel_rfl) (by kernel_rfl) (by kernel_rfl) (fun _ _ _ h => h) (Or.inl ⟨by rfl, ?_⟩) ?_
          rotate_left
          focus (intro w; go_simp; try with_reducible rfl)
          simp only [Act.put, List.setIfInBounds_toArray, List.set_cons_succ, List.set_cons_zero]
          refine wpAny_done (by kernel_rfl) ?_ _
          go_wp2_with fail
          go_ret
          exact ⟨rfl, S6.out.below⟩
        · go_simp
          refine hK _ _ ?_
          clear hK K
          refine wpAny_ready (rs := [6]) (by kernel_rfl) (by simp) ?_
          refine AllReady.cons rfl (fun K hK => ?_) AllReady.nil
          go_simp
          refine hK _ _ ?_
          clear hK K
          refine wpAny_take_at (i := 9) (some 26) (v := ?_) rfl rfl (by kernel_rfl) (by kernel_rfl) (by kernel_rfl) (fun _ _ _ h => h) (Or.inl ⟨by rfl, ?_⟩) ?_
          rotate_left
          focus (intro w; go_simp; try with_reducible rfl)
          simp only [Act.put, List.setIfInBounds_toArray, List.set_cons_succ, List.set_cons_zero]
          refine wpAny_take_at (i := 10) (some 27) (v := ?_) rfl rfl (by kernel_rfl) (by kernel_rfl) (by kernel_rfl) (fun _ _ _ h => h) (Or.inl ⟨by rfl, ?_⟩) ?_
          rotate_left
          focus (intro w; go_simp; try with_reducible rfl)
          simp only [Act.put, List.setIfInBounds_toArray, List.set_cons_succ, List.set_cons_zero]
          refine wpAny_take_at (i := 11) (some 28) (v := ?_) rfl rfl (by kernel_rfl) (by kernel_rfl) (by kernel_rfl) (fun _ _ _ h => h) (Or.inl ⟨by rfl, ?_⟩) ?_
          rotate_left
          focus (intro w; go_simp; try with_reducible rfl)
          simp only [Act.put, List.setIfInBounds_toArray, List.set_cons_succ, List.set_cons_zero]
          refine wpAny_take_at (i := 12) (some 29) (v := ?_) rfl rfl (by kernel_rfl) (by kernel_rfl) (by kernel_rfl) (fun _ _ _ h => h) (Or.inl ⟨by rfl, ?_⟩) ?_
          rotate_left
          focus (intro w; go_simp; try with_reducible rfl)
          simp only [Act.put, List.setIfInBounds_toArray, List.set_cons_succ, List.set_cons_zero]
          refine wpAny_ready (rs := [13]) (by kernel_rfl) (by simp) ?_
          refine AllReady.cons rfl (fun K hK => ?_) AllReady.nil
          go_simp
          refine hK _ _ ?_
          clear hK K
          refine wpAny_ready (rs := [14]) (by kernel_rfl) (by simp) ?_
          refine AllReady.cons rfl (fun K hK => ?_) AllReady.nil
          go_simp
          refine (HK.out _ S5.out.later).mono ?_
          rintro e w6 ⟨u6, rfl, hsl, b⟩
          have S6 := Lib.hid (S5.out.on b)
          have SA := Lib.hid (SliceOf.same SG.out (Same.below b (fun i hi => hi)))
          have SU := Lib.hid hsl
          obtain ⟨a6, c6, rfl, _⟩ := hsl.lay
          clear b g0 bx0 bx1 bx2 bx3 hsl
          go_wp2_with fail
          refine wpAny_ready (rs := [15]) (by kernel_rfl) (by simp) ?_
          refine AllReady.cons rfl (fun K hK => ?_) AllReady.nil
          go_simp
          refine (alike_same _ _ _ _ SA.out SU.out).mono ?_
          rintro e w7 ⟨rfl, rfl⟩
          go_wp2_with fail
          refine wpAny_take_at (i := 16) (some 33) (v := ?_) rfl rfl (by kernel_rfl) (by kernel_rfl) (by kernel_rfl) (fun _ _ _ h => h) (Or.inl ⟨by rfl, ?_⟩) ?_
          rotate_left
          focus (intro w; go_simp; try with_reducible rfl)
          simp only [Act.put, List.setIfInBounds_toArray, List.set_cons_succ, List.set_cons_zero]
          refine wpAny_take_at (i := 17) (some 2) (v := ?_) rfl rfl (by kernel_rfl) (by kernel_rfl) (by kernel_rfl) (fun _ _ _ h => h) (Or.inl ⟨by rfl, ?_⟩) ?_
          rotate_left
          focus (intro w; go_simp; try with_reducible rfl)
          simp only [Act.put, List.setIfInBounds_toArray, List.set_cons_succ, List.set_cons_zero]
          refine wpAny_done (by kernel_rfl) ?_ _
          go_wp2_with fail
          go_ret
          exact ⟨rfl, S6.out.below⟩

end Go.Proofs.YtnhccgbkalpcnaaGreatDoor
