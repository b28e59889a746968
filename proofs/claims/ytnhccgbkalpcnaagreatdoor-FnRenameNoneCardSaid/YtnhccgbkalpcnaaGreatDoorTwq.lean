/- IsType: a type with qualifiers. -/
import Derived.Test.YtnhccgbkalpcnaaGreatDoorMth
import Derived.Deep.RegionWith
namespace Go.Proofs.YtnhccgbkalpcnaaGreatDoor
open Go.RowKit

theorem wpAny_take_at {P : Program} {md : Region.Mode} {ops : Array Oper} {Q : Exit → Act → World → Prop} {i : Nat} (d : Option Tmp) {oi : Oper} {v : Value} {fuel : Nat} {listed : Array Bool} {a : Act} {w : World} (hi : ops[i]? = some oi) (hd : oi.dst = d)
    (hs : Region.noSelect ops = true) (hf : Region.free md ops listed i = true) (hr : (Region.ready md ops listed).contains i = true)
    (hQ : ∀ c a w, Q (.panic c) (a.put d v) w → Q (.panic c) a w) (hy : Yields P ops oi v a)
    (h : wpAny P md ops Q fuel (listed.setIfInBounds i true) (a.put d v) w) : wpAny P md ops Q (fuel + 1) listed a w := by
  subst hd
  exact wpAny_take hi hs hf hr hQ hy h

theorem plain_two (w : World) (k : ByteArray) (a : Option Addr) (cap : Nat) : Calls Tryz.prog 29 #[.agg #[.string k, .string ⟨#[]⟩, .int .i64 0, .slice a 2 cap], .int .i64 2] w fun e w' => e = .returned (.bool true) ∧ Below w.heap.size w w' := by
  go_enter Tryz.func29, Tryz.ntmps29
  go_wp2
  go_ret
  exact ⟨rfl, box_below _ _⟩
theorem plain_not (w : World) (k x : ByteArray) (n : Int) (l : Nat) (a : Option Addr) (cap : Nat) (m : Int) (h : ¬ (x = ⟨#[]⟩ ∧ n = 0 ∧ (l : Int) = m)) :
    Calls Tryz.prog 29 #[.agg #[.string k, .string x, .int .i64 n, .slice a l cap], .int .i64 m] w fun e w' => e = .returned (.bool false) ∧ Below w.heap.size w w' := by
  refine (plain_any w k x n l a cap m).mono ?_
  rintro e w' ⟨⟨r, rfl, hr⟩, b⟩
  cases r with
  | false => exact ⟨rfl, b⟩
  | true => exact absurd (hr rfl) h

set_option maxRecDepth 100000 in
set_option maxHeartbeats 4000000 in
theorem twq_shut (W0 : World) (x : ByteArray) (n : Int) (ks : List Tree) (hs : ¬ (x = ⟨#[]⟩ ∧ n = 0 ∧ (ks.length : Int) = 2)) (P : Prop) : Test W0 53 (.node ⟨#[84, 121, 112, 101, 87, 105, 116, 104, 81, 117, 97, 108, 105, 102, 105, 101, 114, 115]⟩ x n ks) P := by
  intro v hv w hw
  obtain ⟨a, c, rfl, _⟩ := hv.shut
  have HP := Lib.hid (fun W => plain_not W ⟨#[84, 121, 112, 101, 87, 105, 116, 104, 81, 117, 97, 108, 105, 102, 105, 101, 114, 115]⟩ x n ks.length a c 2 hs)
  have S0 := Lib.hid ((St.start hw (.string ⟨#[84, 121, 112, 101, 87, 105, 116, 104, 81, 117, 97, 108, 105, 102, 105, 101, 114, 115]⟩) (.string x) (.int .i64 n) (.slice a ks.length c)).on (Below.refl _ _).drew)
  clear hv hs hw
  go_enter Tryz.func53, Tryz.ntmps53
  go_wp2_with fail
  refine wp_region_any (by kernel_rfl) ?_
  change wpAny _ _ _ _ _ _ _ (World.drew _)
  refine wpAny_ready (rs := [0]) (by kernel_rfl) (by simp) ?_
  refine AllReady.cons rfl (fun K hK => ?_) AllReady.nil
  go_simp
  refine hK _ _ ?_
  clear hK K
  refine wpAny_ready (rs := [1]) (by kernel_rfl) (by simp) ?_
  refine AllReady.cons rfl (fun K hK => ?_) AllReady.nil
  go_simp
  refine (HP.out _).mono ?_
  rintro e w1 ⟨rfl, b1⟩
  have S1 := Lib.hid (S0.out.on b1)
  clear b1 HP
  go_wp2_with fail
  refine wpAny_take_at (i := 2) (some 85) (v := ?_) rfl rfl (by kernel_rfl) (by kernel_rfl) (by kernel_rfl) (fun _ _ _ h => h) (Or.inl ⟨by rfl, ?_⟩) ?_
  rotate_left
  focus (intro w; go_simp; try with_reducible rfl)
  simp only [Act.put, List.setIfInBounds_toArray, List.set_cons_succ, List.set_cons_zero]
  refine wpAny_take_at (i := 3) (some 86) (v := undef) rfl rfl (by kernel_rfl) (by kernel_rfl) (by kernel_rfl) (fun _ _ _ h => h) (Or.inr ⟨by rfl, rfl⟩) ?_
  simp only [Act.put, List.setIfInBounds_toArray, List.set_cons_succ, List.set_cons_zero]
  refine wpAny_take_at (i := 4) (some 87) (v := undef) rfl rfl (by kernel_rfl) (by kernel_rfl) (by kernel_rfl) (fun _ _ _ h => h) (Or.inr ⟨by rfl, rfl⟩) ?_
  simp only [Act.put, List.setIfInBounds_toArray, List.set_cons_succ, List.set_cons_zero]
  refine wpAny_take_at (i := 5) (some 88) (v := undef) rfl rfl (by kernel_rfl) (by kernel_rfl) (by kernel_rfl) (fun _ _ _ h => h) (Or.inr ⟨by rfl, rfl⟩) ?_
  simp only [Act.put, List.setIfInBounds_toArray, List.set_cons_succ, List.set_cons_zero]
  refine wpAny_take_at (i := 6) (some 89) (v := undef) rfl rfl (by kernel_rfl) (by kernel_rfl) (by kernel_rfl) (fun _ _ _ h => h) (Or.inr ⟨by rfl, rfl⟩) ?_
  simp only [Act.put, List.setIfInBounds_toArray, List.set_cons_succ, List.set_cons_zero]
  refine wpAny_take_at (i := 7) (some 90) (v := undef) rfl rfl (by kernel_rfl) (by kernel_rfl) (by kernel_rfl) (fun _ _ _ h => h) (Or.inr ⟨by rfl, rfl⟩) ?_
  simp only [Act.put, List.setIfInBounds_toArray, List.set_cons_succ, List.set_cons_zero]
  refine wpAny_take_at (i := 8) (some 91) (v := ?_) rfl rfl (by kernel_rfl) (by kernel_rfl) (by kernel_rfl) (fun _ _ _ h => h) (Or.inl ⟨by rfl, ?_⟩) ?_
  rotate_left
  focus (intro w; go_simp; try with_reducible rfl)
  simp only [Act.put, List.setIfInBounds_toArray, List.set_cons_succ, List.set_cons_zero]
  refine wpAny_take_at (i := 9) (some 92) (v := ?_) rfl rfl (by kernel_rfl) (by kernel_rfl) (by kernel_rfl) (fun _ _ _ h => h) (Or.inl ⟨by rfl, ?_⟩) ?_
  rotate_left
  focus (intro w; go_simp; try with_reducible rfl)
  simp only [Act.put, List.setIfInBounds_toArray, List.set_cons_succ, List.set_cons_zero]
  refine wpAny_take_at (i := 10) (some 93) (v := undef) rfl rfl (by kernel_rfl) (by kernel_rfl) (by kernel_rfl) (fun _ _ _ h => h) (Or.inr ⟨by rfl, rfl⟩) ?_
  simp only [Act.put, List.setIfInBounds_toArray, List.set_cons_succ, List.set_cons_zero]
  refine wpAny_take_at (i := 11) (some 94) (v := undef) rfl rfl (by kernel_rfl) (by kernel_rfl) (by kernel_rfl) (fun _ _ _ h => h) (Or.inr ⟨by rfl, rfl⟩) ?_
  simp only [Act.put, List.setIfInBounds_toArray, List.set_cons_succ, List.set_cons_zero]
  refine wpAny_take_at (i := 12) (some 95) (v := undef) rfl rfl (by kernel_rfl) (by kernel_rfl) (by kernel_rfl) (fun _ _ _ h => h) (Or.inr ⟨by rfl, rfl⟩) ?_
  simp only [Act.put, List.setIfInBounds_toArray, List.set_cons_succ, List.set_cons_zero]
  refine wpAny_take_at (i := 13) (some 96) (v := undef) rfl rfl (by kernel_rfl) (by kernel_rfl) (by kernel_rfl) (fun _ _ _ h => h) (Or.inr ⟨by rfl, rfl⟩) ?_
  simp only [Act.put, List.setIfInBounds_toArray, List.set_cons_succ, List.set_cons_zero]
  refine wpAny_take_at (i := 14) (some 97) (v := undef) rfl rfl (by kernel_rfl) (by kernel_rfl) (by kernel_rfl) (fun _ _ _ h => h) (Or.inr ⟨by rfl, rfl⟩) ?_
  simp only [Act.put, List.setIfInBounds_toArray, List.set_cons_succ, List.set_cons_zero]
  refine wpAny_take_at (i := 15) (some 98) (v := undef) rfl rfl (by kernel_rfl) (by kernel_rfl) (by kernel_rfl) (fun _ _ _ h => h) (Or.inr ⟨by rfl, rfl⟩) ?_
  simp only [Act.put, List.setIfInBounds_toArray, List.set_cons_succ, List.set_cons_zero]
  refine wpAny_take_at (i := 16) (some 99) (v := undef) rfl rfl (by kernel_rfl) (by kernel_rfl) (by kernel_rfl) (fun _ _ _ h => h) (Or.inr ⟨by rfl, rfl⟩) ?_
  simp only [Act.put, List.setIfInBounds_toArray, List.set_cons_succ, List.set_cons_zero]
  refine wpAny_take_at (i := 17) (some 100) (v := undef) rfl rfl (by kernel_rfl) (by kernel_rfl) (by kernel_rfl) (fun _ _ _ h => h) (Or.inr ⟨by rfl, rfl⟩) ?_
  simp only [Act.put, List.setIfInBounds_toArray, List.set_cons_succ, List.set_cons_zero]
  refine wpAny_take_at (i := 18) (some 101) (v := undef) rfl rfl (by kernel_rfl) (by kernel_rfl) (by kernel_rfl) (fun _ _ _ h => h) (Or.inr ⟨by rfl, rfl⟩) ?_
  simp only [Act.put, List.setIfInBounds_toArray, List.set_cons_succ, List.set_cons_zero]
  refine wpAny_take_at (i := 19) (some 102) (v := undef) rfl rfl (by kernel_rfl) (by kernel_rfl) (by kernel_rfl) (fun _ _ _ h => h) (Or.inr ⟨by rfl, rfl⟩) ?_
  simp only [Act.put, List.setIfInBounds_toArray, List.set_cons_succ, List.set_cons_zero]
  refine wpAny_take_at (i := 20) (some 103) (v := undef) rfl rfl (by kernel_rfl) (by kernel_rfl) (by kernel_rfl) (fun _ _ _ h => h) (Or.inr ⟨by rfl, rfl⟩) ?_
  simp only [Act.put, List.setIfInBounds_toArray, List.set_cons_succ, List.set_cons_zero]
  refine wpAny_take_at (i := 21) (some 104) (v := ?_) rfl rfl (by kernel_rfl) (by kernel_rfl) (by kernel_rfl) (fun _ _ _ h => h) (Or.inl ⟨by rfl, ?_⟩) ?_
  rotate_left
  focus (intro w; go_simp; try with_reducible rfl)
  simp only [Act.put, List.setIfInBounds_toArray, List.set_cons_succ, List.set_cons_zero]
  refine wpAny_take_at (i := 22) (some 2) (v := ?_) rfl rfl (by kernel_rfl) (by kernel_rfl) (by kernel_rfl) (fun _ _ _ h => h) (Or.inl ⟨by rfl, ?_⟩) ?_
  rotate_left
  focus (intro w; go_simp; try with_reducible rfl)
  simp only [Act.put, List.setIfInBounds_toArray, List.set_cons_succ, List.set_cons_zero]
  refine wpAny_done (by kernel_rfl) ?_ _
  go_wp2_with fail
  go_ret
  exact ⟨says_no rfl, S1.out.below⟩

set_option maxRecDepth 100000 in
set_option maxHeartbeats 4000000 in
theorem twq_open (W0 : World) (p q : Tree) (hqu : Test W0 66 p (Good p)) : Test W0 53 (.node ⟨#[84, 121, 112, 101, 87, 105, 116, 104, 81, 117, 97, 108, 105, 102, 105, 101, 114, 115]⟩ ⟨#[]⟩ 0 [p, q]) (Good (.node ⟨#[84, 121, 112, 101, 87, 105, 116, 104, 81, 117, 97, 108, 105, 102, 105, 101, 114, 115]⟩ ⟨#[]⟩ 0 [p, q])) := by
  intro v hv w hw
  obtain ⟨b, off, c, pa, pc, qa, qc, rfl, hc1, hc2, hkid, hp, hq⟩ := hv.two
  have HP := Lib.hid (fun W => plain_two W ⟨#[84, 121, 112, 101, 87, 105, 116, 104, 81, 117, 97, 108, 105, 102, 105, 101, 114, 115]⟩ (some ⟨b, off, none⟩) c)
  have I1 := Lib.hid (hqu _ hp)
  have I2 := Lib.hid (fun r => isQualifiers_step W0 q r _ hq)
  obtain ⟨k1, x1, n1, l1⟩ := p
  have HK := Lib.hid (fun W hW => And.intro ((hkid W hW).1.fields rfl) (hkid W hW).2)
  have S0 := Lib.hid ((St.start hw (.string ⟨#[84, 121, 112, 101, 87, 105, 116, 104, 81, 117, 97, 108, 105, 102, 105, 101, 114, 115]⟩) (.string ⟨#[]⟩) (.int .i64 0) (.slice (some ⟨b, off, none⟩) 2 c)).on (Below.refl _ _).drew)
  clear hv hkid hp hq hw hqu
  by_cases hk1 : k1 = ⟨#[80, 111, 105, 110, 116, 101, 114, 84, 121, 112, 101]⟩
  · subst hk1
    go_enter Tryz.func53, Tryz.ntmps53
    go_wp2_with fail
    refine wp_region_any (by kernel_rfl) ?_
    change wpAny _ _ _ _ _ _ _ (World.drew _)
    refine wpAny_ready (rs := [0]) (by kernel_rfl) (by simp) ?_
    refine AllReady.cons rfl (fun K hK => ?_) AllReady.nil
    go_simp
    refine hK _ _ ?_
    clear hK K
    refine wpAny_ready (rs := [1]) (by kernel_rfl) (by simp) ?_
    refine AllReady.cons rfl (fun K hK => ?_) AllReady.nil
    go_simp
    refine (HP.out _).mono ?_
    rintro e w1 ⟨rfl, b1⟩
    have S1 := Lib.hid (S0.out.on b1)
    obtain ⟨⟨p0, p1, p2, p3⟩, ⟨q0, q1, q2, q3⟩⟩ := HK.out _ S1.out.later
    obtain ⟨x0, x1, x2, x3⟩ := S1.out.box
    clear b1 HP
    go_wp2_with fail
    refine wpAny_take_at (i := 2) (some 85) (v := ?_) rfl rfl (by kernel_rfl) (by kernel_rfl) (by kernel_rfl) (fun _ _ _ h => h) (Or.inl ⟨by rfl, ?_⟩) ?_
    rotate_left
    focus (intro w; go_simp; try with_reducible rfl)
    simp only [Act.put, List.setIfInBounds_toArray, List.set_cons_succ, List.set_cons_zero]
    refine wpAny_take_at (i := 3) (some 86) (v := ?_) rfl rfl (by kernel_rfl) (by kernel_rfl) (by kernel_rfl) (fun _ _ _ h => h) (Or.inl ⟨by rfl, ?_⟩) ?_
    rotate_left
    focus (intro w; go_simp; try with_reducible rfl)
    simp only [Act.put, List.setIfInBounds_toArray, List.set_cons_succ, List.set_cons_zero]
    refine wpAny_ready (rs := [4]) (by kernel_rfl) (by simp) ?_
    refine AllReady.cons rfl (fun K hK => ?_) AllReady.nil
    go_simp
    refine hK _ _ ?_
    clear hK K
    refine wpAny_take_at (i := 5) (some 88) (v := ?_) rfl rfl (by kernel_rfl) (by kernel_rfl) (by kernel_rfl) (fun _ _ _ h => h) (Or.inl ⟨by rfl, ?_⟩) ?_
    rotate_left
    focus (intro w; go_simp; try with_reducible rfl)
    simp only [Act.put, List.setIfInBounds_toArray, List.set_cons_succ, List.set_cons_zero]
    refine wpAny_ready (rs := [6]) (by kernel_rfl) (by simp) ?_
    refine AllReady.cons rfl (fun K hK => ?_) AllReady.nil
    go_simp
    refine hK _ _ ?_
    clear hK K
    refine wpAny_ready (rs := [7]) (by kernel_rfl) (by simp) ?_
    refine AllReady.cons rfl (fun K hK => ?_) AllReady.nil
    go_simp
    refine (I1.out _ S1.out.later).mono ?_
    rintro e w2 ⟨⟨r2, rfl, hr2⟩, b2⟩
    have S2 := Lib.hid (S1.out.on b2)
    have R2 := Lib.hid hr2
    clear p0 p1 p2 p3 q0 q1 q2 q3 x0 x1 x2 x3
    obtain ⟨⟨p0, p1, p2, p3⟩, ⟨q0, q1, q2, q3⟩⟩ := HK.out _ S2.out.later
    obtain ⟨x0, x1, x2, x3⟩ := S2.out.box
    clear b2 hr2 I1
    cases r2 with
    | false =>
      go_wp2_with fail
      refine wpAny_take_at (i := 8) (some 91) (v := ?_) rfl rfl (by kernel_rfl) (by kernel_rfl) (by kernel_rfl) (fun _ _ _ h => h) (Or.inl ⟨by rfl, ?_⟩) ?_
      rotate_left
      focus (intro w; go_simp; try with_reducible rfl)
      simp only [Act.put, List.setIfInBounds_toArray, List.set_cons_succ, List.set_cons_zero]
      refine wpAny_take_at (i := 9) (some 92) (v := ?_) rfl rfl (by kernel_rfl) (by kernel_rfl) (by kernel_rfl) (fun _ _ _ h => h) (Or.inl ⟨by rfl, ?_⟩) ?_
      rotate_left
      focus (intro w; go_simp; try with_reducible rfl)
      simp only [Act.put, List.setIfInBounds_toArray, List.set_cons_succ, List.set_cons_zero]
      refine wpAny_take_at (i := 10) (some 93) (v := undef) rfl rfl (by kernel_rfl) (by kernel_rfl) (by kernel_rfl) (fun _ _ _ h => h) (Or.inr ⟨by rfl, rfl⟩) ?_
      simp only [Act.put, List.setIfInBounds_toArray, List.set_cons_succ, List.set_cons_zero]
      refine wpAny_take_at (i := 11) (some 94) (v := undef) rfl rfl (by kernel_rfl) (by kernel_rfl) (by kernel_rfl) (fun _ _ _ h => h) (Or.inr ⟨by rfl, rfl⟩) ?_
      simp only [Act.put, List.setIfInBounds_toArray, List.set_cons_succ, List.set_cons_zero]
      refine wpAny_take_at (i := 12) (some 95) (v := undef) rfl rfl (by kernel_rfl) (by kernel_rfl) (by kernel_rfl) (fun _ _ _ h => h) (Or.inr ⟨by rfl, rfl⟩) ?_
      simp only [Act.put, List.setIfInBounds_toArray, List.set_cons_succ, List.set_cons_zero]
      refine wpAny_take_at (i := 13) (some 96) (v := undef) rfl rfl (by kernel_rfl) (by kernel_rfl) (by kernel_rfl) (fun _ _ _ h => h) (Or.inr ⟨by rfl, rfl⟩) ?_
      simp only [Act.put, List.setIfInBounds_toArray, List.set_cons_succ, List.set_cons_zero]
      refine wpAny_take_at (i := 14) (some 97) (v := undef) rfl rfl (by kernel_rfl) (by kernel_rfl) (by kernel_rfl) (fun _ _ _ h => h) (Or.inr ⟨by rfl, rfl⟩) ?_
      simp only [Act.put, List.setIfInBounds_toArray, List.set_cons_succ, List.set_cons_zero]
      refine wpAny_take_at (i := 15) (some 98) (v := undef) rfl rfl (by kernel_rfl) (by kernel_rfl) (by kernel_rfl) (fun _ _ _ h => h) (Or.inr ⟨by rfl, rfl⟩) ?_
      simp only [Act.put, List.setIfInBounds_toArray, List.set_cons_succ, List.set_cons_zero]
      refine wpAny_take_at (i := 16) (some 99) (v := undef) rfl rfl (by kernel_rfl) (by kernel_rfl) (by kernel_rfl) (fun _ _ _ h => h) (Or.inr ⟨by rfl, rfl⟩) ?_
      simp only [Act.put, List.setIfInBounds_toArray, List.set_cons_succ, List.set_cons_zero]
      refine wpAny_take_at (i := 17) (some 100) (v := undef) rfl rfl (by kernel_rfl) (by kernel_rfl) (by kernel_rfl) (fun _ _ _ h => h) (Or.inr ⟨by rfl, rfl⟩) ?_
      simp only [Act.put, List.setIfInBounds_toArray, List.set_cons_succ, List.set_cons_zero]
      refine wpAny_take_at (i := 18) (some 101) (v := undef) rfl rfl (by kernel_rfl) (by kernel_rfl) (by kernel_rfl) (fun _ _ _ h => h) (Or.inr ⟨by rfl, rfl⟩) ?_
      simp only [Act.put, List.setIfInBounds_toArray, List.set_cons_succ, List.set_cons_zero]
      refine wpAny_take_at (i := 19) (some 102) (v := undef) rfl rfl (by kernel_rfl) (by kernel_rfl) (by kernel_rfl) (fun _ _ _ h => h) (Or.inr ⟨by rfl, rfl⟩) ?_
      simp only [Act.put, List.setIfInBounds_toArray, List.set_cons_succ, List.set_cons_zero]
      refine wpAny_take_at (i := 20) (some 103) (v := undef) rfl rfl (by kernel_rfl) (by kernel_rfl) (by kernel_rfl) (fun _ _ _ h => h) (Or.inr ⟨by rfl, rfl⟩) ?_
      simp only [Act.put, List.setIfInBounds_toArray, List.set_cons_succ, List.set_cons_zero]
      refine wpAny_take_at (i := 21) (some 104) (v := ?_) rfl rfl (by kernel_rfl) (by kernel_rfl) (by kernel_rfl) (fun _ _ _ h => h) (Or.inl ⟨by rfl, ?_⟩) ?_
      rotate_left
      focus (intro w; go_simp; try with_reducible rfl)
      simp only [Act.put, List.setIfInBounds_toArray, List.set_cons_succ, List.set_cons_zero]
      refine wpAny_take_at (i := 22) (some 2) (v := ?_) rfl rfl (by kernel_rfl) (by kernel_rfl) (by kernel_rfl) (fun _ _ _ h => h) (Or.inl ⟨by rfl, ?_⟩) ?_
      rotate_left
      focus (intro w; go_simp; try with_reducible rfl)
      simp only [Act.put, List.setIfInBounds_toArray, List.set_cons_succ, List.set_cons_zero]
      refine wpAny_done (by kernel_rfl) ?_ _
      go_wp2_with fail
      go_ret
      exact ⟨says_no rfl, S2.out.below⟩
    | true =>
      go_wp2_with fail
      refine wpAny_take_at (i := 8) (some 91) (v := ?_) rfl rfl (by kernel_rfl) (by kernel_rfl) (by kernel_rfl) (fun _ _ _ h => h) (Or.inl ⟨by rfl, ?_⟩) ?_
      rotate_left
      focus (intro w; go_simp; try with_reducible rfl)
      simp only [Act.put, List.setIfInBounds_toArray, List.set_cons_succ, List.set_cons_zero]
      refine wpAny_take_at (i := 9) (some 92) (v := ?_) rfl rfl (by kernel_rfl) (by kernel_rfl) (by kernel_rfl) (fun _ _ _ h => h) (Or.inl ⟨by rfl, ?_⟩) ?_
      rotate_left
      focus (intro w; go_simp; try with_reducible rfl)
      simp only [Act.put, List.setIfInBounds_toArray, List.set_cons_succ, List.set_cons_zero]
      refine wpAny_take_at (i := 10) (some 93) (v := ?_) rfl rfl (by kernel_rfl) (by kernel_rfl) (by kernel_rfl) (fun _ _ _ h => h) (Or.inl ⟨by rfl, ?_⟩) ?_
      rotate_left
      focus (intro w; go_simp; try with_reducible rfl)
      simp only [Act.put, List.setIfInBounds_toArray, List.set_cons_succ, List.set_cons_zero]
      refine wpAny_take_at (i := 14) (some 97) (v := ?_) rfl rfl (by kernel_rfl) (by kernel_rfl) (by kernel_rfl) (fun _ _ _ h => h) (Or.inl ⟨by rfl, ?_⟩) ?_
      rotate_left
      focus (intro w; go_simp; try with_reducible rfl)
      simp only [Act.put, List.setIfInBounds_toArray, List.set_cons_succ, List.set_cons_zero]
      refine wpAny_ready (rs := [11, 15]) (by kernel_rfl) (by simp) ?_
      refine AllReady.cons rfl (fun K hK => ?_) (AllReady.cons rfl (fun K hK => ?_) AllReady.nil)
      · go_simp
        refine hK _ _ ?_
        clear hK K
        refine wpAny_take_at (i := 12) (some 95) (v := ?_) rfl rfl (by kernel_rfl) (by kernel_rfl) (by kernel_rfl) (fun _ _ _ h => h) (Or.inl ⟨by rfl, ?_⟩) ?_
        rotate_left
        focus (intro w; go_simp; try with_reducible rfl)
        simp only [Act.put, List.setIfInBounds_toArray, List.set_cons_succ, List.set_cons_zero]
        refine wpAny_ready (rs := [13, 15]) (by kernel_rfl) (by simp) ?_
        refine AllReady.cons rfl (fun K hK => ?_) (AllReady.cons rfl (fun K hK => ?_) AllReady.nil)
        · go_simp
          refine hK _ _ ?_
          clear hK K
          refine wpAny_ready (rs := [15]) (by kernel_rfl) (by simp) ?_
          refine AllReady.cons rfl (fun K hK => ?_) AllReady.nil
          go_simp
          refine hK _ _ ?_
          clear hK K
          refine wpAny_take_at (i := 16) (some 99) (v := ?_) rfl rfl (by kernel_rfl) (by kernel_rfl) (by kernel_rfl) (fun _ _ _ h => h) (Or.inl ⟨by rfl, ?_⟩) ?_
          rotate_left
          focus (intro w; go_simp; try with_reducible rfl)
          simp only [Act.put, List.setIfInBounds_toArray, List.set_cons_succ, List.set_cons_zero]
          refine wpAny_take_at (i := 17) (some 100) (v := ?_) rfl rfl (by kernel_rfl) (by kernel_rfl) (by kernel_rfl) (fun _ _ _ h => h) (Or.inl ⟨by rfl, ?_⟩) ?_
          rotate_left
          focus (intro w; go_simp; try with_reducible rfl)
          simp only [Act.put, List.setIfInBounds_toArray, List.set_cons_succ, List.set_cons_zero]
          refine wpAny_ready (rs := [18]) (by kernel_rfl) (by simp) ?_
          refine AllReady.cons rfl (fun K hK => ?_) AllReady.nil
          go_simp
          refine hK _ _ ?_
          clear hK K
          refine wpAny_take_at (i := 19) (some 102) (v := ?_) rfl rfl (by kernel_rfl) (by kernel_rfl) (by kernel_rfl) (fun _ _ _ h => h) (Or.inl ⟨by rfl, ?_⟩) ?_
          rotate_left
          focus (intro w; go_simp; try with_reducible rfl)
          simp only [Act.put, List.setIfInBounds_toArray, List.set_cons_succ, List.set_cons_zero]
          refine wpAny_ready (rs := [20]) (by kernel_rfl) (by simp) ?_
          refine AllReady.cons rfl (fun K hK => ?_) AllReady.nil
          go_simp
          refine (I2.out _ _ S2.out.later).mono ?_
          rintro e w3 ⟨⟨r3, rfl, hr3⟩, b3⟩
          have S3 := Lib.hid (S2.out.on b3)
          have R3 := Lib.hid hr3
          clear hr3 b3 I2
          go_wp2_with fail
          refine wpAny_take_at (i := 21) (some 104) (v := ?_) rfl rfl (by kernel_rfl) (by kernel_rfl) (by kernel_rfl) (fun _ _ _ h => h) (Or.inl ⟨by rfl, ?_⟩) ?_
          rotate_left
          focus (intro w; go_simp; try with_reducible rfl)
          simp only [Act.put, List.setIfInBounds_toArray, List.set_cons_succ, List.set_cons_zero]
          refine wpAny_take_at (i := 22) (some 2) (v := ?_) rfl rfl (by kernel_rfl) (by kernel_rfl) (by kernel_rfl) (fun _ _ _ h => h) (Or.inl ⟨by rfl, ?_⟩) ?_
          rotate_left
          focus (intro w; go_simp; try with_reducible rfl)
          simp only [Act.put, List.setIfInBounds_toArray, List.set_cons_succ, List.set_cons_zero]
          refine wpAny_done (by kernel_rfl) ?_ _
          go_wp2_with fail
          go_ret
          exact ⟨⟨_, rfl, fun h => .typeWithQualifiers (R2.out (by trivial)) (R3.out h)⟩, S3.out.below⟩
        · go_simp
          refine hK _ _ ?_
          clear hK K
          refine wpAny_take_at (i := 16) (some 99) (v := ?_) rfl rfl (by kernel_rfl) (by kernel_rfl) (by kernel_rfl) (fun _ _ _ h => h) (Or.inl ⟨by rfl, ?_⟩) ?_
          rotate_left
          focus (intro w; go_simp; try with_reducible rfl)
          simp only [Act.put, List.setIfInBounds_toArray, List.set_cons_succ, List.set_cons_zero]
          refine wpAny_take_at (i := 17) (some 100) (v := ?_) rfl rfl (by kernel_rfl) (by kernel_rfl) (by kernel_rfl) (fun _ _ _ h => h) (Or.inl ⟨by rfl, ?_⟩) ?_
          rotate_left
          focus (intro w; go_simp; try with_reducible rfl)
          simp only [Act.put, List.setIfInBounds_toArray, List.set_cons_succ, List.set_cons_zero]
          refine wpAny_ready (rs := [13, 18]) (by kernel_rfl) (by simp) ?_
          refine AllReady.cons rfl (fun K hK => ?_) (AllReady.cons rfl (fun K hK => ?_) AllReady.nil)
          · go_simp
            refine hK _ _ ?_
            clear hK K
            refine wpAny_ready (rs := [18]) (by kernel_rfl) (by simp) ?_
            refine AllReady.cons rfl (fun K hK => ?_) AllReady.nil
            go_simp
            refine hK _ _ ?_
            clear hK K
            refine wpAny_take_at (i := 19) (some 102) (v := ?_) rfl rfl (by kernel_rfl) (by kernel_rfl) (by kernel_rfl) (fun _ _ _ h => h) (Or.inl ⟨by rfl, ?_⟩) ?_
            rotate_left
            focus (intro w; go_simp; try with_reducible rfl)
            simp only [Act.put, List.setIfInBounds_toArray, List.set_cons_succ, List.set_cons_zero]
            refine wpAny_ready (rs := [20]) (by kernel_rfl) (by simp) ?_
            refine AllReady.cons rfl (fun K hK => ?_) AllReady.nil
            go_simp
            refine (I2.out _ _ S2.out.later).mono ?_
            rintro e w3 ⟨⟨r3, rfl, hr3⟩, b3⟩
            have S3 := Lib.hid (S2.out.on b3)
            have R3 := Lib.hid hr3
            clear hr3 b3 I2
            go_wp2_with fail
            refine wpAny_take_at (i := 21) (some 104) (v := ?_) rfl rfl (by kernel_rfl) (by kernel_rfl) (by kernel_rfl) (fun _ _ _ h => h) (Or.inl ⟨by rfl, ?_⟩) ?_
            rotate_left
            focus (intro w; go_simp; try with_reducible rfl)
            simp only [Act.put, List.setIfInBounds_toArray, List.set_cons_succ, List.set_cons_zero]
            refine wpAny_take_at (i := 22) (some 2) (v := ?_) rfl rfl (by kernel_rfl) (by kernel_rfl) (by kernel_rfl) (fun _ _ _ h => h) (Or.inl ⟨by rfl, ?_⟩) ?_
            rotate_left
            focus (intro w; go_simp; try with_reducible rfl)
            simp only [Act.put, List.setIfInBounds_toArray, List.set_cons_succ, List.set_cons_zero]
            refine wpAny_done (by kernel_rfl) ?_ _
            go_wp2_with fail
            go_ret
            exact ⟨⟨_, rfl, fun h => .typeWithQualifiers (R2.out (by trivial)) (R3.out h)⟩, S3.out.below⟩
          · go_simp
            refine hK _ _ ?_
            clear hK K
            refine wpAny_take_at (i := 19) (some 102) (v := ?_) rfl rfl (by kernel_rfl) (by kernel_rfl) (by kernel_rfl) (fun _ _ _ h => h) (Or.inl ⟨by rfl, ?_⟩) ?_
            rotate_left
            focus (intro w; go_simp; try with_reducible rfl)
            simp only [Act.put, List.setIfInBounds_toArray, List.set_cons_succ, List.set_cons_zero]
            refine wpAny_ready (rs := [13]) (by kernel_rfl) (by simp) ?_
            refine AllReady.cons rfl (fun K hK => ?_) AllReady.nil
            go_simp
            refine hK _ _ ?_
            clear hK K
            refine wpAny_ready (rs := [20]) (by kernel_rfl) (by simp) ?_
            refine AllReady.cons rfl (fun K hK => ?_) AllReady.nil
            go_simp
            refine (I2.out _ _ S2.out.later).mono ?_
            rintro e w3 ⟨⟨r3, rfl, hr3⟩, b3⟩
            have S3 := Lib.hid (S2.out.on b3)
            have R3 := Lib.hid hr3
            clear hr3 b3 I2
            go_wp2_with fail
            refine wpAny_take_at (i := 21) (some 104) (v := ?_) rfl rfl (by kernel_rfl) (by kernel_rfl) (by kernel_rfl) (fun _ _ _ h => h) (Or.inl ⟨by rfl, ?_⟩) ?_
            rotate_left
            focus (intro w; go_simp; try with_reducible rfl)
            simp only [Act.put, List.setIfInBounds_toArray, List.set_cons_succ, List.set_cons_zero]
            refine wpAny_take_at (i := 22) (some 2) (v := ?_) rfl rfl (by kernel_rfl) (by kernel_rfl) (by kernel_rfl) (fun _ _ _ h => h) (Or.inl ⟨by rfl, ?_⟩) ?_
            rotate_left
            focus (intro w; go_simp; try with_reducible rfl)
            simp only [Act.put, List.setIfInBounds_toArray, List.set_cons_succ, List.set_cons_zero]
            refine wpAny_done (by kernel_rfl) ?_ _
            go_wp2_with fail
            go_ret
            exact ⟨⟨_, rfl, fun h => .typeWithQualifiers (R2.out (by trivial)) (R3.out h)⟩, S3.out.below⟩
      · go_simp
        refine hK _ _ ?_
        clear hK K
        refine wpAny_take_at (i := 16) (some 99) (v := ?_) rfl rfl (by kernel_rfl) (by kernel_rfl) (by kernel_rfl) (fun _ _ _ h => h) (Or.inl ⟨by rfl, ?_⟩) ?_
        rotate_left
        focus (intro w; go_simp; try with_reducible rfl)
        simp only [Act.put, List.setIfInBounds_toArray, List.set_cons_succ, List.set_cons_zero]
        refine wpAny_take_at (i := 17) (some 100) (v := ?_) rfl rfl (by kernel_rfl) (by kernel_rfl) (by kernel_rfl) (fun _ _ _ h => h) (Or.inl ⟨by rfl, ?_⟩) ?_
        rotate_left
        focus (intro w; go_simp; try with_reducible rfl)
        simp only [Act.put, List.setIfInBounds_toArray, List.set_cons_succ, List.set_cons_zero]
        refine wpAny_ready (rs := [11, 18]) (by kernel_rfl) (by simp) ?_
        refine AllReady.cons rfl (fun K hK => ?_) (AllReady.cons rfl (fun K hK => ?_) AllReady.nil)
        · go_simp
          refine hK _ _ ?_
          clear hK K
          refine wpAny_take_at (i := 12) (some 95) (v := ?_) rfl rfl (by kernel_rfl) (by kernel_rfl) (by kernel_rfl) (fun _ _ _ h => h) (Or.inl ⟨by rfl, ?_⟩) ?_
          rotate_left
          focus (intro w; go_simp; try with_reducible rfl)
          simp only [Act.put, List.setIfInBounds_toArray, List.set_cons_succ, List.set_cons_zero]
          refine wpAny_ready (rs := [13, 18]) (by kernel_rfl) (by simp) ?_
          refine AllReady.cons rfl (fun K hK => ?_) (AllReady.cons rfl (fun K hK => ?_) AllReady.nil)
          · go_simp
            refine hK _ _ ?_
            clear hK K
            refine wpAny_ready (rs := [18]) (by kernel_rfl) (by simp) ?_
            refine AllReady.cons rfl (fun K hK => ?_) AllReady.nil
            go_simp
            refine hK _ _ ?_
            clear hK K
            refine wpAny_take_at (i := 19) (some 102) (v := ?_) rfl rfl (by kernel_rfl) (by kernel_rfl) (by kernel_rfl) (fun _ _ _ h => h) (Or.inl ⟨by rfl, ?_⟩) ?_
            rotate_left
            focus (intro w; go_simp; try with_reducible rfl)
            simp only [Act.put, List.setIfInBounds_toArray, List.set_cons_succ, List.set_cons_zero]
            refine wpAny_ready (rs := [20]) (by kernel_rfl) (by simp) ?_
            refine AllReady.cons rfl (fun K hK => ?_) AllReady.nil
            go_simp
            refine (I2.out _ _ S2.out.later).mono ?_
            rintro e w3 ⟨⟨r3, rfl, hr3⟩, b3⟩
            have S3 := Lib.hid (S2.out.on b3)
            have R3 := Lib.hid hr3
            clear hr3 b3 I2
            go_wp2_with fail
            refine wpAny_take_at (i := 21) (some 104) (v := ?_) rfl rfl (by kernel_rfl) (by kernel_rfl) (by kernel_rfl) (fun _ _ _ h => h) (Or.inl ⟨by rfl, ?_⟩) ?_
            rotate_left
            focus (intro w; go_simp; try with_reducible rfl)
            simp only [Act.put, List.setIfInBounds_toArray, List.set_cons_succ, List.set_cons_zero]
            refine wpAny_take_at (i := 22) (some 2) (v := ?_) rfl rfl (by kernel_rfl) (by kernel_rfl) (by kernel_rfl) (fun _ _ _ h => h) (Or.inl ⟨by rfl, ?_⟩) ?_
            rotate_left
            focus (intro w; go_simp; try with_reducible rfl)
            simp only [Act.put, List.setIfInBounds_toArray, List.set_cons_succ, List.set_cons_zero]
            refine wpAny_done (by kernel_rfl) ?_ _
            go_wp2_with fail
            go_ret
            exact ⟨⟨_, rfl, fun h => .typeWithQualifiers (R2.out (by trivial)) (R3.out h)⟩, S3.out.below⟩
          · go_simp
            refine hK _ _ ?_
            clear hK K
            refine wpAny_take_at (i := 19) (some 102) (v := ?_) rfl rfl (by kernel_rfl) (by kernel_rfl) (by kernel_rfl) (fun _ _ _ h => h) (Or.inl ⟨by rfl, ?_⟩) ?_
            rotate_left
            focus (intro w; go_simp; try with_reducible rfl)
            simp only [Act.put, List.setIfInBounds_toArray, List.set_cons_succ, List.set_cons_zero]
            refine wpAny_ready (rs := [13]) (by kernel_rfl) (by simp) ?_
            refine AllReady.cons rfl (fun K hK => ?_) AllReady.nil
            go_simp
            refine hK _ _ ?_
            clear hK K
            refine wpAny_ready (rs := [20]) (by kernel_rfl) (by simp) ?_
            refine AllReady.cons rfl (fun K hK => ?_) AllReady.nil
            go_simp
            refine (I2.out _ _ S2.out.later).mono ?_
            rintro e w3 ⟨⟨r3, rfl, hr3⟩, b3⟩
            have S3 := Lib.hid (S2.out.on b3)
            have R3 := Lib.hid hr3
            clear hr3 b3 I2
            go_wp2_with fail
            refine wpAny_take_at (i := 21) (some 104) (v := ?_) rfl rfl (by kernel_rfl) (by kernel_rfl) (by kernel_rfl) (fun _ _ _ h => h) (Or.inl ⟨by rfl, ?_⟩) ?_
            rotate_left
            focus (intro w; go_simp; try with_reducible rfl)
            simp only [Act.put, List.setIfInBounds_toArray, List.set_cons_succ, List.set_cons_zero]
            refine wpAny_take_at (i := 22) (some 2) (v := ?_) rfl rfl (by kernel_rfl) (by kernel_rfl) (by kernel_rfl) (fun _ _ _ h => h) (Or.inl ⟨by rfl, ?_⟩) ?_
            rotate_left
            focus (intro w; go_simp; try with_reducible rfl)
            simp only [Act.put, List.setIfInBounds_toArray, List.set_cons_succ, List.set_cons_zero]
            refine wpAny_done (by kernel_rfl) ?_ _
            go_wp2_with fail
            go_ret
            exact ⟨⟨_, rfl, fun h => .typeWithQualifiers (R2.out (by trivial)) (R3.out h)⟩, S3.out.below⟩
        · go_simp
          refine hK _ _ ?_
          clear hK K
          refine wpAny_take_at (i := 19) (some 102) (v := ?_) rfl rfl (by kernel_rfl) (by kernel_rfl) (by kernel_rfl) (fun _ _ _ h => h) (Or.inl ⟨by rfl, ?_⟩) ?_
          rotate_left
          focus (intro w; go_simp; try with_reducible rfl)
          simp only [Act.put, List.setIfInBounds_toArray, List.set_cons_succ, List.set_cons_zero]
          refine wpAny_ready (rs := [11]) (by kernel_rfl) (by simp) ?_
          refine AllReady.cons rfl (fun K hK => ?_) AllReady.nil
          go_simp
          refine hK _ _ ?_
          clear hK K
          refine wpAny_take_at (i := 12) (some 95) (v := ?_) rfl rfl (by kernel_rfl) (by kernel_rfl) (by kernel_rfl) (fun _ _ _ h => h) (Or.inl ⟨by rfl, ?_⟩) ?_
          rotate_left
          focus (intro w; go_simp; try with_reducible rfl)
          simp only [Act.put, List.setIfInBounds_toArray, List.set_cons_succ, List.set_cons_zero]
          refine wpAny_ready (rs := [13]) (by kernel_rfl) (by simp) ?_
          refine AllReady.cons rfl (fun K hK => ?_) AllReady.nil
          go_simp
          refine hK _ _ ?_
          clear hK K
          refine wpAny_ready (rs := [20]) (by kernel_rfl) (by simp) ?_
          refine AllReady.cons rfl (fun K hK => ?_) AllReady.nil
          go_simp
          refine (I2.out _ _ S2.out.later).mono ?_
          rintro e w3 ⟨⟨r3, rfl, hr3⟩, b3⟩
          have S3 := Lib.hid (S2.out.on b3)
          have R3 := Lib.hid hr3
          clear hr3 b3 I2
          go_wp2_with fail
          refine wpAny_take_at (i := 21) (some 104) (v := ?_) rfl rfl (by kernel_rfl) (by kernel_rfl) (by kernel_rfl) (fun _ _ _ h => h) (Or.inl ⟨by rfl, ?_⟩) ?_
          rotate_left
          focus (intro w; go_simp; try with_reducible rfl)
          simp only [Act.put, List.setIfInBounds_toArray, List.set_cons_succ, List.set_cons_zero]
          refine wpAny_take_at (i := 22) (some 2) (v := ?_) rfl rfl (by kernel_rfl) (by kernel_rfl) (by kernel_rfl) (fun _ _ _ h => h) (Or.inl ⟨by rfl, ?_⟩) ?_
          rotate_left
          focus (intro w; go_simp; try with_reducible rfl)
          simp only [Act.put, List.setIfInBounds_toArray, List.set_cons_succ, List.set_cons_zero]
          refine wpAny_done (by kernel_rfl) ?_ _
          go_wp2_with fail
          go_ret
          exact ⟨⟨_, rfl, fun h => .typeWithQualifiers (R2.out (by trivial)) (R3.out h)⟩, S3.out.below⟩
  · have hk1' : (k1.toList == [80, 111, 105, 110, 116, 101, 114, 84, 121, 112, 101]) = false := ne_of hk1
    go_enter Tryz.func53, Tryz.ntmps53
    go_wp2_with fail
    refine wp_region_any (by kernel_rfl) ?_
    change wpAny _ _ _ _ _ _ _ (World.drew _)
    refine wpAny_ready (rs := [0]) (by kernel_rfl) (by simp) ?_
    refine AllReady.cons rfl (fun K hK => ?_) AllReady.nil
    go_simp
    refine hK _ _ ?_
    clear hK K
    refine wpAny_ready (rs := [1]) (by kernel_rfl) (by simp) ?_
    refine AllReady.cons rfl (fun K hK => ?_) AllReady.nil
    go_simp
    refine (HP.out _).mono ?_
    rintro e w1 ⟨rfl, b1⟩
    have S1 := Lib.hid (S0.out.on b1)
    obtain ⟨⟨p0, p1, p2, p3⟩, ⟨q0, q1, q2, q3⟩⟩ := HK.out _ S1.out.later
    obtain ⟨x0, x1, x2, x3⟩ := S1.out.box
    clear b1 HP
    go_wp2_with fail
    refine wpAny_take_at (i := 2) (some 85) (v := ?_) rfl rfl (by kernel_rfl) (by kernel_rfl) (by kernel_rfl) (fun _ _ _ h => h) (Or.inl ⟨by rfl, ?_⟩) ?_
    rotate_left
    focus (intro w; go_simp; try with_reducible rfl)
    simp only [Act.put, List.setIfInBounds_toArray, List.set_cons_succ, List.set_cons_zero]
    refine wpAny_take_at (i := 3) (some 86) (v := ?_) rfl rfl (by kernel_rfl) (by kernel_rfl) (by kernel_rfl) (fun _ _ _ h => h) (Or.inl ⟨by rfl, ?_⟩) ?_
    rotate_left
    focus (intro w; go_simp; try with_reducible rfl)
    simp only [Act.put, List.setIfInBounds_toArray, List.set_cons_succ, List.set_cons_zero]
    refine wpAny_ready (rs := [4]) (by kernel_rfl) (by simp) ?_
    refine AllReady.cons rfl (fun K hK => ?_) AllReady.nil
    go_simp
    refine hK _ _ ?_
    clear hK K
    refine wpAny_take_at (i := 5) (some 88) (v := ?_) rfl rfl (by kernel_rfl) (by kernel_rfl) (by kernel_rfl) (fun _ _ _ h => h) (Or.inl ⟨by rfl, ?_⟩) ?_
    rotate_left
    focus (intro w; go_simp; try with_reducible rfl)
    simp only [Act.put, List.setIfInBounds_toArray, List.set_cons_succ, List.set_cons_zero]
    refine wpAny_ready (rs := [6]) (by kernel_rfl) (by simp) ?_
    refine AllReady.cons rfl (fun K hK => ?_) AllReady.nil
    go_simp
    refine hK _ _ ?_
    clear hK K
    refine wpAny_ready (rs := [7]) (by kernel_rfl) (by simp) ?_
    refine AllReady.cons rfl (fun K hK => ?_) AllReady.nil
    go_simp
    refine (I1.out _ S1.out.later).mono ?_
    rintro e w2 ⟨⟨r2, rfl, hr2⟩, b2⟩
    have S2 := Lib.hid (S1.out.on b2)
    have R2 := Lib.hid hr2
    clear p0 p1 p2 p3 q0 q1 q2 q3 x0 x1 x2 x3
    obtain ⟨⟨p0, p1, p2, p3⟩, ⟨q0, q1, q2, q3⟩⟩ := HK.out _ S2.out.later
    obtain ⟨x0, x1, x2, x3⟩ := S2.out.box
    clear b2 hr2 I1
    cases r2 with
    | false =>
      go_wp2_with fail
      refine wpAny_take_at (i := 8) (some 91) (v := ?_) rfl rfl (by kernel_rfl) (by kernel_rfl) (by kernel_rfl) (fun _ _ _ h => h) (Or.inl ⟨by rfl, ?_⟩) ?_
      rotate_left
      focus (intro w; go_simp; try with_reducible rfl)
      simp only [Act.put, List.setIfInBounds_toArray, List.set_cons_succ, List.set_cons_zero]
      refine wpAny_take_at (i := 9) (some 92) (v := ?_) rfl rfl (by kernel_rfl) (by kernel_rfl) (by kernel_rfl) (fun _ _ _ h => h) (Or.inl ⟨by rfl, ?_⟩) ?_
      rotate_left
      focus (intro w; go_simp; try with_reducible rfl)
      simp only [Act.put, List.setIfInBounds_toArray, List.set_cons_succ, List.set_cons_zero]
      refine wpAny_take_at (i := 10) (some 93) (v := undef) rfl rfl (by kernel_rfl) (by kernel_rfl) (by kernel_rfl) (fun _ _ _ h => h) (Or.inr ⟨by rfl, rfl⟩) ?_
      simp only [Act.put, List.setIfInBounds_toArray, List.set_cons_succ, List.set_cons_zero]
      refine wpAny_take_at (i := 11) (some 94) (v := undef) rfl rfl (by kernel_rfl) (by kernel_rfl) (by kernel_rfl) (fun _ _ _ h => h) (Or.inr ⟨by rfl, rfl⟩) ?_
      simp only [Act.put, List.setIfInBounds_toArray, List.set_cons_succ, List.set_cons_zero]
      refine wpAny_take_at (i := 12) (some 95) (v := undef) rfl rfl (by kernel_rfl) (by kernel_rfl) (by kernel_rfl) (fun _ _ _ h => h) (Or.inr ⟨by rfl, rfl⟩) ?_
      simp only [Act.put, List.setIfInBounds_toArray, List.set_cons_succ, List.set_cons_zero]
      refine wpAny_take_at (i := 13) (some 96) (v := undef) rfl rfl (by kernel_rfl) (by kernel_rfl) (by kernel_rfl) (fun _ _ _ h => h) (Or.inr ⟨by rfl, rfl⟩) ?_
      simp only [Act.put, List.setIfInBounds_toArray, List.set_cons_succ, List.set_cons_zero]
      refine wpAny_take_at (i := 14) (some 97) (v := undef) rfl rfl (by kernel_rfl) (by kernel_rfl) (by kernel_rfl) (fun _ _ _ h => h) (Or.inr ⟨by rfl, rfl⟩) ?_
      simp only [Act.put, List.setIfInBounds_toArray, List.set_cons_succ, List.set_cons_zero]
      refine wpAny_take_at (i := 15) (some 98) (v := undef) rfl rfl (by kernel_rfl) (by kernel_rfl) (by kernel_rfl) (fun _ _ _ h => h) (Or.inr ⟨by rfl, rfl⟩) ?_
      simp only [Act.put, List.setIfInBounds_toArray, List.set_cons_succ, List.set_cons_zero]
      refine wpAny_take_at (i := 16) (some 99) (v := undef) rfl rfl (by kernel_rfl) (by kernel_rfl) (by kernel_rfl) (fun _ _ _ h => h) (Or.inr ⟨by rfl, rfl⟩) ?_
      simp only [Act.put, List.setIfInBounds_toArray, List.set_cons_succ, List.set_cons_zero]
      refine wpAny_take_at (i := 17) (some 100) (v := undef) rfl rfl (by kernel_rfl) (by kernel_rfl) (by kernel_rfl) (fun _ _ _ h => h) (Or.inr ⟨by rfl, rfl⟩) ?_
      simp only [Act.put, List.setIfInBounds_toArray, List.set_cons_succ, List.set_cons_zero]
      refine wpAny_take_at (i := 18) (some 101) (v := undef) rfl rfl (by kernel_rfl) (by kernel_rfl) (by kernel_rfl) (fun _ _ _ h => h) (Or.inr ⟨by rfl, rfl⟩) ?_
      simp only [Act.put, List.setIfInBounds_toArray, List.set_cons_succ, List.set_cons_zero]
      refine wpAny_take_at (i := 19) (some 102) (v := undef) rfl rfl (by kernel_rfl) (by kernel_rfl) (by kernel_rfl) (fun _ _ _ h => h) (Or.inr ⟨by rfl, rfl⟩) ?_
      simp only [Act.put, List.setIfInBounds_toArray, List.set_cons_succ, List.set_cons_zero]
      refine wpAny_take_at (i := 20) (some 103) (v := undef) rfl rfl (by kernel_rfl) (by kernel_rfl) (by kernel_rfl) (fun _ _ _ h => h) (Or.inr ⟨by rfl, rfl⟩) ?_
      simp only [Act.put, List.setIfInBounds_toArray, List.set_cons_succ, List.set_cons_zero]
      refine wpAny_take_at (i := 21) (some 104) (v := ?_) rfl rfl (by kernel_rfl) (by kernel_rfl) (by kernel_rfl) (fun _ _ _ h => h) (Or.inl ⟨by rfl, ?_⟩) ?_
      rotate_left
      focus (intro w; go_simp; try with_reducible rfl)
      simp only [Act.put, List.setIfInBounds_toArray, List.set_cons_succ, List.set_cons_zero]
      refine wpAny_take_at (i := 22) (some 2) (v := ?_) rfl rfl (by kernel_rfl) (by kernel_rfl) (by kernel_rfl) (fun _ _ _ h => h) (Or.inl ⟨by rfl, ?_⟩) ?_
      rotate_left
      focus (intro w; go_simp; try with_reducible rfl)
      simp only [Act.put, List.setIfInBounds_toArray, List.set_cons_succ, List.set_cons_zero]
      refine wpAny_done (by kernel_rfl) ?_ _
      go_wp2_with fail
      go_ret
      exact ⟨says_no rfl, S2.out.below⟩
    | true =>
      go_wp2_with fail
      refine wpAny_take_at (i := 8) (some 91) (v := ?_) rfl rfl (by kernel_rfl) (by kernel_rfl) (by kernel_rfl) (fun _ _ _ h => h) (Or.inl ⟨by rfl, ?_⟩) ?_
      rotate_left
      focus (intro w; go_simp; try with_reducible rfl)
      simp only [Act.put, List.setIfInBounds_toArray, List.set_cons_succ, List.set_cons_zero]
      refine wpAny_take_at (i := 9) (some 92) (v := ?_) rfl rfl (by kernel_rfl) (by kernel_rfl) (by kernel_rfl) (fun _ _ _ h => h) (Or.inl ⟨by rfl, ?_⟩) ?_
      rotate_left
      focus (intro w; go_simp; try with_reducible rfl)
      simp only [Act.put, List.setIfInBounds_toArray, List.set_cons_succ, List.set_cons_zero]
      refine wpAny_take_at (i := 10) (some 93) (v := ?_) rfl rfl (by kernel_rfl) (by kernel_rfl) (by kernel_rfl) (fun _ _ _ h => h) (Or.inl ⟨by rfl, ?_⟩) ?_
      rotate_left
      focus (intro w; go_simp; try with_reducible rfl)
      simp only [Act.put, List.setIfInBounds_toArray, List.set_cons_succ, List.set_cons_zero]
      refine wpAny_take_at (i := 14) (some 97) (v := ?_) rfl rfl (by kernel_rfl) (by kernel_rfl) (by kernel_rfl) (fun _ _ _ h => h) (Or.inl ⟨by rfl, ?_⟩) ?_
      rotate_left
      focus (intro w; go_simp; try with_reducible rfl)
      simp only [Act.put, List.setIfInBounds_toArray, List.set_cons_succ, List.set_cons_zero]
      refine wpAny_ready (rs := [11, 15]) (by kernel_rfl) (by simp) ?_
      refine AllReady.cons rfl (fun K hK => ?_) (AllReady.cons rfl (fun K hK => ?_) AllReady.nil)
      · go_simp
        refine hK _ _ ?_
        clear hK K
        refine wpAny_take_at (i := 12) (some 95) (v := ?_) rfl rfl (by kernel_rfl) (by kernel_rfl) (by kernel_rfl) (fun _ _ _ h => h) (Or.inl ⟨by rfl, ?_⟩) ?_
        rotate_left
        focus (intro w; go_simp; try with_reducible rfl)
        simp only [Act.put, List.setIfInBounds_toArray, List.set_cons_succ, List.set_cons_zero]
        refine wpAny_ready (rs := [13, 15]) (by kernel_rfl) (by simp) ?_
        refine AllReady.cons rfl (fun K hK => ?_) (AllReady.cons rfl (fun K hK => ?_) AllReady.nil)
        · go_simp
          refine hK _ _ ?_
          clear hK K
          refine wpAny_ready (rs := [15]) (by kernel_rfl) (by simp) ?_
          refine AllReady.cons rfl (fun K hK => ?_) AllReady.nil
          go_simp
          refine hK _ _ ?_
          clear hK K
          refine wpAny_take_at (i := 16) (some 99) (v := ?_) rfl rfl (by kernel_rfl) (by kernel_rfl) (by kernel_rfl) (fun _ _ _ h => h) (Or.inl ⟨by rfl, ?_⟩) ?_
          rotate_left
          focus (intro w; go_simp; try with_reducible rfl)
          simp only [Act.put, List.setIfInBounds_toArray, List.set_cons_succ, List.set_cons_zero]
          refine wpAny_take_at (i := 17) (some 100) (v := ?_) rfl rfl (by kernel_rfl) (by kernel_rfl) (by kernel_rfl) (fun _ _ _ h => h) (Or.inl ⟨by rfl, ?_⟩) ?_
          rotate_left
          focus (intro w; go_simp; try with_reducible rfl)
          simp only [Act.put, List.setIfInBounds_toArray, List.set_cons_succ, List.set_cons_zero]
          refine wpAny_ready (rs := [18]) (by kernel_rfl) (by simp) ?_
          refine AllReady.cons rfl (fun K hK => ?_) AllReady.nil
          go_simp
          refine hK _ _ ?_
          clear hK K
          refine wpAny_take_at (i := 19) (some 102) (v := ?_) rfl rfl (by kernel_rfl) (by kernel_rfl) (by kernel_rfl) (fun _ _ _ h => h) (Or.inl ⟨by rfl, ?_⟩) ?_
          rotate_left
          focus (intro w; go_simp; try with_reducible rfl)
          simp only [Act.put, List.setIfInBounds_toArray, List.set_cons_succ, List.set_cons_zero]
          refine wpAny_ready (rs := [20]) (by kernel_rfl) (by simp) ?_
          refine AllReady.cons rfl (fun K hK => ?_) AllReady.nil
          go_simp
          refine (I2.out _ _ S2.out.later).mono ?_
          rintro e w3 ⟨⟨r3, rfl, hr3⟩, b3⟩
          have S3 := Lib.hid (S2.out.on b3)
          have R3 := Lib.hid hr3
          clear hr3 b3 I2
          go_wp2_with fail
          refine wpAny_take_at (i := 21) (some 104) (v := ?_) rfl rfl (by kernel_rfl) (by kernel_rfl) (by kernel_rfl) (fun _ _ _ h => h) (Or.inl ⟨by rfl, ?_⟩) ?_
          rotate_left
          focus (intro w; go_simp; try with_reducible rfl)
          simp only [Act.put, List.setIfInBounds_toArray, List.set_cons_succ, List.set_cons_zero]
          refine wpAny_take_at (i := 22) (some 2) (v := ?_) rfl rfl (by kernel_rfl) (by kernel_rfl) (by kernel_rfl) (fun _ _ _ h => h) (Or.inl ⟨by rfl, ?_⟩) ?_
          rotate_left
          focus (intro w; go_simp; try with_reducible rfl)
          simp only [Act.put, List.setIfInBounds_toArray, List.set_cons_succ, List.set_cons_zero]
          refine wpAny_done (by kernel_rfl) ?_ _
          go_wp2_with fail
          go_ret
          exact ⟨⟨_, rfl, fun h => .typeWithQualifiers (R2.out (by trivial)) (R3.out h)⟩, S3.out.below⟩
        · go_simp
          refine hK _ _ ?_
          clear hK K
          refine wpAny_take_at (i := 16) (some 99) (v := ?_) rfl rfl (by kernel_rfl) (by kernel_rfl) (by kernel_rfl) (fun _ _ _ h => h) (Or.inl ⟨by rfl, ?_⟩) ?_
          rotate_left
          focus (intro w; go_simp; try with_reducible rfl)
          simp only [Act.put, List.setIfInBounds_toArray, List.set_cons_succ, List.set_cons_zero]
          refine wpAny_take_at (i := 17) (some 100) (v := ?_) rfl rfl (by kernel_rfl) (by kernel_rfl) (by kernel_rfl) (fun _ _ _ h => h) (Or.inl ⟨by rfl, ?_⟩) ?_
          rotate_left
          focus (intro w; go_simp; try with_reducible rfl)
          simp only [Act.put, List.setIfInBounds_toArray, List.set_cons_succ, List.set_cons_zero]
          refine wpAny_ready (rs := [13, 18]) (by kernel_rfl) (by simp) ?_
          refine AllReady.cons rfl (fun K hK => ?_) (AllReady.cons rfl (fun K hK => ?_) AllReady.nil)
          · go_simp
            refine hK _ _ ?_
            clear hK K
            refine wpAny_ready (rs := [18]) (by kernel_rfl) (by simp) ?_
            refine AllReady.cons rfl (fun K hK => ?_) AllReady.nil
            go_simp
            refine hK _ _ ?_
            clear hK K
            refine wpAny_take_at (i := 19) (some 102) (v := ?_) rfl rfl (by kernel_rfl) (by kernel_rfl) (by kernel_rfl) (fun _ _ _ h => h) (Or.inl ⟨by rfl, ?_⟩) ?_
            rotate_left
            focus (intro w; go_simp; try with_reducible rfl)
            simp only [Act.put, List.setIfInBounds_toArray, List.set_cons_succ, List.set_cons_zero]
            refine wpAny_ready (rs := [20]) (by kernel_rfl) (by simp) ?_
            refine AllReady.cons rfl (fun K hK => ?_) AllReady.nil
            go_simp
            refine (I2.out _ _ S2.out.later).mono ?_
            rintro e w3 ⟨⟨r3, rfl, hr3⟩, b3⟩
            have S3 := Lib.hid (S2.out.on b3)
            have R3 := Lib.hid hr3
            clear hr3 b3 I2
            go_wp2_with fail
            refine wpAny_take_at (i := 21) (some 104) (v := ?_) rfl rfl (by kernel_rfl) (by kernel_rfl) (by kernel_rfl) (fun _ _ _ h => h) (Or.inl ⟨by rfl, ?_⟩) ?_
            rotate_left
            focus (intro w; go_simp; try with_reducible rfl)
            simp only [Act.put, List.setIfInBounds_toArray, List.set_cons_succ, List.set_cons_zero]
            refine wpAny_take_at (i := 22) (some 2) (v := ?_) rfl rfl (by kernel_rfl) (by kernel_rfl) (by kernel_rfl) (fun _ _ _ h => h) (Or.inl ⟨by rfl, ?_⟩) ?_
            rotate_left
            focus (intro w; go_simp; try with_reducible rfl)
            simp only [Act.put, List.setIfInBounds_toArray, List.set_cons_succ, List.set_cons_zero]
            refine wpAny_done (by kernel_rfl) ?_ _
            go_wp2_with fail
            go_ret
            exact ⟨⟨_, rfl, fun h => .typeWithQualifiers (R2.out (by trivial)) (R3.out h)⟩, S3.out.below⟩
          · go_simp
            refine hK _ _ ?_
            clear hK K
            refine wpAny_take_at (i := 19) (some 102) (v := ?_) rfl rfl (by kernel_rfl) (by kernel_rfl) (by kernel_rfl) (fun _ _ _ h => h) (Or.inl ⟨by rfl, ?_⟩) ?_
            rotate_left
            focus (intro w; go_simp; try with_reducible rfl)
            simp only [Act.put, List.setIfInBounds_toArray, List.set_cons_succ, List.set_cons_zero]
            refine wpAny_ready (rs := [13]) (by kernel_rfl) (by simp) ?_
            refine AllReady.cons rfl (fun K hK => ?_) AllReady.nil
            go_simp
            refine hK _ _ ?_
            clear hK K
            refine wpAny_ready (rs := [20]) (by kernel_rfl) (by simp) ?_
            refine AllReady.cons rfl (fun K hK => ?_) AllReady.nil
            go_simp
            refine (I2.out _ _ S2.out.later).mono ?_
            rintro e w3 ⟨⟨r3, rfl, hr3⟩, b3⟩
            have S3 := Lib.hid (S2.out.on b3)
            have R3 := Lib.hid hr3
            clear hr3 b3 I2
            go_wp2_with fail
            refine wpAny_take_at (i := 21) (some 104) (v := ?_) rfl rfl (by kernel_rfl) (by kernel_rfl) (by kernel_rfl) (fun _ _ _ h => h) (Or.inl ⟨by rfl, ?_⟩) ?_
            rotate_left
            focus (intro w; go_simp; try with_reducible rfl)
            simp only [Act.put, List.setIfInBounds_toArray, List.set_cons_succ, List.set_cons_zero]
            refine wpAny_take_at (i := 22) (some 2) (v := ?_) rfl rfl (by kernel_rfl) (by kernel_rfl) (by kernel_rfl) (fun _ _ _ h => h) (Or.inl ⟨by rfl, ?_⟩) ?_
            rotate_left
            focus (intro w; go_simp; try with_reducible rfl)
            simp only [Act.put, List.setIfInBounds_toArray, List.set_cons_succ, List.set_cons_zero]
            refine wpAny_done (by kernel_rfl) ?_ _
            go_wp2_with fail
            go_ret
            exact ⟨⟨_, rfl, fun h => .typeWithQualifiers (R2.out (by trivial)) (R3.out h)⟩, S3.out.below⟩
      · go_simp
        refine hK _ _ ?_
        clear hK K
        refine wpAny_take_at (i := 16) (some 99) (v := ?_) rfl rfl (by kernel_rfl) (by kernel_rfl) (by kernel_rfl) (fun _ _ _ h => h) (Or.inl ⟨by rfl, ?_⟩) ?_
        rotate_left
        focus (intro w; go_simp; try with_reducible rfl)
        simp only [Act.put, List.setIfInBounds_toArray, List.set_cons_succ, List.set_cons_zero]
        refine wpAny_take_at (i := 17) (some 100) (v := ?_) rfl rfl (by kernel_rfl) (by kernel_rfl) (by kernel_rfl) (fun _ _ _ h => h) (Or.inl ⟨by rfl, ?_⟩) ?_
        rotate_left
        focus (intro w; go_simp; try with_reducible rfl)
        simp only [Act.put, List.setIfInBounds_toArray, List.set_cons_succ, List.set_cons_zero]
        refine wpAny_ready (rs := [11, 18]) (by kernel_rfl) (by simp) ?_
        refine AllReady.cons rfl (fun K hK => ?_) (AllReady.cons rfl (fun K hK => ?_) AllReady.nil)
        · go_simp
          refine hK _ _ ?_
          clear hK K
          refine wpAny_take_at (i := 12) (some 95) (v := ?_) rfl rfl (by kernel_rfl) (by kernel_rfl) (by kernel_rfl) (fun _ _ _ h => h) (Or.inl ⟨by rfl, ?_⟩) ?_
          rotate_left
          focus (intro w; go_simp; try with_reducible rfl)
          simp only [Act.put, List.setIfInBounds_toArray, List.set_cons_succ, List.set_cons_zero]
          refine wpAny_ready (rs := [13, 18]) (by kernel_rfl) (by simp) ?_
          refine AllReady.cons rfl (fun K hK => ?_) (AllReady.cons rfl (fun K hK => ?_) AllReady.nil)
          · go_simp
            refine hK _ _ ?_
            clear hK K
            refine wpAny_ready (rs := [18]) (by kernel_rfl) (by simp) ?_
            refine AllReady.cons rfl (fun K hK => ?_) AllReady.nil
            go_simp
            refine hK _ _ ?_
            clear hK K
            refine wpAny_take_at (i := 19) (some 102) (v := ?_) rfl rfl (by kernel_rfl) (by kernel_rfl) (by kernel_rfl) (fun _ _ _ h => h) (Or.inl ⟨by rfl, ?_⟩) ?_
            rotate_left
            focus (intro w; go_simp; try with_reducible rfl)
            simp only [Act.put, List.setIfInBounds_toArray, List.set_cons_succ, List.set_cons_zero]
            refine wpAny_ready (rs := [20]) (by kernel_rfl) (by simp) ?_
            refine AllReady.cons rfl (fun K hK => ?_) AllReady.nil
            go_simp
            refine (I2.out _ _ S2.out.later).mono ?_
            rintro e w3 ⟨⟨r3, rfl, hr3⟩, b3⟩
            have S3 := Lib.hid (S2.out.on b3)
            have R3 := Lib.hid hr3
            clear hr3 b3 I2
            go_wp2_with fail
            refine wpAny_take_at (i := 21) (some 104) (v := ?_) rfl rfl (by kernel_rfl) (by kernel_rfl) (by kernel_rfl) (fun _ _ _ h => h) (Or.inl ⟨by rfl, ?_⟩) ?_
            rotate_left
            focus (intro w; go_simp; try with_reducible rfl)
            simp only [Act.put, List.setIfInBounds_toArray, List.set_cons_succ, List.set_cons_zero]
            refine wpAny_take_at (i := 22) (some 2) (v := ?_) rfl rfl (by kernel_rfl) (by kernel_rfl) (by kernel_rfl) (fun _ _ _ h => h) (Or.inl ⟨by rfl, ?_⟩) ?_
            rotate_left
            focus (intro w; go_simp; try with_reducible rfl)
            simp only [Act.put, List.setIfInBounds_toArray, List.set_cons_succ, List.set_cons_zero]
            refine wpAny_done (by kernel_rfl) ?_ _
            go_wp2_with fail
            go_ret
            exact ⟨⟨_, rfl, fun h => .typeWithQualifiers (R2.out (by trivial)) (R3.out h)⟩, S3.out.below⟩
          · go_simp
            refine hK _ _ ?_
            clear hK K
            refine wpAny_take_at (i := 19) (some 102) (v := ?_) rfl rfl (by kernel_rfl) (by kernel_rfl) (by kernel_rfl) (fun _ _ _ h => h) (Or.inl ⟨by rfl, ?_⟩) ?_
            rotate_left
            focus (intro w; go_simp; try with_reducible rfl)
            simp only [Act.put, List.setIfInBounds_toArray, List.set_cons_succ, List.set_cons_zero]
            refine wpAny_ready (rs := [13]) (by kernel_rfl) (by simp) ?_
            refine AllReady.cons rfl (fun K hK => ?_) AllReady.nil
            go_simp
            refine hK _ _ ?_
            clear hK K
            refine wpAny_ready (rs := [20]) (by kernel_rfl) (by simp) ?_
            refine AllReady.cons rfl (fun K hK => ?_) AllReady.nil
            go_simp
            refine (I2.out _ _ S2.out.later).mono ?_
            rintro e w3 ⟨⟨r3, rfl, hr3⟩, b3⟩
            have S3 := Lib.hid (S2.out.on b3)
            have R3 := Lib.hid hr3
            clear hr3 b3 I2
            go_wp2_with fail
            refine wpAny_take_at (i := 21) (some 104) (v := ?_) rfl rfl (by kernel_rfl) (by kernel_rfl) (by kernel_rfl) (fun _ _ _ h => h) (Or.inl ⟨by rfl, ?_⟩) ?_
            rotate_left
            focus (intro w; go_simp; try with_reducible rfl)
            simp only [Act.put, List.setIfInBounds_toArray, List.set_cons_succ, List.set_cons_zero]
            refine wpAny_take_at (i := 22) (some 2) (v := ?_) rfl rfl (by kernel_rfl) (by kernel_rfl) (by kernel_rfl) (fun _ _ _ h => h) (Or.inl ⟨by rfl, ?_⟩) ?_
            rotate_left
            focus (intro w; go_simp; try with_reducible rfl)
            simp only [Act.put, List.setIfInBounds_toArray, List.set_cons_succ, List.set_cons_zero]
            refine wpAny_done (by kernel_rfl) ?_ _
            go_wp2_with fail
            go_ret
            exact ⟨⟨_, rfl, fun h => .typeWithQualifiers (R2.out (by trivial)) (R3.out h)⟩, S3.out.below⟩
        · go_simp
          refine hK _ _ ?_
          clear hK K
          refine wpAny_take_at (i := 19) (some 102) (v := ?_) rfl rfl (by kernel_rfl) (by kernel_rfl) (by kernel_rfl) (fun _ _ _ h => h) (Or.inl ⟨by rfl, ?_⟩) ?_
          rotate_left
          focus (intro w; go_simp; try with_reducible rfl)
          simp only [Act.put, List.setIfInBounds_toArray, List.set_cons_succ, List.set_cons_zero]
          refine wpAny_ready (rs := [11]) (by kernel_rfl) (by simp) ?_
          refine AllReady.cons rfl (fun K hK => ?_) AllReady.nil
          go_simp
          refine hK _ _ ?_
          clear hK K
          refine wpAny_take_at (i := 12) (some 95) (v := ?_) rfl rfl (by kernel_rfl) (by kernel_rfl) (by kernel_rfl) (fun _ _ _ h => h) (Or.inl ⟨by rfl, ?_⟩) ?_
          rotate_left
          focus (intro w; go_simp; try with_reducible rfl)
          simp only [Act.put, List.setIfInBounds_toArray, List.set_cons_succ, List.set_cons_zero]
          refine wpAny_ready (rs := [13]) (by kernel_rfl) (by simp) ?_
          refine AllReady.cons rfl (fun K hK => ?_) AllReady.nil
          go_simp
          refine hK _ _ ?_
          clear hK K
          refine wpAny_ready (rs := [20]) (by kernel_rfl) (by simp) ?_
          refine AllReady.cons rfl (fun K hK => ?_) AllReady.nil
          go_simp
          refine (I2.out _ _ S2.out.later).mono ?_
          rintro e w3 ⟨⟨r3, rfl, hr3⟩, b3⟩
          have S3 := Lib.hid (S2.out.on b3)
          have R3 := Lib.hid hr3
          clear hr3 b3 I2
          go_wp2_with fail
          refine wpAny_take_at (i := 21) (some 104) (v := ?_) rfl rfl (by kernel_rfl) (by kernel_rfl) (by kernel_rfl) (fun _ _ _ h => h) (Or.inl ⟨by rfl, ?_⟩) ?_
          rotate_left
          focus (intro w; go_simp; try with_reducible rfl)
          simp only [Act.put, List.setIfInBounds_toArray, List.set_cons_succ, List.set_cons_zero]
          refine wpAny_take_at (i := 22) (some 2) (v := ?_) rfl rfl (by kernel_rfl) (by kernel_rfl) (by kernel_rfl) (fun _ _ _ h => h) (Or.inl ⟨by rfl, ?_⟩) ?_
          rotate_left
          focus (intro w; go_simp; try with_reducible rfl)
          simp only [Act.put, List.setIfInBounds_toArray, List.set_cons_succ, List.set_cons_zero]
          refine wpAny_done (by kernel_rfl) ?_ _
          go_wp2_with fail
          go_ret
          exact ⟨⟨_, rfl, fun h => .typeWithQualifiers (R2.out (by trivial)) (R3.out h)⟩, S3.out.below⟩
end Go.Proofs.YtnhccgbkalpcnaaGreatDoor
