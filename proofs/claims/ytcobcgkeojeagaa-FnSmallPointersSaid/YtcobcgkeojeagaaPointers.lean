/- FnSmallPointers returns true, whatever it is given. -/
import Derived.Test.YtcobcgkeojeagaaSigns
namespace Go.Proofs.Ytcobcgkeojeagaa
open Go.RowKit

theorem infoInt : (Try.prog.info? 3).map (fun i => (i.zero, i.size, i.bytes)) = some (some (.int .i64 0), 1, 8) := by kernel_rfl

theorem intv_append (a b : List Int) : intv (a ++ b) = intv a ++ intv b := by simp [intv]
theorem intv_length (a : List Int) : (intv a).length = a.length := by simp [intv]

theorem stars_snoc (j : Nat) : List.replicate (j + 1) (0 : Int) = List.replicate j 0 ++ [0] := by rw [List.replicate_succ']
theorem starsB_snoc (s : List UInt8) (j : Nat) : signsB s (List.replicate (j + 1) 0) = signsB s (List.replicate j 0) ++ [42] := by
  rw [stars_snoc, signsB, List.flatMap_append]
  simp [signsB, signB]
theorem signsB_last (s : List UInt8) (L : List Int) (k : Int) : signsB s (L ++ [k]) = signsB s L ++ signB k := by
  rw [signsB, List.flatMap_append]
  simp [signsB]

theorem signs_ba (s : ByteArray) (L : List Int) {t : ByteArray} (h : t.data.toList = signsB s.data.toList L) : (⟨(signsB s.data.toList L).toArray⟩ : ByteArray) = t := by
  apply ba_ext
  rw [h]

set_option maxRecDepth 100000 in
set_option maxHeartbeats 2000000 in
theorem pointersLaw (w : World) (s : ByteArray) (many sign : Int) :
    Calls Try.prog 9 #[.string s, .int .i64 many, .int .i64 sign] w fun e w' => e = .returned (.bool true) ∧ Below w.heap.size w w' := by
  by_cases g1 : 2147483647 < s.size
  · go_enter Try.func9, Try.ntmps9
    go_wp2_with fail
    go_ret
    exact ⟨rfl, Below.refl _ _⟩
  · obtain ⟨K, hK, hKl⟩ : ∃ K : Nat, ofB many 1000 = K ∧ K < 1000 := by
      have := ofB_range many 1000 (by omega)
      exact ⟨(ofB many 1000).toNat, by omega, by omega⟩
    have C1 := Lib.hid (show Calls Try.prog 11 #[.int .i64 many, .int .i64 1000] w fun e w' => e = .returned (.int .i64 K) ∧ w = w' by
      have := cxxOf_any many 1000 w (by omega) (by omega)
      rw [hK] at this
      exact this)
    obtain ⟨i0, hi, hz0, hz1, hz2⟩ := info_parts infoInt
    have hr3 := ofB_range sign 3 (by omega)
    have C2 := Lib.hid (fun W => cxxOf_any sign 3 W (by omega) (by omega))
    generalize hk3 : ofB sign 3 = k3 at *
    clear hK hk3
    have HR3 := Lib.hid hr3
    clear hr3
    go_enter Try.func9, Try.ntmps9
    go_wp2_with fail
    refine (C1.out).mono ?_
    rintro e w' ⟨rfl, rfl⟩
    go_wp2_with fail
    go_loopg [7, 8, 9] K (fun k x t i wr => ∃ j : Nat, j + k = K ∧ i = .int .i64 k ∧ wr.ownsRow w.heap.size 3 1 x j (intv (List.replicate j 0)) ∧ (∃ T : ByteArray, t = .string T ∧ Hid (T.data.toList = signsB s.data.toList (List.replicate j 0))) ∧ Below w.heap.size w wr)
    case atStart => exact ⟨0, by omega, rfl, World.ownsRow_nil _ _ _ _, ⟨s, rfl, by show _ = _; simp [signsB]⟩, Below.refl _ _⟩
    case round =>
      obtain ⟨j, hj, rfl, hown, ⟨T, rfl, hT⟩, hb⟩ := hrel
      have hws := hb.size
      have hTz := signsB_le s.data.toList (List.replicate j 0)
      rw [← hT.out, ba_size, ba_size, List.length_replicate] at hTz
      by_cases hlt : 0 < gk
      · have HT := Lib.hid (starsB_snoc s.data.toList j)
        have HG := Lib.hid (show ((gk - 1 : Nat) : Int) = (gk : Int) - 1 by omega)
        go_wp2_with (at_builtin; refine wpList_append_row rfl _ _ 36 rfl w.heap.size 3 i0 (.int .i64 0) 8 Try.underlying36 hi hz0 hz1 hz2 rfl _ j (intv (List.replicate j 0)) rfl (hown.alloc _) (.slice (some ⟨wr.heap.size, 0, none⟩) 1 1) [.int .i64 0] rfl (I := fun _ => True) ?c1 ?c2 ?c3 ?c4 ?c5 ?_
                     rotate_left 5
                     intro v' w2 hown2 hg2
                     have O2 := Lib.hid hown2
                     have B2 := Lib.hid ((hb.alloc hws (.cells #[.int .i64 0] 3)).grown hg2 (by simp; omega) (fun k hk => (hown.lt k hk).1))
                     clear hown2 hg2 hown hb)
        case c1 => exact SliceOf.one _ _ _ _ rfl trivial
        case c2 => exact fun u hu => by simp at hu; subst hu; rfl
        case c3 => simp [maxLen]; omega
        case c4 => simp; omega
        case c5 => simp; omega
        go_roundg (gk - 1)
        case measure => omega
        case rel =>
          refine ⟨j + 1, by omega, by rw [HG.out], ?_, ⟨_, rfl, by show _ = _; rw [HT.out, ba_append, hT.out]⟩, B2.out⟩
          have := O2.out
          rw [stars_snoc, intv_append]
          exact this
      · have hjK : j = K := by omega
        have HJ := Lib.hid hjK
        have HSN := Lib.hid (signsB_last s.data.toList (List.replicate j 0) k3)
        clear hjK
        go_wp2_with fail
        refine (C2.out _).mono ?_
        rintro e w' ⟨rfl, rfl⟩
        by_cases k0 : k3 = 0
        · subst k0
          go_wp2_with (at_builtin; refine wpList_append_row rfl _ _ 36 rfl w.heap.size 3 i0 (.int .i64 0) 8 Try.underlying36 hi hz0 hz1 hz2 rfl _ j (intv (List.replicate j 0)) rfl (hown.alloc _) (.slice (some ⟨wr.heap.size, 0, none⟩) 1 1) [.int .i64 0] rfl (I := fun _ => True) ?c1 ?c2 ?c3 ?c4 ?c5 ?_
                       rotate_left 5
                       intro v' w2 hown2 hg2
                       have O2 := Lib.hid hown2
                       have B2 := Lib.hid ((hb.alloc hws (.cells #[.int .i64 0] 3)).grown hg2 (by simp; omega) (fun k hk => (hown.lt k hk).1))
                       clear hown2 hg2 hown hb)
          case c1 => exact SliceOf.one _ _ _ _ rfl trivial
          case c2 => exact fun u hu => by simp at hu; subst hu; rfl
          case c3 => simp [maxLen]; omega
          case c4 => simp; omega
          case c5 => simp; omega
          have hsl : SliceOf w2 (Old w2) v' (intv (List.replicate j 0 ++ [0])) := by
            rw [intv_append]
            exact SliceOf.owned (I := Old w2) O2.out (fun i _ h => h)
          have HP := Lib.hid (printSigns_any w2 (I := Old w2) (fun _ h => h) s v' (List.replicate j 0 ++ [0]) hsl (by simp; omega) (by omega))
          obtain ⟨a2, c2, hv2, _⟩ := hsl.ints
          clear hsl O2
          subst hv2
          refine (HP.out).mono ?_
          rintro e w4 ⟨rfl, b4⟩
          have B4 := Lib.hid (B2.out.trans (b4.mono B2.out.size))
          clear b4 HP
          rw [signs_ba s (List.replicate j 0 ++ [0]) (t := T ++ ⟨#[42]⟩) (by rw [HSN.out, ba_append, hT.out]; rfl)]
          go_wp2_with fail
          go_ret
          exact ⟨rfl, B4.out⟩
        · have e0 : (k3 == 0) = false := beq_eq_false_iff_ne.2 k0
          by_cases k1 : k3 = 1
          · subst k1
            go_wp2_with (at_builtin; refine wpList_append_row rfl _ _ 36 rfl w.heap.size 3 i0 (.int .i64 0) 8 Try.underlying36 hi hz0 hz1 hz2 rfl _ j (intv (List.replicate j 0)) rfl (hown.alloc _) (.slice (some ⟨wr.heap.size, 0, none⟩) 1 1) [.int .i64 1] rfl (I := fun _ => True) ?c1 ?c2 ?c3 ?c4 ?c5 ?_
                         rotate_left 5
                         intro v' w2 hown2 hg2
                         have O2 := Lib.hid hown2
                         have B2 := Lib.hid ((hb.alloc hws (.cells #[.int .i64 1] 3)).grown hg2 (by simp; omega) (fun k hk => (hown.lt k hk).1))
                         clear hown2 hg2 hown hb)
            case c1 => exact SliceOf.one _ _ _ _ rfl trivial
            case c2 => exact fun u hu => by simp at hu; subst hu; rfl
            case c3 => simp [maxLen]; omega
            case c4 => simp; omega
            case c5 => simp; omega
            have hsl : SliceOf w2 (Old w2) v' (intv (List.replicate j 0 ++ [1])) := by
              rw [intv_append]
              exact SliceOf.owned (I := Old w2) O2.out (fun i _ h => h)
            have HP := Lib.hid (printSigns_any w2 (I := Old w2) (fun _ h => h) s v' (List.replicate j 0 ++ [1]) hsl (by simp; omega) (by omega))
            obtain ⟨a2, c2, hv2, _⟩ := hsl.ints
            clear hsl O2
            subst hv2
            refine (HP.out).mono ?_
            rintro e w4 ⟨rfl, b4⟩
            have B4 := Lib.hid (B2.out.trans (b4.mono B2.out.size))
            clear b4 HP
            rw [signs_ba s (List.replicate j 0 ++ [1]) (t := T ++ ⟨#[38]⟩) (by rw [HSN.out, ba_append, hT.out]; rfl)]
            go_wp2_with fail
            go_ret
            exact ⟨rfl, B4.out⟩
          · have e1 : (k3 == 1) = false := beq_eq_false_iff_ne.2 k1
            have K0 := Lib.hid k0
            have K1 := Lib.hid k1
            clear k0 k1
            go_wp2_with (at_builtin; refine wpList_append_row rfl _ _ 36 rfl w.heap.size 3 i0 (.int .i64 0) 8 Try.underlying36 hi hz0 hz1 hz2 rfl _ j (intv (List.replicate j 0)) rfl (hown.alloc _) (.slice (some ⟨wr.heap.size, 0, none⟩) 1 1) [.int .i64 k3] rfl (I := fun _ => True) ?c1 ?c2 ?c3 ?c4 ?c5 ?_
                         rotate_left 5
                         intro v' w2 hown2 hg2
                         have O2 := Lib.hid hown2
                         have B2 := Lib.hid ((hb.alloc hws (.cells #[.int .i64 k3] 3)).grown hg2 (by simp; omega) (fun k hk => (hown.lt k hk).1))
                         clear hown2 hg2 hown hb)
            case c1 => exact SliceOf.one _ _ _ _ rfl trivial
            case c2 => exact fun u hu => by simp at hu; subst hu; rfl
            case c3 => simp [maxLen]; omega
            case c4 => simp; omega
            case c5 => simp; omega
            have hsl : SliceOf w2 (Old w2) v' (intv (List.replicate j 0 ++ [k3])) := by
              rw [intv_append]
              exact SliceOf.owned (I := Old w2) O2.out (fun i _ h => h)
            have HP := Lib.hid (printSigns_any w2 (I := Old w2) (fun _ h => h) s v' (List.replicate j 0 ++ [k3]) hsl (by simp; omega) (by omega))
            obtain ⟨a2, c2, hv2, _⟩ := hsl.ints
            clear hsl O2
            subst hv2
            refine (HP.out).mono ?_
            rintro e w4 ⟨rfl, b4⟩
            have B4 := Lib.hid (B2.out.trans (b4.mono B2.out.size))
            clear b4 HP
            rw [signs_ba s (List.replicate j 0 ++ [k3]) (t := T ++ ⟨#[38, 38]⟩) (by rw [HSN.out, ba_append, hT.out, signB, if_neg K0.out, if_neg K1.out])]
            go_wp2_with fail
            go_ret
            exact ⟨rfl, B4.out⟩

end Go.Proofs.Ytcobcgkeojeagaa
