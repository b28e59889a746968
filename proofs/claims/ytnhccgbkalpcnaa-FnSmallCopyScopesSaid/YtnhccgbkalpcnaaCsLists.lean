/- smRenamed and smSame. -/
import Derived.Test.YtnhccgbkalpcnaaCsCopy
namespace Go.Proofs.Ytnhccgbkalpcnaa
open Go.RowKit

theorem infoS2 : (Try.prog.info? 9).map (fun i => (i.zero, i.size, i.bytes)) = some (some (.string ByteArray.empty), 1, 16) := by kernel_rfl

theorem hits_snoc (f : ByteArray) (l : List ByteArray) {j : Nat} (h : j < l.length) : hits f (l.take (j + 1)) = (hits f (l.take j) || (l[j].toList == f.toList)) := by
  rw [List.take_succ_eq_append_getElem h, hits, List.any_append, List.any_cons, List.any_nil, Bool.or_false]
  rfl

theorem ren_snoc (f t : ByteArray) (l : List ByteArray) {j : Nat} (h : j < l.length) : (l.take (j + 1)).map (ren f t) = (l.take j).map (ren f t) ++ [ren f t l[j]] := by
  rw [List.take_succ_eq_append_getElem h, List.map_append]
  rfl

/-- the row behind the append, and the world below it -/
theorem grew {w wr w2 : World} {x v2 : Value} {j : Nat} {l : List ByteArray} {s : ByteArray} (hb : Below w.heap.size w wr) (hown : (wr.alloc (.cells #[.string s] 9)).ownsRow w.heap.size 9 1 x j (strv l))
    (hown2 : w2.ownsRow w.heap.size 9 1 v2 (j + (strv [s]).length) (strv l ++ strv [s])) (hg : (wr.alloc (.cells #[.string s] 9)).grownBy w2 x.ownBlock) :
    w2.ownsRow w.heap.size 9 1 v2 (j + 1) (strv (l ++ [s])) ∧ Below w.heap.size w w2 := by
  constructor
  · rw [strv_append]
    exact hown2
  · exact (hb.alloc hb.size _).grown hg (by have := hb.size; simp; omega) (fun k hk => (hown.lt k hk).1)

set_option maxRecDepth 100000 in
set_option maxHeartbeats 2000000 in
theorem smRenamed_any (w : World) {I : Nat → Prop} (hI : ∀ i, I i → i < w.heap.size) (v : Value) (L : List ByteArray) (f t : ByteArray) (h : SliceOf w I v (strv L)) (hn : L.length ≤ 2147483647) :
    Calls Try.prog 9 #[v, .string f, .string t] w fun e w' => ∃ u, e = .returned (.tuple #[u, .bool (hits f L)]) ∧ SliceOf w' (Made w w') u (strv (L.map (ren f t))) ∧ Below w.heap.size w w' := by
  obtain ⟨la, lc, rfl, hl1, hl2, hlr⟩ := h.strs
  have HR := Lib.hid hlr
  have HI := Lib.hid hI
  clear h hlr hI hl1 hl2
  obtain ⟨i0, hi, hz0, hz1, hz2⟩ := info_parts infoS2
  go_enter Try.func9, Try.ntmps9
  go_wp2_with fail
  go_loopg [8, 9, 14] (L.length) (fun k x b i wr => ∃ j : Nat, j + k = L.length ∧ i = .int .i64 j ∧ b = .bool (hits f (L.take j)) ∧ Hid (wr.ownsRow w.heap.size 9 1 x j (strv ((L.take j).map (ren f t)))) ∧ Hid (Below w.heap.size w wr))
  case atStart => exact ⟨0, by omega, rfl, rfl, World.ownsRow_nil _ _ _ _, Below.refl _ _⟩
  case round =>
    obtain ⟨j, hj, rfl, rfl, hown, hb⟩ := hrel
    by_cases hlt : j < L.length
    · rcases HR.out with rfl | ⟨b, off, rfl, hbI, hcell⟩
      · simp at hlt
      have hbl := HI.out _ hbI
      have hc1 : wr.cell? ⟨b, off + j, none⟩ = some (.string L[j]) := by rw [hb.out.cell (p := ⟨b, off + j, none⟩) hbl]; exact hcell j hlt
      have hws := hb.out.size
      have HS := Lib.hid (ren_snoc f t L hlt)
      have HH := Lib.hid (hits_snoc f L hlt)
      have hd : (L[j].toList == f.toList) = true ∨ (L[j].toList == f.toList) = false := by cases (L[j].toList == f.toList) <;> simp
      have hre : ren f t L[j] = if (L[j].toList == f.toList) = true then t else L[j] := rfl
      have HRE := Lib.hid hre
      clear hcell hbI hbl hre
      rcases hd with hd | hd
      · have HD := Lib.hid hd
        have HO1 := Lib.hid (hown.out.alloc (.cells #[.string t] 9))
        go_wp2_with (first
          | (at_builtin; refine wpList_append_row rfl _ _ 22 rfl w.heap.size 9 i0 (.string ByteArray.empty) 16 Try.underlying22 hi hz0 hz1 hz2 rfl _ j (strv ((L.take j).map (ren f t))) rfl HO1.out (.slice (some ⟨wr.heap.size, 0, none⟩) 1 1) (strv [t]) rfl (I := fun _ => True) (SliceOf.one wr _ _ _ rfl trivial) (strv_one _) ?c1 ?c2 ?c3 ?_
             rotate_left 3
             intro v2 w2 hown2 hg2
             have O2 := Lib.hid (grew hb.out HO1.out hown2 hg2)
             clear hown2 hg2))
        case c1 => simp [strv, maxLen]; omega
        case c2 => simp [strv]; omega
        case c3 => simp; omega
        go_roundg (gk - 1)
        case measure => omega
        case rel => exact ⟨j + 1, by omega, by go_num, by rw [HH.out, HD.out]; simp, by show World.ownsRow _ _ _ _ _ _ _; rw [HS.out, HRE.out, HD.out]; exact O2.out.1, O2.out.2⟩
      · have HD := Lib.hid hd
        have HO1 := Lib.hid (hown.out.alloc (.cells #[.string L[j]] 9))
        go_wp2_with (first
          | (at_builtin; refine wpList_append_row rfl _ _ 22 rfl w.heap.size 9 i0 (.string ByteArray.empty) 16 Try.underlying22 hi hz0 hz1 hz2 rfl _ j (strv ((L.take j).map (ren f t))) rfl HO1.out (.slice (some ⟨wr.heap.size, 0, none⟩) 1 1) (strv [L[j]]) rfl (I := fun _ => True) (SliceOf.one wr _ _ _ rfl trivial) (strv_one _) ?d1 ?d2 ?d3 ?_
             rotate_left 3
             intro v2 w2 hown2 hg2
             have O2 := Lib.hid (grew hb.out HO1.out hown2 hg2)
             clear hown2 hg2))
        case d1 => simp [strv, maxLen]; omega
        case d2 => simp [strv]; omega
        case d3 => simp; omega
        go_roundg (gk - 1)
        case measure => omega
        case rel => exact ⟨j + 1, by omega, by go_num, by rw [HH.out, HD.out]; simp, by show World.ownsRow _ _ _ _ _ _ _; rw [HS.out, HRE.out, HD.out]; exact O2.out.1, O2.out.2⟩
    · have hj' : j = L.length := by omega
      have HJ := Lib.hid (show L.take j = L by rw [hj', List.take_length])
      have HO := Lib.hid (SliceOf.owned (I := Made w wr) hown.out (fun i h1 h2 => ⟨h1, h2⟩))
      clear hj'
      go_wp2_with fail
      go_ret2
      have h5 := HO.out
      rw [HJ.out] at h5
      exact ⟨_, (by rw [HJ.out]; rfl), h5, hb.out⟩

set_option maxRecDepth 100000 in
set_option maxHeartbeats 2000000 in
theorem smSame_any (w : World) {I J : Nat → Prop} (v u : Value) (X : List ByteArray) (h : SliceOf w I v (strv X)) (h2 : SliceOf w J u (strv X)) (hn : X.length ≤ 2147483647) :
    Calls Try.prog 11 #[v, u] w fun e w' => e = .returned (.bool true) ∧ Below w.heap.size w w' := by
  obtain ⟨la, lc, rfl, hl1, hl2, hlr⟩ := h.strs
  obtain ⟨ma, mc, rfl, hm1, hm2, hmr⟩ := h2.strs
  have HR := Lib.hid hlr
  have HM := Lib.hid hmr
  clear h hlr hl1 hl2 h2 hmr hm1 hm2
  have e0 : ((X.length : Int) == (X.length : Int)) = true := by simp
  go_enter Try.func11, Try.ntmps11
  go_wp2_with fail
  go_loopg [13] (X.length) (fun k i wr => ∃ j : Nat, j + k = X.length ∧ i = .int .i64 j ∧ Hid (Below w.heap.size w wr) ∧ ∀ p, wr.cell? p = w.cell? p)
  case atStart => exact ⟨0, by omega, rfl, Below.refl _ _, fun _ => rfl⟩
  case round =>
    obtain ⟨j, hj, rfl, hb, hce⟩ := hrel
    by_cases hlt : j < X.length
    · rcases HR.out with rfl | ⟨b, off, rfl, hbI, hcell⟩
      · simp at hlt
      rcases HM.out with rfl | ⟨b', off', rfl, hbI', hcell'⟩
      · simp at hlt
      have hc1 : wr.cell? ⟨b, off + j, none⟩ = some (.string X[j]) := (hce _).trans (hcell j hlt)
      have hc2 : wr.cell? ⟨b', off' + j, none⟩ = some (.string X[j]) := (hce _).trans (hcell' j hlt)
      have i1 : (0 : Int) ≤ (j : Int) := by omega
      have i2 : (j : Int) < (X.length : Int) := by omega
      have ee : (X[j].toList == X[j].toList) = true := by simp
      have HCE := Lib.hid (And.intro hb.out hce)
      clear hcell hcell' hbI hbI' hb hce
      go_wp2_with fail
      go_quiet (fail)
      go_wp2_with fail
      go_roundg (gk - 1)
      case measure => omega
      case rel => exact ⟨j + 1, by omega, by go_num, below_drewN HCE.out.1 _, fun p => HCE.out.2 p⟩
    · have hlt' : ¬ (j : Int) < (X.length : Int) := by omega
      go_wp2_with fail
      go_ret
      exact ⟨rfl, hb.out⟩

end Go.Proofs.Ytnhccgbkalpcnaa
