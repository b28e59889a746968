/- impl.templates: Templates of Names, each the only argument of the one around it. -/
import Derived.Test.YtcobcgkeojeagaaNames
namespace Go.Proofs.Ytcobcgkeojeagaa
open Go.RowKit

theorem ownsRow_below {w w' : World} {base : Nat} {e : TypeId} {size : Nat} {v : Value} {n : Nat} {xs : List Value} (h : w.ownsRow base e size v n xs) {B : Nat} (hb : Below B w w') (hB : w.heap.size ≤ B) : w'.ownsRow base e size v n xs := by
  refine ⟨h.1, ?_⟩
  rcases h.2 with h2 | ⟨g, cap, cur, hv, hg, hh, r⟩
  · exact .inl h2
  · exact .inr ⟨g, cap, cur, hv, hg, by rw [hb.block g (Nat.lt_of_lt_of_le (lt_of_block hh) hB)]; exact hh, r⟩

/-- the values vs are what stands in the brackets when the names L are still to come: one Template for each, the Names A within the last one -/
def Args (w : World) (I : Nat → Prop) : List ByteArray → List ByteArray → List Value → Prop
  | [], A, vs => Names w I vs A
  | s :: r, A, vs => ∃ p nv sv vs', vs = [.iface 57 (.pointer (some ⟨p, 0, none⟩))] ∧ I p ∧ w.heap[p]? = some (.cells #[nv, sv] 64 (0, 0)) ∧ IsName w I nv s ∧ SliceOf w I sv vs' ∧
      Args w I r A vs' ∧ blkOf nv < p ∧ ∀ u ∈ vs', blkOf u < p

theorem Args.same {w w' : World} {I : Nat → Prop} (hb : Same I w w') : ∀ {L A : List ByteArray} {vs : List Value}, Args w I L A vs → Args w' I L A vs
  | [], _, _, h => Names.same h hb
  | _ :: _, _, _, ⟨p, nv, sv, vs', hv, hI, hc, hn, hs, hr, h1, h2⟩ => ⟨p, nv, sv, vs', hv, hI, by rw [hb p hI]; exact hc, hn.same hb, hs.same hb, Args.same hb hr, h1, h2⟩

theorem Args.mono {w : World} {I J : Nat → Prop} (hI : ∀ i, I i → J i) : ∀ {L A : List ByteArray} {vs : List Value}, Args w I L A vs → Args w J L A vs
  | [], _, _, h => Names.mono h hI
  | _ :: _, _, _, ⟨p, nv, sv, vs', hv, hi, hc, hn, hs, hr, h1, h2⟩ => ⟨p, nv, sv, vs', hv, hI _ hi, hc, hn.mono hI, hs.mono hI, Args.mono hI hr, h1, h2⟩

theorem Args.at {w : World} {I : Nat → Prop} : ∀ {L A : List ByteArray} {vs : List Value}, Args w I L A vs → ∀ u ∈ vs, I (blkOf u)
  | [], _, _, h => fun u hu => (Names.all h u hu).elim fun _ k => k.at
  | _ :: _, _, _, ⟨p, nv, sv, vs', hv, hI, _⟩ => fun u hu => by
    subst hv
    simp at hu
    subst hu
    exact hI

/-- a Template is made: the Name, the Template and a slice of it, in three new blocks -/
theorem tmpl_made {w wr : World} {L A : List ByteArray} {args : Value} {vs : List Value} (s : ByteArray) (hb : Below w.heap.size w wr) (hs : SliceOf wr (Made w wr) args vs) (ha : Args wr (Made w wr) L A vs) :
    Args ((wr.alloc (.cells #[.string s] 91)).alloc (.cells #[.iface 89 (.pointer (some ⟨wr.heap.size, 0, none⟩)), args] 64))
      (fun i => w.heap.size ≤ i ∧ i < wr.heap.size + 2) (s :: L) A [.iface 57 (.pointer (some ⟨wr.heap.size + 1, 0, none⟩))] := by
  have hws := hb.size
  have k : Same (Made w wr) wr ((wr.alloc (.cells #[.string s] 91)).alloc (.cells #[.iface 89 (.pointer (some ⟨wr.heap.size, 0, none⟩)), args] 64)) :=
    Same.below (B := wr.heap.size) (((Below.refl _ _).alloc (Nat.le_refl _) _).alloc (by simp) _) fun i hi => hi.2
  have m : ∀ i, Made w wr i → w.heap.size ≤ i ∧ i < wr.heap.size + 2 := fun i hi => ⟨hi.1, by have := hi.2; omega⟩
  refine ⟨wr.heap.size + 1, _, args, vs, rfl, ⟨by omega, by omega⟩, ?_, ⟨wr.heap.size, rfl, ⟨by omega, by omega⟩, ?_⟩, (hs.same k).mono m, (ha.same k).mono m, by simp [blkOf], fun u hu => ?_⟩
  · have h := heap_alloc_new (wr.alloc (.cells #[.string s] 91)) (.cells #[.iface 89 (.pointer (some ⟨wr.heap.size, 0, none⟩)), args] 64)
    simpa using h
  · rw [Below.heap_alloc _ _ _ (by simp)]
    exact heap_alloc_new wr _
  · have := (ha.at u hu).2
    omega

theorem tmpl_start {w w2 w3 : World} {v' : Value} {vs : List Value} {arg : ByteArray} {M : List ByteArray}
    (hb2 : Below (w.heap.size + 1 + 1) ((w.alloc (.cells #[.string arg] 91)).alloc (.cells #[.iface 89 (.pointer (some ⟨w.heap.size, 0, none⟩))] 47)) w2)
    (hz : w.heap.size + 1 + 1 ≤ w2.heap.size)
    (hn : Names w2 (fun i => w.heap.size + 1 + 1 ≤ i ∧ i < w2.heap.size) vs M)
    (ho : w3.ownsRow w.heap.size 47 1 v' (1 + vs.length) (.iface 89 (.pointer (some ⟨w.heap.size, 0, none⟩)) :: vs))
    (hg : w2.grownBy w3 (Value.slice (some ⟨w.heap.size + 1, 0, none⟩) 1 1).ownBlock) :
    SliceOf w3 (Made w w3) v' (.iface 89 (.pointer (some ⟨w.heap.size, 0, none⟩)) :: vs) ∧
      Names w3 (Made w w3) (.iface 89 (.pointer (some ⟨w.heap.size, 0, none⟩)) :: vs) (arg :: M) ∧ Below w.heap.size w w3 := by
  have hsz := hg.size
  have keep : ∀ i, i < w2.heap.size → i ≠ w.heap.size + 1 → w3.heap[i]? = w2.heap[i]? := fun i h1 h2 => hg.block i h1 (by simpa [Value.ownBlock] using h2)
  have b2 : Below w.heap.size w w2 := (((Below.refl w.heap.size w).alloc (Nat.le_refl _) _).alloc (by simp) _).trans (hb2.mono (by omega))
  refine ⟨SliceOf.owned ho fun i h1 h2 => ⟨h1, h2⟩, ⟨⟨w.heap.size, rfl, ⟨Nat.le_refl _, by omega⟩, ?_⟩, hn.imp fun v s => ?_⟩, b2.grown hg (by omega) (fun k hk => by simp [Value.ownBlock] at hk; omega)⟩
  · rw [keep _ (by omega) (by omega), hb2.block _ (by omega), Below.heap_alloc _ _ _ (by simp)]
    exact heap_alloc_new w _
  · rintro ⟨b, hv, ⟨h1, h2⟩, hc⟩
    exact ⟨b, hv, ⟨by omega, by omega⟩, by rw [keep _ h2 (by omega)]; exact hc⟩

theorem tmpl_last {w wr : World} {L L' A : List ByteArray} {nm tm : Obj} {v : Value} (e : L = L')
    (h : Args ((wr.alloc nm).alloc tm) (fun i => w.heap.size ≤ i ∧ i < wr.heap.size + 2) L A [v]) :
    Args ((wr.alloc nm).alloc tm) (Made w ((wr.alloc nm).alloc tm)) L' A [v] := by
  subst e
  exact h.mono fun i ⟨h1, h2⟩ => ⟨h1, by simpa using h2⟩

theorem tmpl_round {w wr : World} {L A : List ByteArray} {nm tm : Obj} {v : Value} (hws : w.heap.size ≤ wr.heap.size) (hb : Below w.heap.size w wr)
    (h : Args ((wr.alloc nm).alloc tm) (fun i => w.heap.size ≤ i ∧ i < wr.heap.size + 2) L A [v]) :
    SliceOf (((wr.alloc nm).alloc tm).alloc (.cells #[v] 47)) (Made w (((wr.alloc nm).alloc tm).alloc (.cells #[v] 47))) (.slice (some ⟨wr.heap.size + 1 + 1, 0, none⟩) 1 1) [v] ∧
    Args (((wr.alloc nm).alloc tm).alloc (.cells #[v] 47)) (Made w (((wr.alloc nm).alloc tm).alloc (.cells #[v] 47))) L A [v] ∧
    Below w.heap.size w (((wr.alloc nm).alloc tm).alloc (.cells #[v] 47)) := by
  refine ⟨SliceOf.one _ _ _ _ (by simp) ⟨by omega, by simp⟩, (h.same ?_).mono ?_, ((hb.alloc hws _).alloc (by simp; omega) _).alloc (by simp; omega) _⟩
  · exact Same.below (B := wr.heap.size + 2) ((Below.refl _ _).alloc (by simp) _) fun i hi => hi.2
  · intro i ⟨h1, h2⟩
    refine ⟨h1, ?_⟩
    simp
    omega

set_option maxRecDepth 100000 in
set_option maxHeartbeats 1000000 in
theorem templates_any (w : World) {I : Nat → Prop} (hI : ∀ i, I i → i < w.heap.size) (lv mv : Value) (L : List ByteArray) (arg : ByteArray) (M : List ByteArray) (hl : SliceOf w I lv (strv L)) (hm : SliceOf w I mv (strv M))
    (hL : L ≠ []) (hLn : L.length ≤ 2147483648) (hMn : M.length ≤ 2147483648) :
    Calls Try.prog 34 #[lv, .string arg, mv] w fun e w' => ∃ v, e = .returned v ∧ Args w' (Made w w') L (arg :: M) [v] ∧ Below w.heap.size w w' := by
  obtain ⟨a, cap, rfl, hl1, hl2, hlr⟩ := hl.strs
  have hL0 : 0 < L.length := List.length_pos_iff.2 hL
  obtain ⟨b, off, rfl, hbI, hcell⟩ := hlr.resolve_left hL
  have hbl := hI _ hbI
  have HC := Lib.hid hcell
  clear hl hlr hL hl1 hl2 hcell hbI
  obtain ⟨i0, hi, hz0, hz1, hz2⟩ := info_parts infoAST
  have hne : ((L.length : Int) == 0) = false := beq_eq_false_iff_ne.2 (by omega)
  have hI2 : ∀ i, I i → i < w.heap.size + 1 + 1 := fun i hi => by have := hI i hi; omega
  have hS : Same I w ((w.alloc (.cells #[.string arg] 91)).alloc (.cells #[.iface 89 (.pointer (some ⟨w.heap.size, 0, none⟩))] 47)) :=
    Same.below (((Below.refl w.heap.size w).alloc (Nat.le_refl _) _).alloc (by simp) _) hI
  have hnm := names_any ((w.alloc (.cells #[.string arg] 91)).alloc (.cells #[.iface 89 (.pointer (some ⟨w.heap.size, 0, none⟩))] 47)) (I := I) (by simpa using hI2) mv M (hm.same hS) hMn
  have own0 := World.ownsRow_lit (base := w.heap.size) (size := 1) (e := 47) (w.alloc (.cells #[.string arg] 91)) #[.iface 89 (.pointer (some ⟨w.heap.size, 0, none⟩))] 1 (by simp) (by unfold maxLen; omega) rfl
  have HNM := Lib.hid hnm
  have OWN := Lib.hid own0
  clear hnm hS own0 hm
  go_enter Try.func34, Try.ntmps34
  go_wp2_with fail
  refine (name_any _ _).mono ?_
  rintro e w1 ⟨rfl, rfl⟩
  go_wp2_with fail
  refine (HNM.out).mono ?_
  rintro e w2 ⟨v2, vs, rfl, hs2, hn2, hb2⟩
  have own2 := ownsRow_below OWN.out hb2 (Nat.le_refl _)
  have hz := hb2.size
  simp at hz own2
  have HN2 := Lib.hid (show Names w2 (fun i => w.heap.size + 1 + 1 ≤ i ∧ i < w2.heap.size) vs M from hn2.mono fun i hi => ⟨by have := hi.1; simpa using this, hi.2⟩)
  have HB := Lib.hid (show Below (w.heap.size + 1 + 1) _ w2 by simpa using hb2)
  clear HNM OWN
  go_wp2_with (first
    | (at_builtin; refine wpList_append_row rfl _ _ 59 rfl w.heap.size 47 i0 .nilIface 16 Try.underlying59 hi hz0 hz1 hz2 rfl _ 1 [.iface 89 (.pointer (some ⟨w.heap.size, 0, none⟩))] rfl own2 v2 vs rfl hs2 (Names.one hn2) ?c3 ?c4 ?c5 ?_
       rotate_left 3
       intro v' w3 hown3 hg3))
  case c3 => rw [Names.length hn2]; unfold maxLen; omega
  case c4 => rw [Names.length hn2]; omega
  case c5 => omega
  have HG := Lib.hid hg3
  have HO := Lib.hid hown3
  clear hg3 hown3 own2
  go_loopg [7, 8] (L.length - 1) (fun k x i wr => ∃ j : Nat, j < L.length ∧ k = j ∧ i = .int .i64 j ∧ ∃ vs, SliceOf wr (Made w wr) x vs ∧ Args wr (Made w wr) (L.drop (j + 1)) (arg :: M) vs ∧ Below w.heap.size w wr)
  case atStart =>
    refine ⟨L.length - 1, by omega, rfl, by rw [show ((L.length - 1 : Nat) : Int) = (L.length : Int) - 1 from by omega], .iface 89 (.pointer (some ⟨w.heap.size, 0, none⟩)) :: vs, ?_⟩
    rw [show List.drop (L.length - 1 + 1) L = [] from List.drop_eq_nil_of_le (by omega)]
    exact tmpl_start HB.out hz HN2.out (HO.out) (HG.out)
  case round =>
    obtain ⟨j, hj, hk, rfl, vs, hs, ha, hb⟩ := hrel
    have hws := hb.size
    have hc1 : wr.cell? ⟨b, off + j, none⟩ = some (.string L[j]) := by rw [hb.cell (p := ⟨b, off + j, none⟩) hbl]; exact HC.out j hj
    obtain ⟨a2, c2, hx, _, _, _⟩ := hs.lay
    subst hx
    have X := Lib.hid (tmpl_made L[j] hb hs ha)
    have XB := Lib.hid hb
    clear hb ha hs HO HG
    by_cases h0 : 0 < j
    · clear HC
      have hm1 : ((j - 1 : Nat) : Int) = (j : Int) - 1 := by omega
      have HM := Lib.hid hm1
      have hd : L[j] :: L.drop (j + 1) = L.drop (j - 1 + 1) := by rw [show j - 1 + 1 = j from by omega]; exact (List.drop_eq_getElem_cons hj).symm
      have HD := Lib.hid hd
      clear hm1 hd
      go_wp2_with (first
        | (go_at_call 27; refine (name_any _ _).mono ?_; rintro e w1 ⟨rfl, rfl⟩))
      go_roundg (gk - 1)
      case measure => omega
      case rel => exact ⟨j - 1, by omega, by omega, by rw [HM.out], _, tmpl_round hws XB.out (by rw [← HD.out]; exact X.out)⟩
    · obtain rfl : j = 0 := by omega
      have hd : L[0] :: L.drop (0 + 1) = L := by rw [← List.drop_eq_getElem_cons hj]; rfl
      have HD := Lib.hid hd
      clear hd
      rw [Nat.add_zero] at hc1
      go_wp2_with (first
        | (go_at_call 27; refine (name_any _ _).mono ?_; rintro e w1 ⟨rfl, rfl⟩))
      go_ret
      exact ⟨_, rfl, tmpl_last HD.out X.out, XB.out.alloc hws _ |>.alloc (by simp; omega) _⟩
end Go.Proofs.Ytcobcgkeojeagaa
