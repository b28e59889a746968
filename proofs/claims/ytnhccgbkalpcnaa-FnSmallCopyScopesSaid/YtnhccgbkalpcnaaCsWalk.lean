/- impl.CopyScopes: the texts of the copy, or none. -/
import Derived.Test.YtnhccgbkalpcnaaCsMake
import Derived.Deep.RegionWith
import Derived.Deep.CutRange
import Derived.Deep.AppendLies
namespace Go.Proofs.Ytnhccgbkalpcnaa
open Go.RowKit

theorem nil_qual (a : Addr) (w : World) : (nilAhead 183 46 (.pointer (some a)) "Copy").run Try.prog w = .ok (some false) w := by kernel_rfl

/-- what the call of Copy leaves -/
def Got (f t : ByteArray) (l : List ByteArray) (w w' : World) (v : Value) : Prop :=
  Below w.heap.size w w' ∧ ((hits f l = false ∧ v = .nilIface) ∨ (hits f l = true ∧ Chain w' v (l.map (ren f t))))

theorem back_two (first s : ByteArray) (L : List ByteArray) : ∃ x y r, back first (s :: L) = x :: y :: r := by
  unfold back
  rcases h : (first :: s :: L).reverse with _ | ⟨x, _ | ⟨y, r⟩⟩
  · have := congrArg List.length h; simp at this
  · have := congrArg List.length h; simp at this
  · exact ⟨x, y, r, rfl⟩

theorem tq_qual (a : Addr) (w : World) : (Instr.typeAssert (.iface 46 (.pointer (some a))) 34 46 true).run Try.prog w = .ok (.tuple #[.pointer (some a), .bool true]) w := by kernel_rfl
theorem tq_name (a : Addr) (w : World) : (Instr.typeAssert (.iface 37 (.pointer (some a))) 34 46 true).run Try.prog w = .ok (.tuple #[.pointer none, .bool false]) w := by kernel_rfl

theorem infoS : (Try.prog.info? 9).map (fun i => (i.zero, i.size, i.bytes)) = some (some (.string ByteArray.empty), 1, 16) := by kernel_rfl

/-- the row behind the append, and the world below it -/
theorem popped {wc wr w2 : World} {out v2 : Value} {done : List ByteArray} {s : ByteArray} (hb : Below wc.heap.size wc wr) (hown : (wr.alloc (.cells #[.string s] 9)).ownsRow wc.heap.size 9 1 out done.length (strv done))
    (hown2 : w2.ownsRow wc.heap.size 9 1 v2 (done.length + (strv [s]).length) (strv done ++ strv [s])) (hg : (wr.alloc (.cells #[.string s] 9)).grownBy w2 out.ownBlock) :
    w2.ownsRow wc.heap.size 9 1 v2 (done ++ [s]).length (strv (done ++ [s])) ∧ Below wc.heap.size wc w2 := by
  constructor
  · rw [strv_append, List.length_append]
    exact hown2
  · exact (hb.alloc hb.size _).grown hg (by have := hb.size; simp; omega) (fun k hk => (hown.lt k hk).1)

theorem back_length (first : ByteArray) (L : List ByteArray) : (back first L).length = L.length + 1 := by simp [back]

/-- the texts so far, when so many have been held against each other -/
def Turned {α : Type} (n j : Nat) (xs ys : List α) : Prop := ys.length = n ∧ ∀ i, i < n → ys[i]? = if i < j ∨ n ≤ i + j then xs[n - 1 - i]? else xs[i]?

theorem Turned.zero {α : Type} (xs : List α) : Turned xs.length 0 xs xs := ⟨rfl, fun i hi => by rw [if_neg (by omega)]⟩

theorem Turned.succ {α : Type} {n j : Nat} {xs ys : List α} (h : Turned n j xs ys) (hj : j + j + 1 < n) {a b : α} (ha : ys[j]? = some a) (hb : ys[n - 1 - j]? = some b) : Turned n (j + 1) xs ((ys.set j b).set (n - 1 - j) a) := by
  obtain ⟨h1, h2⟩ := h
  have ea : xs[j]? = some a := by rw [← ha, h2 j (by omega), if_neg (by omega)]
  have eb : xs[n - 1 - j]? = some b := by rw [← hb, h2 _ (by omega), if_neg (by omega)]
  refine ⟨by simp [h1], fun i hi => ?_⟩
  rw [List.getElem?_set, List.getElem?_set, List.length_set, h1]
  by_cases c1 : n - 1 - j = i
  · subst c1
    have e : n - 1 - (n - 1 - j) = j := by omega
    rw [if_pos rfl, if_pos hi, if_pos (by omega), e, ea]
  · rw [if_neg c1]
    by_cases c2 : j = i
    · subst c2
      rw [if_pos rfl, if_pos hi, if_pos (by omega), eb]
    · rw [if_neg c2, h2 i hi]
      by_cases c3 : i < j ∨ n ≤ i + j
      · rw [if_pos c3, if_pos (by omega)]
      · rw [if_neg c3, if_neg (by omega)]

theorem Turned.done {α : Type} {n j : Nat} {xs ys : List α} (h : Turned n j xs ys) (hx : xs.length = n) (hj : n ≤ j + j + 1) : ys = xs.reverse := by
  obtain ⟨h1, h2⟩ := h
  refine List.ext_getElem? fun i => ?_
  rcases Nat.lt_or_ge i n with hi | hi
  · rw [h2 i hi, List.getElem?_reverse (by omega), hx]
    split
    · rfl
    · rw [show n - 1 - i = i by omega]
  · rw [List.getElem?_eq_none (by omega), List.getElem?_eq_none (by simp; omega)]

/-- the row behind an exchange -/
theorem swapped {w : World} {base g cap n j kk : Nat} {done ys : List ByteArray} {a b : ByteArray} (h : Turned n j done ys) (hown : w.ownsRow base 9 1 (.slice (some ⟨g, 0, none⟩) n cap) n (strv ys)) (hj : j + j + 1 < n) (ha : ys[j]? = some a) (hb : ys[kk]? = some b) (hk : kk = n - 1 - j) :
    Turned n (j + 1) done ((ys.set j b).set kk a) ∧ ((w.setCell ⟨g, j, none⟩ (.string b)).setCell ⟨g, kk, none⟩ (.string a)).drew.ownsRow base 9 1 (.slice (some ⟨g, 0, none⟩) n cap) n (strv ((ys.set j b).set kk a)) := by
  subst hk
  refine ⟨h.succ hj ha hb, ?_⟩
  have h1 := ((hown.stored j (.string b)).1.stored (n - 1 - j) (.string a)).1.drew
  simpa [strv, List.map_set] using h1

theorem ren_made (W : World) (f t : ByteArray) : Calls Try.prog 15 #[.string f, .string t] W fun e w' => ∃ c1 c2, e = .returned (.func (.func 20) #[] #[.pointer (some ⟨c1, 0, none⟩), .pointer (some ⟨c2, 0, none⟩)]) ∧ Cls w' c1 c2 f t ∧ Below W.heap.size W w' :=
  (mkRen_any W f t).mono fun e w' ⟨he, hw⟩ => by
    subst hw
    refine ⟨_, _, he, ⟨?_, ?_⟩, ((Below.refl _ _).alloc (Nat.le_refl _) _).alloc (by simp) _⟩
    · rw [Below.heap_alloc _ _ _ (by simp)]
      exact heap_alloc_new W _
    · have := heap_alloc_new (W.alloc (.cells #[.string f] 9)) (.cells #[.string t] 9)
      simpa using this

theorem copy_from {w : World} {c1 c2 q : Nat} {f t : ByteArray} {l : List ByteArray} (h : Chain w (.iface 46 (.pointer (some ⟨q, 0, none⟩))) l) (hc : Cls w c1 c2 f t) :
    Calls Try.prog 39 #[.pointer (some ⟨q, 0, none⟩), .func (.func 20) #[] #[.pointer (some ⟨c1, 0, none⟩), .pointer (some ⟨c2, 0, none⟩)], .func (.func 16) #[] #[]] w fun e w' => ∃ v, e = .returned v ∧ Got f t l w w' v := by
  match l, h with
  | [], h => exact h.elim
  | [_], h => obtain ⟨b, hv, _⟩ := h; simp at hv
  | s :: s2 :: r, h =>
    obtain ⟨q', x, y, hv, hq, hy, hx⟩ := h
    obtain rfl : q = q' := by simpa using hv
    refine (copy_qual hx (copies_chain hc (s2 :: r) x hx) hy hc hq (Below.refl _ _)).mono ?_
    rintro e w' ⟨hb, ⟨h1, rfl⟩ | ⟨h1, v, rfl, h2⟩⟩
    · exact ⟨_, rfl, hb, .inl ⟨h1, rfl⟩⟩
    · exact ⟨_, rfl, hb, .inr ⟨h1, h2⟩⟩

theorem Got.from {f t : ByteArray} {l : List ByteArray} {w w1 w2 : World} {v : Value} (hb : Below w.heap.size w w1) (h : Got f t l w1 w2 v) : Got f t l w w2 v := ⟨hb.trans (h.1.mono hb.size), h.2⟩

set_option maxRecDepth 100000 in
set_option maxHeartbeats 2000000 in
theorem copyScopes_any (w : World) {I : Nat → Prop} (hI : ∀ i, I i → i < w.heap.size) (first : ByteArray) (v : Value) (L : List ByteArray) (f t : ByteArray) (h : SliceOf w I v (strv L)) (hL : L ≠ []) (hn : L.length ≤ 1000) :
    Calls Try.prog 10 #[.string first, v, .string f, .string t] w fun e w' => Below w.heap.size w w' ∧
      ((hits f (back first L) = false ∧ e = .returned (.tuple #[.string ByteArray.empty, .slice none 0 0, .bool false])) ∨
       (hits f (back first L) = true ∧ ∃ v, e = .returned (.tuple #[.string (ren f t first), v, .bool true]) ∧ SliceOf w' (Made w w') v (strv (L.map (ren f t))))) := by
  have hsc : ∀ W, Below w.heap.size w W → Calls Try.prog 14 #[.string first, v] W fun e w' => ∃ q, e = .returned (.iface 46 (.pointer (some ⟨q, 0, none⟩))) ∧ Chain w' (.iface 46 (.pointer (some ⟨q, 0, none⟩))) (back first L) ∧ Below W.heap.size W w' := fun W k =>
    (mkScopes_any W (I := I) (fun i hi => Nat.lt_of_lt_of_le (hI i hi) k.size) first v L (h.same (Same.below k hI))).mono fun e w' ⟨a, he, hch, hb⟩ => by
      cases L with
      | nil => exact absurd rfl hL
      | cons s L =>
        obtain ⟨x, y, r, hxy⟩ := back_two first s L
        rw [hxy] at hch ⊢
        obtain ⟨q, sc, nv, rfl, h2, h3, h4⟩ := hch
        exact ⟨q, he, ⟨q, sc, nv, rfl, h2, h3, h4⟩, hb⟩
  have HS := Lib.hid hsc
  obtain ⟨la, lc, rfl, hl1, hl2, hlr⟩ := h.strs
  clear h hsc hlr hl1 hl2 hI
  go_enter Try.func10, Try.ntmps10
  go_wp2_with fail
  go_cut [11] from 17 to 26 (fun c wx => Got f t (back first L) w wx c)
  case first =>
    have HD := Lib.hid (show Below w.heap.size w w.drew from (Below.refl _ _).drew)
    have hnq := fun a W => nil_qual a W
    have hmq := fun a W => mc_qual a W
    go_region_with (first
      | (go_at_call 14; refine (HS.out _ BR.out).mono ?_; rintro e w2 ⟨q, rfl, hch, hb⟩; have DN := Lib.hid (And.intro hch (And.intro (CL.out.below hb) (BR.out.trans (hb.mono BR.out.size)))); clear hch hb CL BR)
      | (go_at_call 14; refine (HS.out _ HD.out).mono ?_; rintro e w1 ⟨q, rfl, hch, hb⟩; have CH := Lib.hid hch; have BS := Lib.hid (HD.out.trans (hb.mono HD.out.size)); clear hch hb)
      | (go_at_call 15; refine (ren_made _ f t).mono ?_; rintro e w2 ⟨c1, c2, rfl, hcl, hb⟩; have DN := Lib.hid (And.intro (CH.out.below hb) (And.intro hcl (BS.out.trans (hb.mono BS.out.size)))); clear hcl hb CH BS)
      | (go_at_call 15; refine (ren_made _ f t).mono ?_; rintro e w1 ⟨c1, c2, rfl, hcl, hb⟩; have CL := Lib.hid hcl; have BR := Lib.hid (HD.out.trans (hb.mono HD.out.size)); clear hcl hb)
      | (go_at_call 39; refine (copy_from DN.out.1 DN.out.2.1).mono ?_; rintro e w3 ⟨u, rfl, hgot⟩; have GT := Lib.hid (hgot.from DN.out.2.2); clear hgot DN))
    all_goals (go_wp2_with fail; go_meet; exact GT.out)
  case rest =>
    obtain ⟨hb, hres⟩ := hcut
    have HB := Lib.hid hb
    clear hb HS
    rcases hres with ⟨hh, rfl⟩ | ⟨hh, hch⟩
    · have HH := Lib.hid hh
      clear hh
      go_wp2_with fail
      go_ret3
      exact ⟨HB.out, .inl ⟨HH.out, rfl⟩⟩
    · obtain ⟨x, y, r, hxy⟩ : ∃ x y r, (back first L).map (ren f t) = x :: y :: r := by
        cases L with
        | nil => exact absurd rfl hL
        | cons s L =>
          obtain ⟨x, y, r, hxy⟩ := back_two first s L
          exact ⟨_, _, _, by rw [hxy]; rfl⟩
      rw [hxy] at hch
      have hch0 := hch
      obtain ⟨q, sc0, nv0, rfl, _, _, _⟩ := hch
      have hlen : ((back first L).map (ren f t)).length = L.length + 1 := by rw [List.length_map, back_length]
      rw [hxy] at hlen
      have HL := Lib.hid hlen
      have HXY := Lib.hid hxy
      have HH := Lib.hid hh
      have HCH := Lib.hid hch0
      have tqq := fun a W => tq_qual a W
      have tqn := fun a W => tq_name a W
      clear hlen hxy hh hch0 hL
      obtain ⟨i0, hi, hz0, hz1, hz2⟩ := info_parts infoS
      go_wp2_with fail
      go_loopg [11, 12, 13, 14] (r.length + 2) (fun k c out q ok wr => ∃ done rl, rl.length = k ∧ done ++ rl = x :: y :: r ∧ Hid (Chain wc c rl) ∧ Hid (wr.ownsRow wc.heap.size 9 1 out done.length (strv done)) ∧ Hid (Below wc.heap.size wc wr) ∧
        ((rl.length = 1 ∧ ok = .bool false) ∨ (2 ≤ rl.length ∧ ok = .bool true ∧ ∃ b, c = .iface 46 (.pointer (some ⟨b, 0, none⟩)) ∧ q = .pointer (some ⟨b, 0, none⟩))))
      case atStart => exact ⟨[], x :: y :: r, rfl, rfl, HCH.out, World.ownsRow_nil _ _ _ _, Below.refl _ _, .inr ⟨by simp, rfl, _, rfl, rfl⟩⟩
      case round =>
        obtain ⟨done, rl, hk, hdr, hc, hown, hbel, ⟨hrl, rfl⟩ | ⟨hrl, rfl, b, rfl, rfl⟩⟩ := hrel
        · obtain ⟨s1, rfl⟩ : ∃ s1, rl = [s1] := by
            rcases rl with _ | ⟨s, _ | ⟨s2, r2⟩⟩
            · simp at hrl
            · exact ⟨s, rfl⟩
            · simp at hrl
          have hdl : done.length = L.length := by
            have := congrArg List.length hdr
            have h2 := HL.out
            simp only [List.length_append, List.length_cons, List.length_nil] at this h2
            omega
          have hd2 : 0 < L.length := by
            have h2 := HL.out
            simp only [List.length_cons] at h2
            omega
          obtain ⟨g, cap, hov, hg1, hg2⟩ := hown.out.form (by omega)
          subst hov
          have hnm : IsName wr (Old wc) _ s1 := (show IsName wc (Old wc) _ s1 from hc.out).same (Same.below hbel.out fun _ h => h)
          obtain ⟨b3, rfl, hb30, hb3⟩ := hnm
          have HN3 := Lib.hid (And.intro hb30 hb3)
          have hrev : strv (L.map (ren f t)) = (strv done).reverse ∧ s1 = ren f t first := by
            have h1 := HXY.out.trans hdr.symm
            have h0 : (L.reverse.map (ren f t)) ++ [ren f t first] = done ++ [s1] := by
              rw [← h1, back, List.reverse_cons, List.map_append, List.map_cons, List.map_nil]
            obtain ⟨h2, h3⟩ := List.append_inj' h0 rfl
            refine ⟨?_, by simpa using h3.symm⟩
            rw [← h2]
            simp [strv, List.map_reverse]
          have HREV := Lib.hid hrev
          have HO := Lib.hid hown.out
          have HBE := Lib.hid hbel.out
          rw [hdl] at HO
          have hnl : ((L.length : Nat) : Int) - 1 = ((L.length - 1 : Nat) : Int) := by omega
          clear hk hdr hc hown hbel hb3 hb30 hrev hrl tqq tqn
          have e15 : (L.length : Int) ≤ 1000 := by omega
          go_wp2_with fail
          go_loopg [15, 16] (L.length) (fun m i k wr2 => ∃ j kk : Nat, m + j = L.length ∧ kk + j + 1 = L.length ∧ i = .int .i64 j ∧ k = .int .i64 kk ∧ ∃ ys, Hid (Turned L.length j done ys) ∧ Hid (wr2.ownsRow wc.heap.size 9 1 (.slice (some ⟨g, 0, none⟩) L.length cap) L.length (strv ys)) ∧ Hid (Below wc.heap.size wr wr2))
          case atStart => exact ⟨0, L.length - 1, by omega, by omega, rfl, rfl, done, by have h := Turned.zero done; rw [hdl] at h; exact h, HO.out, (Below.refl _ _).mono (by omega)⟩
          case round =>
            obtain ⟨j, kk, hm, hjk, rfl, rfl, ys, hT, hown2, hb2⟩ := hrel
            by_cases hlt : j < kk
            · have hys := hT.out.1
              obtain ⟨a, ha⟩ : ∃ a, ys[j]? = some a := ⟨_, List.getElem?_eq_getElem (by omega)⟩
              obtain ⟨b, hb⟩ : ∃ b, ys[kk]? = some b := ⟨_, List.getElem?_eq_getElem (by omega)⟩
              have ca : wr.cell? ⟨g, j, none⟩ = some (.string a) := by rw [hown2.out.cellAt j (by omega), strv, List.getElem?_map, ha]; rfl
              have cb : wr.cell? ⟨g, kk, none⟩ = some (.string b) := by rw [hown2.out.cellAt kk (by omega), strv, List.getElem?_map, hb]; rfl
              have fa := hown2.out.frozenAt j
              have fb := hown2.out.frozenAt kk
              have i1 : (0 : Int) ≤ (j : Int) := by omega
              have i2 : (j : Int) < (L.length : Int) := by omega
              have i3 : (0 : Int) ≤ (kk : Int) := by omega
              have i4 : (kk : Int) < (L.length : Int) := by omega
              have hlt' : (j : Int) < (kk : Int) := by omega
              go_wp2_with fail
              go_region
              have HST := Lib.hid (swapped hT.out hown2.out (by omega) ha hb (show kk = L.length - 1 - j by omega))
              have HB2 := Lib.hid ((Below.setCell (Below.setCell hb2.out (p := ⟨g, j, none⟩) hg1 (.string b)) (p := ⟨g, kk, none⟩) hg1 (.string a)).drew)
              clear hT hown2 hb2 ha hb ca cb fa fb hys
              go_wp2_with fail
              go_roundg (gk - 1)
              case measure => omega
              case rel => exact ⟨j + 1, kk - 1, by omega, by omega, by go_num, by congr 1; omega, (ys.set j b).set kk a, HST.out.1, HST.out.2, HB2.out⟩
            · have hlt' : ¬ (j : Int) < (kk : Int) := by omega
              have hfin := hT.out.done hdl (by omega)
              subst hfin
              have e2 : strv done.reverse = strv (L.map (ren f t)) := by rw [HREV.out.1]; simp [strv, List.map_reverse]
              rw [e2] at hown2
              have HF := Lib.hid (SliceOf.owned (I := Made w wr) hown2.out (fun i h1 h2 => ⟨Nat.le_trans HB.out.size h1, h2⟩))
              have HB4 := Lib.hid (HB.out.trans ((HBE.out.trans hb2.out).mono HB.out.size))
              have HT := Lib.hid (text_name (I := fun _ => True) wr (.iface 37 (.pointer (some ⟨b3, 0, none⟩))) s1 ⟨b3, rfl, trivial, by rw [hb2.out.block b3 HN3.out.1]; exact HN3.out.2⟩)
              have e1 := HREV.out.2
              clear hT hown2 hb2
              go_wp2_with fail
              refine (HT.out).mono ?_
              rintro e w1 ⟨rfl, rfl⟩
              go_wp2_with fail
              go_ret3
              exact ⟨HB4.out, .inr ⟨HH.out, _, rfl, HF.out⟩⟩
        · obtain ⟨s, s2, r2, rfl⟩ : ∃ s s2 r2, rl = s :: s2 :: r2 := by
            rcases rl with _ | ⟨s, _ | ⟨s2, r2⟩⟩
            · simp at hrl
            · simp at hrl
            · exact ⟨s, s2, r2, rfl⟩
          obtain ⟨b', sc, nv, hv, hq, hn, hx⟩ := hc.out
          obtain rfl : b = b' := by simpa using hv
          obtain ⟨c0, c1, _⟩ := cells_three (w := wr) (by rw [hbel.out.block b (old_lt hq)]; exact hq)
          have hdl : done.length + r2.length + 2 = L.length + 1 := by
            have := congrArg List.length hdr
            have h2 := HL.out
            simp only [List.length_append, List.length_cons] at this h2
            omega
          obtain ⟨b3, rfl, hb3, hnb⟩ := hn
          have HT := Lib.hid (text_name (I := fun _ => True) wr (.iface 37 (.pointer (some ⟨b3, 0, none⟩))) s ⟨b3, rfl, trivial, by rw [hbel.out.block b3 hb3]; exact hnb⟩)
          have HX := Lib.hid hx
          have HQ := Lib.hid hq
          have HDR := Lib.hid (show (done ++ [s]) ++ (s2 :: r2) = x :: y :: r by rw [List.append_assoc]; exact hdr)
          have HWS := Lib.hid hbel.out.size
          have HK := Lib.hid hk
          have HO1 := Lib.hid (hown.out.alloc (.cells #[.string s] 9))
          have HBL := Lib.hid hbel.out
          clear hv hq hnb hdr hk hc hb3 hown hx
          rcases r2 with _ | ⟨s3, r3⟩
          · obtain ⟨b4, hv4, _⟩ := HX.out
            subst hv4
            go_wp2_with (first
              | (go_at_call 17; refine (HT.out).mono ?_; rintro e w1 ⟨rfl, rfl⟩)
              | (at_builtin; refine wpList_append_row rfl _ _ 22 rfl wc.heap.size 9 i0 (.string ByteArray.empty) 16 Try.underlying22 hi hz0 hz1 hz2 rfl _ done.length (strv done) rfl HO1.out (.slice (some ⟨wr.heap.size, 0, none⟩) 1 1) (strv [s]) rfl (I := fun _ => True) (SliceOf.one wr _ _ _ rfl trivial) (strv_one _) ?c1 ?c2 ?c3 ?_
                 rotate_left 3
                 intro v2 w2 hown2 hg2
                 have O2 := Lib.hid (popped HBL.out HO1.out hown2 hg2)
                 have hcw := (cells_three (w := w2) (by rw [O2.out.2.block b (old_lt HQ.out)]; exact HQ.out)).1
                 clear hown2 hg2))
            case c1 => simp [strv, maxLen]; omega
            case c2 => simp [strv]; omega
            case c3 => have := HWS.out; simp; omega
            go_roundg (gk - 1)
            case measure => have := HK.out; simp at this ⊢; omega
            case rel => exact ⟨done ++ [s], [s2], by have := HK.out; simp at this ⊢; omega, HDR.out, HX.out, O2.out.1, O2.out.2, .inl ⟨rfl, rfl⟩⟩
          · obtain ⟨b4, _, _, hv4, _⟩ := HX.out
            subst hv4
            go_wp2_with (first
              | (go_at_call 17; refine (HT.out).mono ?_; rintro e w1 ⟨rfl, rfl⟩)
              | (at_builtin; refine wpList_append_row rfl _ _ 22 rfl wc.heap.size 9 i0 (.string ByteArray.empty) 16 Try.underlying22 hi hz0 hz1 hz2 rfl _ done.length (strv done) rfl HO1.out (.slice (some ⟨wr.heap.size, 0, none⟩) 1 1) (strv [s]) rfl (I := fun _ => True) (SliceOf.one wr _ _ _ rfl trivial) (strv_one _) ?d1 ?d2 ?d3 ?_
                 rotate_left 3
                 intro v2 w2 hown2 hg2
                 have O2 := Lib.hid (popped HBL.out HO1.out hown2 hg2)
                 have hcw := (cells_three (w := w2) (by rw [O2.out.2.block b (old_lt HQ.out)]; exact HQ.out)).1
                 clear hown2 hg2))
            case d1 => simp [strv, maxLen]; omega
            case d2 => simp [strv]; omega
            case d3 => have := HWS.out; simp; omega
            go_roundg (gk - 1)
            case measure => have := HK.out; simp at this ⊢; omega
            case rel => exact ⟨done ++ [s], s2 :: s3 :: r3, by have := HK.out; simp at this ⊢; omega, HDR.out, HX.out, O2.out.1, O2.out.2, .inr ⟨by simp, rfl, _, rfl, rfl⟩⟩

end Go.Proofs.Ytnhccgbkalpcnaa
