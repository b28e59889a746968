/- FnSmallPack returns true, whatever it is given. -/
import Derived.Test.YtcobcgkeojeagaaTText
namespace Go.Proofs.Ytcobcgkeojeagaa
open Go.RowKit

theorem as_pack (a : Addr) (w : World) : (Instr.typeAssert (.iface 58 (.pointer (some a))) 47 58 true).run Try.prog w = .ok (.tuple #[.pointer (some a), .bool true]) w := by kernel_rfl

set_option maxRecDepth 100000 in
set_option maxHeartbeats 1000000 in
/-- a pack is empty where it has no elements -/
theorem empt_pack {b q : Nat} {w0 : World} {sv : Value} {vs : List Value} (hq : q < b) (hc : w0.heap[q]? = some (Obj.cells #[sv] 62 (0, 0))) (hsv : SliceOf w0 (Low b) sv vs)
    (hvs : ∀ u ∈ vs, ∃ T q, u = .iface T (.pointer (some ⟨q, 0, none⟩)) ∧ NoPack T) : Empt b w0 (.iface 58 (.pointer (some ⟨q, 0, none⟩))) vs.isEmpty := by
  intro w hs
  have has := as_pack
  have c0 : w.cell? ⟨q, 0, none⟩ = some sv := cell_at ((hs q hq).trans hc) rfl
  obtain ⟨la, lc, rfl, hl1, hl2, hlr⟩ := (hsv.same hs).lay
  have HV := Lib.hid hvs
  clear hc hsv hvs hs
  match vs, HV with
  | [], _ =>
    clear hlr
    go_enter Try.func90, Try.ntmps90
    go_wp2_with fail
    go_loopg [20] 0 (fun k i wr => w = wr ∧ i = .int .i64 0)
    case atStart => exact ⟨rfl, rfl⟩
    case round =>
      obtain ⟨rfl, rfl⟩ := hrel
      have hd0 : decide ((0 : Int) < 0) = false := by decide
      go_wp2_with fail
      go_ret
      exact ⟨rfl, rfl⟩
  | u :: vs, HV =>
    obtain ⟨T, p, hu, hT⟩ := HV.out u (by simp)
    obtain ⟨pb, off, rfl, _, hcell⟩ := hlr.resolve_left (by simp)
    have hcu := hcell 0 u rfl
    subst hu
    rw [Nat.add_zero] at hcu
    have HE := Lib.hid (empt_no b w hT p w (Same.refl _ _))
    have HN := Lib.hid (show 0 < vs.length + 1 by omega)
    clear hcell HV hT
    go_enter Try.func90, Try.ntmps90
    go_wp2_with fail
    go_loopg [20] 0 (fun k i wr => w = wr ∧ i = .int .i64 0)
    case atStart => exact ⟨rfl, rfl⟩
    case round =>
      obtain ⟨rfl, rfl⟩ := hrel
      have hd0 : decide ((0 : Int) < (vs.length : Int) + 1) = true := by simp
      go_wp2_with fail
      refine (HE.out).mono ?_
      rintro e w1 ⟨rfl, rfl⟩
      go_wp2_with fail
      go_ret
      exact ⟨rfl, rfl⟩

theorem printer_pack : Printer 58 95 := ⟨ptrTy_of (by kernel_rfl), fun _ _ => by kernel_rfl, fun _ _ => by kernel_rfl⟩

/-- an element and what it is printed to -/
structure Piece where
  v : Value
  o : List UInt8

theorem joinC_take (l : List Piece) {j : Nat} (h : j < l.length) : joinC ((l.take (j + 1)).map (·.o)) = joinC ((l.take j).map (·.o)) ++ (if 0 < j then [44, 32] else []) ++ l[j].o := by
  rw [List.take_succ_eq_append_getElem h, List.map_append]
  rcases Nat.eq_zero_or_pos j with h0 | h0
  · subst h0
    simp [joinC]
  · rw [if_pos h0]
    have hne : (l.take j).map (·.o) ≠ [] := by
      intro e
      have h2 : ((l.take j).map (·.o)).length = j := by rw [List.length_map, List.length_take]; omega
      rw [e] at h2
      simp at h2
      omega
    exact joinC_snoc _ _ hne

theorem joinC_take_le (l : List Piece) (j : Nat) (h : j ≤ l.length) : (joinC ((l.take j).map (·.o))).length ≤ (joinC (l.map (·.o))).length := by
  obtain ⟨k, hk⟩ : ∃ k, l.length = j + k := ⟨l.length - j, by omega⟩
  induction k generalizing j with
  | zero => rw [List.take_of_length_le (by omega)]; exact Nat.le_refl _
  | succ k ih =>
    refine Nat.le_trans ?_ (ih (j + 1) (by omega) (by omega))
    rw [joinC_take l (show j < l.length by omega)]
    simp only [List.length_append]
    omega

set_option maxRecDepth 100000 in
set_option maxHeartbeats 2000000 in
theorem body_pack {G : Value → List Value → Prop} {b q d : Nat} {w0 : World} {sv : Value} {its : List Piece} (hq : q < b) (hc : w0.heap[q]? = some (Obj.cells #[sv] 62 (0, 0)))
    (hits : ∀ it ∈ its, Prints G b w0 d it.v it.o ∧ blkOf it.v < q) (hsv : SliceOf w0 (Low b) sv (its.map (·.v))) :
    Body G b w0 d q 95 (joinC (its.map (·.o))) := by
  intro w sc last text iv inn pr hs h hG hd hpr hlen
  have hcw := (hs q hq).trans hc
  have c0 : w.cell? ⟨q, 0, none⟩ = some sv := cell_at hcw rfl
  obtain ⟨la, lc, rfl, hl1, hl2, hlr⟩ := hsv.lay
  rw [List.length_map] at hl1 c0
  have HR := Lib.hid hlr
  have HH := Lib.hid (And.intro hits (And.intro hs (And.intro hpr (And.intro h hG))))
  have hnl : ((its.length : Int)) ≤ 9223372036854775807 := by omega
  clear h hs hcw hc hits hsv hlr hl1 hl2 hpr hG
  go_enter Try.func95, Try.ntmps95
  go_wp2_with fail
  go_loopg [11] (its.length) (fun k i wr => ∃ j : Nat, j + k = its.length ∧ i = .int .i64 j ∧
    Hid (PSt b sc (lastOf last (joinC ((its.take j).map (·.o)))) (text ++ joinC ((its.take j).map (·.o))) iv inn pr wr) ∧ Hid (Kept b w wr))
  case atStart =>
    refine ⟨0, by omega, rfl, ?_, Kept.refl b w⟩
    show PSt _ _ _ _ _ _ _ _
    simpa [joinC, lastOf] using HH.out.2.2.2.1
  case round =>
    obtain ⟨j, hj, rfl, hps, hkp⟩ := hrel
    by_cases hlt : j < its.length
    · obtain ⟨hits, hs, hpr, _, hG⟩ := HH.out
      have hsr := hkp.out.same hs
      have hget : (its.map (·.v))[j]? = some its[j].v := by simp [hlt]
      rcases HR.out with hnil | ⟨pb, off, rfl, hpb, hcell⟩
      · simp at hnil; subst hnil; simp at hlt
      have hc1 : wr.cell? ⟨pb, off + j, none⟩ = some its[j].v := by
        rw [World.cell?_of_block (w := w0) (hsr pb hpb)]
        exact hcell j _ hget
      obtain ⟨hprn, hbk⟩ := hits its[j] (List.getElem_mem hlt)
      have HSN := Lib.hid (joinC_take its hlt)
      have HLE := Lib.hid (joinC_take_le its (j + 1) (by omega))
      obtain ⟨T, p, hv⟩ : ∃ T p, its[j].v = .iface T (.pointer (some ⟨p, 0, none⟩)) := by obtain ⟨T, f, q, _, _, _, hv, _⟩ := hprn; exact ⟨T, q, hv⟩
      have HP := Lib.hid (And.intro hprn (And.intro hbk (And.intro hsr (And.intro hpr hG))))
      rw [hv] at hc1
      have HV := Lib.hid hv
      clear hits hs hpr hsr hget hcell hprn hpb hbk hG hv
      by_cases hj0 : 0 < j
      · have hfix : joinC ((its.take (j + 1)).map (·.o)) = joinC ((its.take j).map (·.o)) ++ [44, 32] ++ its[j].o := by rw [HSN.out, if_pos hj0]
        have HFX := Lib.hid hfix
        have hle : (joinC ((its.take j).map (·.o))).length + 2 + its[j].o.length ≤ (joinC (its.map (·.o))).length := by
          have := HLE.out
          rw [hfix] at this
          simp only [List.length_append, List.length_cons, List.length_nil] at this
          omega
        have W2 := Lib.hid (writeString_any hps.out ⟨#[44, 32]⟩ (by simp only [List.length_append]; show _ + _ + 2 ≤ _; omega))
        clear hfix
        go_wp2_with fail
        refine (W2.out).mono ?_
        rintro e w2 ⟨rfl, h2, k2⟩
        obtain ⟨hprn, hbk, _, hpr, hG⟩ := HP.out
        obtain ⟨_, hs, _⟩ := HH.out
        have k12 := hkp.out.trans k2
        have P := Lib.hid (hprn.call _ sc _ _ _ inn pr (k12.same hs) h2 hG hd (fun u hu => ⟨(hpr u hu).1.same (fun i hi => k12.low i hi), Nat.lt_of_lt_of_le hbk (hpr u hu).2⟩) (by simp only [List.length_append]; show _ + _ + 2 + _ ≤ _; omega))
        rw [HV.out] at P
        have K12 := Lib.hid k12
        clear hs hpr hle h2 k2 k12 hprn hbk hG
        go_wp2_with fail
        refine (P.out).mono ?_
        rintro e w3 ⟨rfl, h3, k3⟩
        rw [lastOf_append, lastOf_append, List.append_assoc, List.append_assoc, ← List.append_assoc (joinC _), ← HFX.out] at h3
        have H3 := Lib.hid h3
        have K3 := Lib.hid (K12.out.trans k3)
        clear h3 k3
        go_wp2_with fail
        go_roundg (gk - 1)
        case measure => omega
        case rel => exact ⟨j + 1, by omega, by go_num, H3.out, K3.out⟩
      · obtain rfl : j = 0 := by omega
        rw [Nat.add_zero] at hc1
        have hfix : joinC ((its.take (0 + 1)).map (·.o)) = its[0].o := by rw [HSN.out, if_neg hj0]; simp [joinC]
        have HFX := Lib.hid hfix
        have hle : its[0].o.length ≤ (joinC (its.map (·.o))).length := by have := HLE.out; rw [hfix] at this; exact this
        obtain ⟨hprn, hbk, _, hpr, hG⟩ := HP.out
        obtain ⟨_, hs, _⟩ := HH.out
        have P := Lib.hid (hprn.call _ sc last text _ inn pr (hkp.out.same hs) (by have h := hps.out; simpa [joinC, lastOf] using h) hG hd (fun u hu => ⟨(hpr u hu).1.same (fun i hi => hkp.out.low i hi), Nat.lt_of_lt_of_le hbk (hpr u hu).2⟩) (by omega))
        rw [HV.out] at P
        clear hs hpr hfix hle hprn hbk hG
        go_wp2_with fail
        refine (P.out).mono ?_
        rintro e w3 ⟨rfl, h3, k3⟩
        have H3 := Lib.hid h3
        have K3 := Lib.hid (hkp.out.trans k3)
        clear h3 k3
        go_wp2_with fail
        go_roundg (gk - 1)
        case measure => omega
        case rel => exact ⟨1, by omega, by go_num, by show PSt _ _ _ _ _ _ _ _; rw [HFX.out]; exact H3.out, K3.out⟩
    · have hj' : j = its.length := by omega
      have HJ := Lib.hid hj'
      clear hj'
      go_wp2_with fail
      go_end0
      have h5 := hps.out
      rw [HJ.out, List.take_length] at h5
      exact ⟨rfl, h5, hkp.out⟩

theorem names_pieces {b : Nat} {w0 : World} {I : Nat → Prop} (G : Value → List Value → Prop) (hI : ∀ i, I i → i < b) : ∀ {vs : List Value} {A : List ByteArray}, Names w0 I vs A →
    ∃ its : List Piece, its.map (·.v) = vs ∧ its.map (·.o) = A.map (fun s => s.data.toList) ∧ ∀ it ∈ its, Prints G b w0 1 it.v it.o ∧ I (blkOf it.v)
  | [], [], _ => ⟨[], rfl, rfl, fun _ h => (by cases h)⟩
  | v :: vs, s :: A, ⟨h, r⟩ => by
    obtain ⟨its, h1, h2, h3⟩ := names_pieces G hI r
    refine ⟨⟨v, s.data.toList⟩ :: its, by simp [h1], by simp [h2], ?_⟩
    intro it hit
    rcases List.mem_cons.1 hit with rfl | hit
    · exact ⟨prints_name G h (hI _ h.at), h.at⟩
    · exact h3 it hit
  | [], _ :: _, h => h.elim
  | _ :: _, [], h => h.elim

theorem Names.noPack {w : World} {I : Nat → Prop} {vs : List Value} {A : List ByteArray} (h : Names w I vs A) : ∀ u ∈ vs, ∃ T q, u = .iface T (.pointer (some ⟨q, 0, none⟩)) ∧ NoPack T := by
  intro u hu
  obtain ⟨s, q, rfl, _⟩ := h.all u hu
  exact ⟨_, _, rfl, noPack_name⟩

theorem outs_pack (v : Value) (A : List ByteArray) : joinC (outs [⟨v, A.isEmpty, jb A⟩]) = jb A := by
  cases A with
  | nil => rfl
  | cons a r => simp [outs, joinC]

/-- the Template of a pack, made last -/
theorem pack_made {w w2 : World} {s : ByteArray} {v2 : Value} {vs : List Value} {A : List ByteArray} (hw : w.heap.size + 1 ≤ w2.heap.size) (hn0 : w2.heap[w.heap.size]? = some (Obj.cells #[.string s] 91 (0, 0)))
    (hs2 : SliceOf w2 (fun i => w.heap.size + 1 ≤ i ∧ i < w2.heap.size) v2 vs) (hn2 : Names w2 (fun i => w.heap.size + 1 ≤ i ∧ i < w2.heap.size) vs A) (hne : s.size ≠ 0) :
    let W := ((w2.alloc (.cells #[v2] 62)).alloc (.cells #[.iface 58 (.pointer (some ⟨w2.heap.size, 0, none⟩))] 47)).alloc
      (.cells #[.iface 89 (.pointer (some ⟨w.heap.size, 0, none⟩)), .slice (some ⟨w2.heap.size + 1, 0, none⟩) 1 1] 64)
    Prints Bare W.heap.size W 3 (.iface 57 (.pointer (some ⟨w2.heap.size + 1 + 1, 0, none⟩))) (tcOut s.data.toList (jb A)) := by
  intro W
  have hsz : W.heap.size = w2.heap.size + 3 := by simp [W]
  have k : Same (fun i => i < w2.heap.size) w2 W := Same.below (B := w2.heap.size) ((((Below.refl _ _).alloc (Nat.le_refl _) _).alloc (by simp) _).alloc (by simp; omega) _) fun i hi => hi
  have hs3 : SliceOf W (Low W.heap.size) v2 vs := (hs2.same (k.mono fun i hi => hi.2)).mono fun i hi => by show i < W.heap.size; omega
  have hn3 : Names W (fun i => w.heap.size + 1 ≤ i ∧ i < w2.heap.size) vs A := hn2.same (k.mono fun i hi => hi.2)
  have hp : W.heap[w2.heap.size]? = some (Obj.cells #[v2] 62 (0, 0)) := by
    rw [Below.heap_alloc _ _ _ (by simp; omega), Below.heap_alloc _ _ _ (by simp)]
    exact heap_alloc_new w2 _
  have ht : W.heap[w2.heap.size + 1 + 1]? = some (Obj.cells #[.iface 89 (.pointer (some ⟨w.heap.size, 0, none⟩)), .slice (some ⟨w2.heap.size + 1, 0, none⟩) 1 1] 64 (0, 0)) := by
    have h := heap_alloc_new ((w2.alloc (.cells #[v2] 62)).alloc (.cells #[.iface 58 (.pointer (some ⟨w2.heap.size, 0, none⟩))] 47)) (.cells #[.iface 89 (.pointer (some ⟨w.heap.size, 0, none⟩)), .slice (some ⟨w2.heap.size + 1, 0, none⟩) 1 1] 64)
    simpa [W] using h
  have hsl : SliceOf W (Low W.heap.size) (.slice (some ⟨w2.heap.size + 1, 0, none⟩) 1 1) [.iface 58 (.pointer (some ⟨w2.heap.size, 0, none⟩))] := by
    have h := SliceOf.one (w2.alloc (.cells #[v2] 62)) (fun i => i = w2.heap.size + 1) (.iface 58 (.pointer (some ⟨w2.heap.size, 0, none⟩))) 47 (b := w2.heap.size + 1) (by simp) rfl
    refine (h.same ?_).mono fun i hi => by show i < W.heap.size; omega
    exact Same.below (B := w2.heap.size + 2) ((Below.refl _ _).alloc (by simp) _) fun i hi => by omega
  have hname : IsName W (fun i => i = w.heap.size) (.iface 89 (.pointer (some ⟨w.heap.size, 0, none⟩))) s := ⟨_, rfl, rfl, by rw [k _ (by show w.heap.size < w2.heap.size; omega)]; exact hn0⟩
  obtain ⟨its, h1, h2, h3⟩ := names_pieces Bare (b := W.heap.size) (fun i hi => by omega) hn3
  have hpk := prints_of (G := Bare) printer_pack hp (by omega) (body_pack (G := Bare) (d := 1) (its := its) (by omega) hp (fun it hit => ⟨(h3 it hit).1, (h3 it hit).2.2⟩) (by rw [h1]; exact hs3))
  have hem := empt_pack (b := W.heap.size) (by omega) hp hs3 hn3.noPack
  have hemp : vs.isEmpty = A.isEmpty := by
    have := hn3.length
    cases vs <;> cases A <;> simp_all
  rw [hemp] at hem
  rw [h2] at hpk
  have ho : s.data.toList ≠ [] := by
    intro e
    exact hne (by rw [← ba_size, e]; rfl)
  have hbody := body_tmpl (b := W.heap.size) (q := w2.heap.size + 1 + 1) (d := 2) (its := [⟨.iface 58 (.pointer (some ⟨w2.heap.size, 0, none⟩)), A.isEmpty, jb A⟩]) (by omega) ht ((prints_name Bare hname (by show w.heap.size < _; omega)).more (by omega)) ho (by show w.heap.size < _; omega)
    (fun it hit => by simp at hit; subst hit; exact ⟨hem, fun _ => hpk, _, _, rfl⟩) (fun it hit _ => by simp at hit; subst hit; show w2.heap.size < _; omega) hsl
  rw [outs_pack] at hbody
  exact prints_of printer_tmpl ht (by omega) hbody

set_option maxRecDepth 100000 in
set_option maxHeartbeats 1000000 in
theorem printPack_any (w : World) {I : Nat → Prop} (hI : ∀ i, I i → i < w.heap.size) (s : ByteArray) (v : Value) (A : List ByteArray) (h : SliceOf w I v (strv A)) (hA : A.length ≤ 1000) (hs : s.size ≤ 2147483647) (hne : s.size ≠ 0) (hel : elFit A) :
    Calls Try.prog 19 #[.string s, v] w fun e w' => e = .returned (.string ⟨(tcOut s.data.toList (jb A)).toArray⟩) ∧ Below w.heap.size w w' := by
  have HN := Lib.hid (names_any (w.alloc (.cells #[.string s] 91)) (I := I) (fun i hi => by have := hI i hi; simp; omega) v A (h.same (Same.below ((Below.refl w.heap.size w).alloc (Nat.le_refl _) _) hI)) (by omega))
  have hz := jb_size A A.length hel hA
  rw [List.take_length] at hz
  have HZ := Lib.hid (show (tcOut s.data.toList (jb A)).length ≤ 9000000000000 by have := tcOut_le s.data.toList (jb A); rw [ba_size] at this; omega)
  have HE := Lib.hid hne
  obtain ⟨a1, c1, rfl, _⟩ := h.strs
  clear hI h hz hne
  go_enter Try.func19, Try.ntmps19
  go_wp2_with fail
  refine (name_any _ _).mono ?_
  rintro e w1 ⟨rfl, rfl⟩
  go_wp2_with fail
  refine (HN.out).mono ?_
  rintro e w2 ⟨v2, vs, rfl, hs2, hn2, hb2⟩
  have hsz := hb2.size
  simp at hsz
  have hn0 : w2.heap[w.heap.size]? = some (Obj.cells #[.string s] 91 (0, 0)) := by
    rw [hb2.block _ (by simp)]
    exact heap_alloc_new w _
  have hp := pack_made hsz hn0 (hs2.mono fun i hi => ⟨by have := hi.1; simpa using this, hi.2⟩) (hn2.mono fun i hi => ⟨by have := hi.1; simpa using this, hi.2⟩) HE.out
  have HT := Lib.hid (toString_any (G := Bare) ⟨rfl, rfl⟩ hp (by omega) (by have := HZ.out; omega))
  have hb3 : Below w.heap.size w w2 := ((Below.refl w.heap.size w).alloc (Nat.le_refl _) _).trans (hb2.mono (by simp))
  have HB := Lib.hid ((((hb3.alloc (by omega) (.cells #[v2] 62)).alloc (by simp; omega) (.cells #[.iface 58 (.pointer (some ⟨w2.heap.size, 0, none⟩))] 47))).alloc (by simp; omega)
      (.cells #[.iface 89 (.pointer (some ⟨w.heap.size, 0, none⟩)), .slice (some ⟨w2.heap.size + 1, 0, none⟩) 1 1] 64))
  obtain ⟨a2, c2, rfl, _⟩ := hs2.lay
  clear hs2 hn2 hb2 hn0 hp hb3 HN
  go_wp2_with fail
  refine (HT.out).mono ?_
  rintro e w3 ⟨rfl, b3⟩
  have HX := Lib.hid (HB.out.trans (b3.mono HB.out.size))
  clear b3
  go_wp2_with fail
  go_ret
  exact ⟨rfl, HX.out⟩

theorem tc_ba2 (s t : ByteArray) (A : List ByteArray) {r : ByteArray} (ht : t.data.toList = jb A) (h : r.data.toList = tcOut s.data.toList t.data.toList) : (⟨(tcOut s.data.toList (jb A)).toArray⟩ : ByteArray) = r := by
  apply ba_ext
  rw [h, ht]

set_option maxRecDepth 100000 in
set_option maxHeartbeats 2000000 in
theorem packLaw (w : World) (s : ByteArray) (v : Value) (A : List ByteArray) (h : SliceOf w (Old w) v (strv A)) :
    Calls Try.prog 6 #[.string s, v] w fun e w' => e = .returned (.bool true) ∧ Below w.heap.size w w' := by
  have HF := Lib.hid (fits_any v A w h)
  obtain ⟨la, lc, rfl, _⟩ := h.strs
  by_cases g1 : 2147483647 < s.size
  · clear h
    go_enter Try.func6, Try.ntmps6
    go_wp2_with fail
    go_ret
    exact ⟨rfl, Below.refl _ _⟩
  · rcases Bool.eq_false_or_eq_true (fitsB A) with f1 | f1
    · have HS := Lib.hid (smList_any (.slice la A.length lc) A w h (fitsB_el f1))
      have F1 := Lib.hid (fitsB_el f1)
      have HH := Lib.hid h
      clear h
      go_enter Try.func6, Try.ntmps6
      go_wp2_with fail
      refine (HF.out).mono ?_
      rintro e w' ⟨rfl, rfl⟩
      go_wp2_with fail
      clear f1
      refine (HS.out).mono ?_
      rintro e w4 ⟨rfl, ⟨ok, t1, ht1, rfl⟩ | ⟨no, rfl⟩⟩
      · have OK1 := Lib.hid (listOk_get ok)
        have HT1 := Lib.hid ht1
        clear ok ht1
        by_cases h0 : s.size = 0
        · obtain rfl := empty_eq h0
          clear h0
          go_wp2_with fail
          go_ret
          exact ⟨rfl, Below.refl _ _⟩
        · have hbe := beq_empty h0
          have HP := Lib.hid (printPack_any w (I := Old w) (fun _ h => h) s (.slice la A.length lc) A HH.out OK1.out.1 (by omega) h0 F1.out)
          have hz : t1.size ≤ 30000000000000 := by
            have := jb_size A A.length F1.out OK1.out.1
            rw [List.take_length, ← HT1.out, ba_size] at this
            omega
          clear h0
          go_wp2_with fail
          refine (HP.out).mono ?_
          rintro e w5 ⟨rfl, b5⟩
          have HCl := Lib.hid (closed_any s t1 w5 (by omega) hz)
          have B5 := Lib.hid b5
          clear b5 HP hz
          go_wp2_with fail
          refine (HCl.out).mono ?_
          rintro e w6 ⟨rfl, r, hr, rfl⟩
          rw [tc_ba2 s t1 A HT1.out hr]
          clear hr HCl
          go_wp2_with fail
          go_ret
          exact ⟨rfl, B5.out⟩
      · clear no
        go_wp2_with fail
        go_ret
        exact ⟨rfl, Below.refl _ _⟩
    · clear h
      go_enter Try.func6, Try.ntmps6
      go_wp2_with fail
      refine (HF.out).mono ?_
      rintro e w' ⟨rfl, rfl⟩
      go_wp2_with fail
      go_ret
      exact ⟨rfl, Below.refl _ _⟩

end Go.Proofs.Ytcobcgkeojeagaa
