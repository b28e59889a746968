/- spec.Same: exact. -/
import Derived.Test.YtnhccgbkalpcnaaGreatDoorRet
import Derived.StillTailTactics
import Derived.BigQuiet
namespace Go.Proofs.YtnhccgbkalpcnaaGreatDoor
open Go.RowKit

/-- the truth of P -/
def Tells (P : Prop) (e : Ending) : Prop := ∃ r : Bool, e = .returned (.bool r) ∧ (r = true ↔ P)

/-- a tree in a world -/
def In (w : World) (t : Tree) (v : Value) : Prop := IsT w (fun i => i < w.heap.size) t v

theorem In.on {w w' : World} {t : Tree} {v : Value} (h : In w t v) (hb : Below w.heap.size w w') : In w' t v :=
  (IsT.same (Same.below hb (fun _ h => h)) h).mono fun _ h => Nat.lt_of_lt_of_le h hb.size
theorem At.in_ {W0 w : World} {t : Tree} {v : Value} (h : At W0 t v) (hw : Later W0 w) : In w t v :=
  (IsT.same (Same.below hw.below (fun _ h => h)) h).mono fun _ h => Nat.lt_of_lt_of_le h hw.below.size

/-- laid open, for all later worlds -/
theorem In.lay {w : World} {t : Tree} {v : Value} (h : In w t v) : ∃ a c, v = val t a c ∧ t.kids.length ≤ c ∧ c ≤ 9223372036854775807 ∧
    (t.kids = [] ∨ ∃ b off, a = some ⟨b, off, none⟩ ∧ ∀ i (h : i < t.kids.length), ∃ ka kc, (∀ w', Below w.heap.size w w' → Kid w' b (off + i * 4) t.kids[i] ka kc) ∧ In w t.kids[i] (val t.kids[i] ka kc)) := by
  obtain ⟨a, c, rfl, h1, h2, h3⟩ := IsT.lay h
  refine ⟨a, c, rfl, h1, h2, h3.imp id ?_⟩
  rintro ⟨b, off, ha, hb, hk⟩
  refine ⟨b, off, ha, fun i hi => ?_⟩
  obtain ⟨ka, kc, c0, c1, c2, c3, hr⟩ := hk i hi
  refine ⟨ka, kc, fun w' hw => ?_, hr⟩
  have e : ∀ o, w'.cell? ⟨b, o, none⟩ = w.cell? ⟨b, o, none⟩ := fun o => hw.cell (p := ⟨b, o, none⟩) hb
  exact ⟨by rw [e]; exact c0, by rw [e]; exact c1, by rw [e]; exact c2, by rw [e]; exact c3⟩

theorem In.open {w : World} {k x : ByteArray} {n : Int} {ks : List Tree} {v : Value} (h : In w (.node k x n ks) v) : ∃ a c, v = .agg #[.string k, .string x, .int .i64 n, .slice a ks.length c] ∧ ks.length ≤ c ∧ c ≤ 9223372036854775807 ∧
    (ks = [] ∨ ∃ b off, a = some ⟨b, off, none⟩ ∧ ∀ i (h : i < ks.length), ∃ ka kc, (∀ w', Below w.heap.size w w' → Kid w' b (off + i * 4) ks[i] ka kc) ∧ In w ks[i] (val ks[i] ka kc)) := h.lay

theorem tells_no {P : Prop} {e : Ending} (h : e = .returned (.bool false)) (hn : ¬ P) : Tells P e := ⟨false, h, by simp [hn]⟩
theorem tells_yes {P : Prop} {e : Ending} (h : e = .returned (.bool true)) (hn : P) : Tells P e := ⟨true, h, by simp [hn]⟩
theorem ne_str {a b : ByteArray} (h : a ≠ b) : (a.toList == b.toList) = false := by
  apply beq_eq_false_iff_ne.2
  intro e
  apply h
  cases a with
  | mk a =>
    cases b with
    | mk b =>
      simp only [ByteArray.toList_eq] at e
      rw [Array.ext' e]
theorem take_eq {l m : List Tree} {j : Nat} (h : l.take j = m.take j) (h1 : j < l.length) (h2 : j < m.length) (he : l[j] = m[j]) : l.take (j + 1) = m.take (j + 1) := by
  rw [List.take_succ_eq_append_getElem h1, List.take_succ_eq_append_getElem h2, h, he]

/-- two boxes, later -/
theorem box2_at {w w' : World} {a b c d a' b' c' d' : Value} {t : TypeId} (hb : Below (w.heap.size + 2) ((w.alloc (.cells #[a, b, c, d] t)).alloc (.cells #[a', b', c', d'] t)) w') :
    Below w.heap.size w w' ∧ w'.cell? ⟨w.heap.size, 3, none⟩ = some d ∧ w'.cell? ⟨w.heap.size + 1, 3, none⟩ = some d' := by
  have h0 : w'.heap[w.heap.size]? = some (.cells #[a, b, c, d] t (0, 0)) := by
    rw [hb.block _ (by omega), (box_below (w.alloc (.cells #[a, b, c, d] t)) _).block _ (by simp)]
    exact heap_alloc_new w _
  have h1 : w'.heap[w.heap.size + 1]? = some (.cells #[a', b', c', d'] t (0, 0)) := by
    rw [hb.block _ (by omega)]
    have := heap_alloc_new (w.alloc (.cells #[a, b, c, d] t)) (.cells #[a', b', c', d'] t)
    simpa using this
  exact ⟨(((box_below w _).trans ((box_below _ _).mono (by simp)))).trans (hb.mono (by omega)), by simp [World.cell?, h0], by simp [World.cell?, h1]⟩

theorem In.ofKid {w w' : World} {k : Tree} {ka : Option Addr} {kc : Nat} (h : In w k (val k ka kc)) (hb : Below w.heap.size w w') : In w' k (val k ka kc) := h.on hb

set_option maxRecDepth 100000 in
set_option maxHeartbeats 4000000 in
theorem same_tells (w : World) (s t : Tree) (vs vt : Value) (hs : In w s vs) (ht : In w t vt) : Calls Tryz.prog 15 #[vs, vt] w fun e w' => Tells (s = t) e ∧ Below w.heap.size w w' := by
  induction hm : s.sz using Nat.strongRecOn generalizing s t vs vt w with
  | ind m ih =>
  obtain ⟨k, x, n, ks⟩ := s
  obtain ⟨k', x', n', ks'⟩ := t
  obtain ⟨a, c, rfl, hc1, hc2, hk⟩ := hs.open
  obtain ⟨a', c', rfl, hd1, hd2, hk'⟩ := ht.open
  have HB := Lib.hid (fun (o p : Obj) => (box_below w o).trans ((box_below (w.alloc o) p).mono (by simp)))
  by_cases h1 : k = k'
  · subst h1
    by_cases h2 : x = x'
    · subst h2
      by_cases h3 : n = n'
      · subst h3
        by_cases h4 : ks.length = ks'.length
        · have IH := Lib.hid (fun (p q : Tree) (vp vq : Value) (W : World) (hp : p ∈ ks) (h1 : In W p vp) (h2 : In W q vq) => ih p.sz (by rw [← hm]; exact Tree.sz_lt (t := .node k x n ks) hp) W p q vp vq h1 h2 rfl)
          have HK := Lib.hid hk
          have HK' := Lib.hid hk'
          have HL := Lib.hid h4
          have hnl : (ks.length : Int) ≤ 9223372036854775807 := by omega
          rw [← h4] at hd1 ⊢
          clear hk hk' ih hs ht hm h4
          go_enter Tryz.func15, Tryz.ntmps15
          go_wp2_with fail
          go_loopg [37] (ks.length) (fun k' i wr => ∃ j : Nat, j + k' = ks.length ∧ i = .int .i64 j ∧ Hid (ks.take j = ks'.take j) ∧ Hid (Below (w.heap.size + 2) ((w.alloc (.cells #[.string k, .string x, .int .i64 n, .slice a ks.length c] 24)).alloc (.cells #[.string k, .string x, .int .i64 n, .slice a' ks.length c'] 24)) wr))
          case atStart => exact ⟨0, by omega, rfl, Lib.hid rfl, Lib.hid (Below.refl _ _)⟩
          case round =>
            obtain ⟨j, hj, rfl, hg, hb⟩ := hrel
            obtain ⟨Bw, y0, y1⟩ := box2_at hb.out
            by_cases hlt : j < ks.length
            · have hlt' : j < ks'.length := by rw [← HL.out]; exact hlt
              obtain ⟨b, off, rfl, hk⟩ := HK.out.resolve_left (by intro e; subst e; simp at hlt)
              obtain ⟨b', off', rfl, hk'⟩ := HK'.out.resolve_left (by intro e; subst e; simp at hlt')
              obtain ⟨ka, kc, hkid, hat⟩ := hk j hlt
              obtain ⟨ka', kc', hkid', hat'⟩ := hk' j hlt'
              obtain ⟨p0, p1, p2, p3⟩ := hkid wr Bw
              obtain ⟨q0, q1, q2, q3⟩ := hkid' wr Bw
              have IS := Lib.hid (fun W (hB : Below w.heap.size w W) => IH.out ks[j] ks'[j] _ _ W (List.getElem_mem hlt) (hat.on hB) (hat'.on hB))
              have TE := Lib.hid (fun e => take_eq hg.out hlt hlt' e)
              have TN := Lib.hid (show ks[j] ≠ ks'[j] → ks ≠ ks' from fun h e => h (by subst e; rfl))
              have B1 := Lib.hid Bw
              clear hk hk' hkid hkid' hat hat' Bw
              generalize hK : ks[j] = K at *
              generalize hK' : ks'[j] = K' at *
              obtain ⟨k1, x1, n1, l1⟩ := K
              obtain ⟨k2, x2, n2, l2⟩ := K'
              change wr.cell? _ = some (.string k1) at p0
              change wr.cell? _ = some (.string x1) at p1
              change wr.cell? _ = some (.int .i64 n1) at p2
              change wr.cell? _ = some (.slice ka l1.length kc) at p3
              change wr.cell? _ = some (.string k2) at q0
              change wr.cell? _ = some (.string x2) at q1
              change wr.cell? _ = some (.int .i64 n2) at q2
              change wr.cell? _ = some (.slice ka' l2.length kc') at q3
              clear hK hK'
              go_wp2_with fail
              go_still_tail 10, (by kernel_rfl)
              change wpList _ _ _ _ _ wr.drew
              have B2 := Lib.hid (show Below w.heap.size w wr.drew from B1.out.drew)
              have B3 := Lib.hid (show Below (w.heap.size + 2) _ wr.drew from hb.out.drew)
              clear B1 p0 p1 p2 p3 q0 q1 q2 q3 y0 y1
              generalize wr.drew = w2 at *
              go_wp2_with fail
              refine (IS.out _ B2.out).mono ?_
              rintro e w3 ⟨⟨r, rfl, hr⟩, b3⟩
              have B4 := Lib.hid (B3.out.trans (b3.mono (by simpa using B3.out.size)))
              have B5 := Lib.hid (B2.out.trans (b3.mono B2.out.size))
              clear b3 B2 B3
              cases r with
              | false =>
                have NE := Lib.hid (TN.out (fun e => by have := hr.2 e; cases this))
                clear hr
                go_wp2_with fail
                go_ret
                exact ⟨tells_no rfl (fun e => NE.out (by injection e)), B5.out⟩
              | true =>
                have EQ := Lib.hid (TE.out (hr.1 rfl))
                clear hr
                go_wp2_with fail
                go_roundg (gk - 1)
                case measure => omega
                case rel => exact ⟨j + 1, by omega, by go_num, EQ.out, B4.out⟩
            · go_wp2_with fail
              go_ret
              refine ⟨tells_yes rfl ?_, Bw⟩
              have e := hg.out
              have hl := HL.out
              rw [List.take_of_length_le (by omega), List.take_of_length_le (by omega)] at e
              rw [e]
        · have h4' : ((ks.length : Int) == (ks'.length : Int)) = false := beq_eq_false_iff_ne.2 (by omega)
          have HN := Lib.hid (show ¬ (Tree.node k x n ks = Tree.node k x n ks') from fun e => h4 (by injection e with _ _ _ e; rw [e]))
          clear hk hk' ih hs ht hm
          go_enter Tryz.func15, Tryz.ntmps15
          go_wp2_with fail
          go_ret
          exact ⟨tells_no rfl HN.out, HB.out _ _⟩
      · have h3' : (n == n') = false := beq_eq_false_iff_ne.2 h3
        have HN := Lib.hid (show ¬ (Tree.node k x n ks = Tree.node k x n' ks') from fun e => h3 (by injection e))
        clear hk hk' ih hs ht hm
        go_enter Tryz.func15, Tryz.ntmps15
        go_wp2_with fail
        go_ret
        exact ⟨tells_no rfl HN.out, HB.out _ _⟩
    · have h2' : (x.toList == x'.toList) = false := ne_str h2
      have HN := Lib.hid (show ¬ (Tree.node k x n ks = Tree.node k x' n' ks') from fun e => h2 (by injection e))
      clear hk hk' ih hs ht hm
      go_enter Tryz.func15, Tryz.ntmps15
      go_wp2_with fail
      go_ret
      exact ⟨tells_no rfl HN.out, HB.out _ _⟩
  · have hk1 : (k.toList == k'.toList) = false := ne_str h1
    have HN := Lib.hid (show ¬ (Tree.node k x n ks = Tree.node k' x' n' ks') from fun e => h1 (by injection e))
    clear hk hk' ih hs ht hm
    go_enter Tryz.func15, Tryz.ntmps15
    go_wp2_with fail
    go_ret
    exact ⟨tells_no rfl HN.out, HB.out _ _⟩

end Go.Proofs.YtnhccgbkalpcnaaGreatDoor
