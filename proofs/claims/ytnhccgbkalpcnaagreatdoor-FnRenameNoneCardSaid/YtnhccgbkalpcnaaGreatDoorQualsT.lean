/- isQualifiers. -/
import Derived.Test.YtnhccgbkalpcnaaGreatDoorSameT
import Derived.Deep.Cut
import Derived.Deep.CutRange
namespace Go.Proofs.YtnhccgbkalpcnaaGreatDoor
open Go.RowKit

theorem below_two (w : World) (a b : Obj) : Below w.heap.size w ((w.alloc a).alloc b) := (box_below w a).trans ((box_below (w.alloc a) b).mono (by simp))
theorem below_four (w : World) (a b c d : Obj) : Below w.heap.size w ((((w.alloc a).alloc b).alloc c).alloc d) := (below_two w a b).trans ((below_two ((w.alloc a).alloc b) c d).mono (by simp; omega))
theorem below_drs {B : Nat} {a w : World} (h : Below B a w) (n : Nat) : Below B a (w.drewN n) := ⟨h.os, h.tape, h.output, h.size, h.block⟩
theorem cell_cells {w : World} {b i : Nat} {cs : Array Value} {e : TypeId} {fz : Nat × Nat} {v : Value} (h : w.heap[b]? = some (.cells cs e fz)) (hv : cs[i]? = some v) : w.cell? ⟨b, i, none⟩ = some v := by
  simp [World.cell?, h, hv]
theorem alloc_last (w : World) (o : Obj) (b : Nat) (hb : b = w.heap.size) : (w.alloc o).heap[b]? = some o := by
  subst hb
  exact heap_alloc_new w o
theorem names_two (w : World) (o : Obj) (s t : ByteArray) (e : TypeId) : ∀ i, i < 2 → ∃ u, ((w.alloc o).alloc (.cells #[.string s, .string t] e)).cell? ⟨w.heap.size + 1, i, none⟩ = some (.string u) := by
  intro i hi
  have h := alloc_last (w.alloc o) (.cells #[.string s, .string t] e) (w.heap.size + 1) (by simp)
  match i, hi with
  | 0, _ => exact ⟨s, cell_cells h rfl⟩
  | 1, _ => exact ⟨t, cell_cells h rfl⟩
theorem names_three (w : World) (o p q : Obj) (s t u : ByteArray) (r : Array Value) (e : TypeId) : ∀ i, i < 3 → ∃ z, (((((w.alloc o).alloc p).alloc q).alloc (.cells (#[.string s, .string t, .string u] ++ r) e)).drew).cell? ⟨w.heap.size + 1 + 1 + 1, i, none⟩ = some (.string z) := by
  intro i hi
  have h := alloc_last (((w.alloc o).alloc p).alloc q) (.cells (#[.string s, .string t, .string u] ++ r) e) (w.heap.size + 1 + 1 + 1) (by simp)
  match i, hi with
  | 0, _ => exact ⟨s, cell_cells (fz := (0, 0)) h (by simp [Array.getElem?_append])⟩
  | 1, _ => exact ⟨t, cell_cells (fz := (0, 0)) h (by simp [Array.getElem?_append])⟩
  | 2, _ => exact ⟨u, cell_cells (fz := (0, 0)) h (by simp [Array.getElem?_append])⟩
theorem box_two (w : World) (a b c d : Value) (o : Obj) (e : TypeId) : ((w.alloc (.cells #[a, b, c, d] e)).alloc o).cell? ⟨w.heap.size, 3, none⟩ = some d := by
  have h : ((w.alloc (.cells #[a, b, c, d] e)).alloc o).heap[w.heap.size]? = some (.cells #[a, b, c, d] e) := by
    rw [(box_below (w.alloc (.cells #[a, b, c, d] e)) o).block _ (by simp)]
    exact heap_alloc_new w _
  exact cell_cells h rfl
theorem box_four (w : World) (a b c d : Value) (o p q : Obj) (e : TypeId) : ((((w.alloc (.cells #[a, b, c, d] e)).alloc o).alloc p).alloc q).drew.cell? ⟨w.heap.size, 3, none⟩ = some d := by
  have h : ((((w.alloc (.cells #[a, b, c, d] e)).alloc o).alloc p).alloc q).drew.heap[w.heap.size]? = some (.cells #[a, b, c, d] e) := by
    have h2 := (below_two ((w.alloc (.cells #[a, b, c, d] e)).alloc o) p q).block w.heap.size (by simp; omega)
    have h3 := (box_below (w.alloc (.cells #[a, b, c, d] e)) o).block w.heap.size (by simp)
    exact h2.trans (h3.trans (heap_alloc_new w _))
  exact cell_cells h rfl

set_option maxRecDepth 100000 in
set_option maxHeartbeats 2000000 in
theorem isQualifiers_step (W0 : World) (t : Tree) (r : Bool) (v : Value) (hv : At W0 t v) (w : World) (hw : Later W0 w) : Calls Tryz.prog 54 #[v, .bool r] w fun e w' => Says (Quals t) e ∧ Below w.heap.size w w' := by
  obtain ⟨k, x, n, ks⟩ := t
  by_cases hk : k = ⟨#[81, 117, 97, 108, 105, 102, 105, 101, 114, 115]⟩
  · subst hk
    by_cases hx : x = ⟨#[]⟩
    · subst hx
      by_cases hn : n = 0
      · subst hn
        obtain ⟨sv, rfl, a, c, rfl, hc1, hc2, hkk⟩ := hv.kids
        by_cases hl : ks.length = 0
        · obtain rfl := List.eq_nil_of_length_eq_zero hl
          simp only [List.length_nil] at *
          have S0 := Lib.hid (St.start hw (.string ⟨#[81, 117, 97, 108, 105, 102, 105, 101, 114, 115]⟩) (.string ⟨#[]⟩) (.int .i64 0) (.slice a 0 c))
          clear hkk hv hw
          go_enter Tryz.func54, Tryz.ntmps54
          go_wp2_with fail
          go_ret
          exact ⟨says_no rfl, S0.out.below⟩
        · have hl1 : ((ks.length : Int) == 0) = false := beq_eq_false_iff_ne.2 (by omega)
          cases r with
          | false =>
            have HW := Lib.hid hw
            have HK := Lib.hid hkk
            have WN : ∃ wn, wn = (w.alloc (.cells #[.string ⟨#[81, 117, 97, 108, 105, 102, 105, 101, 114, 115]⟩, .string ⟨#[]⟩, .int .i64 0, .slice a ks.length c] 24)).alloc (.cells #[.string ⟨#[99, 111, 110, 115, 116]⟩, .string ⟨#[118, 111, 108, 97, 116, 105, 108, 101]⟩] 9) := ⟨_, rfl⟩
            obtain ⟨wn, hwn⟩ := WN
            have HB := Lib.hid (show Below w.heap.size w wn by
              rw [hwn]
              exact below_two w _ _)
            have HN := Lib.hid (show ∀ i, i < 2 → ∃ s, wn.cell? ⟨w.heap.size + 1, i, none⟩ = some (.string s) by
              rw [hwn]
              exact names_two w _ _ _ _)
            have HS := Lib.hid (show w.heap.size + 1 < wn.heap.size by rw [hwn]; simp)
            have x3 : wn.cell? ⟨w.heap.size, 3, none⟩ = some (.slice a ks.length c) := by
              rw [hwn]
              exact box_two w _ _ _ _ _ _
            have hnl : (ks.length : Int) ≤ 9223372036854775807 := by omega
            clear hkk hw hv
            go_enter Tryz.func54, Tryz.ntmps54
            go_upto_region 6 with (fail)
            rw [← hwn]
            clear hwn
            go_wp2_with fail
            go_loopg [6, 36] (ks.length) (fun k' at' i wr => ∃ j : Nat, j + k' = ks.length ∧ i = .int .i64 j ∧ (∃ a1 : Nat, at' = .int .i64 a1 ∧ a1 ≤ 2) ∧ Hid (∀ q ∈ ks.take j, ∃ s, q = .node ⟨#[81, 117, 97, 108, 105, 102, 105, 101, 114]⟩ s 0 []) ∧ Hid (Below wn.heap.size wn wr))
            case atStart => exact ⟨0, by omega, rfl, ⟨0, rfl, by omega⟩, Lib.hid (fun k hk => by simp at hk), Lib.hid (Below.refl _ _)⟩
            case round =>
              obtain ⟨j, hj, rfl, ⟨a1, rfl, ha1⟩, hg, hb⟩ := hrel
              have BB := Lib.hid (HB.out.trans (hb.out.mono HB.out.size))
              by_cases hlt : j < ks.length
              · obtain ⟨b, off, rfl, hk⟩ := HK.out.resolve_left (by intro e; subst e; simp at hlt)
                obtain ⟨ka, kc, hkid, hat⟩ := hk j hlt
                have L1 := HW.out.on BB.out
                have TA := Lib.hid (fun h => take_all (P := fun q => ∃ s, q = .node ⟨#[81, 117, 97, 108, 105, 102, 105, 101, 114]⟩ s 0 []) hg.out hlt h)
                generalize hKK : ks[j] = K at *
                obtain ⟨k, x, n, l⟩ := K
                obtain ⟨p0, p1, p2, p3⟩ := (hkid wr L1).fields rfl
                obtain ⟨G, hG⟩ : ∃ G, G = gk := ⟨_, rfl⟩
                have PX := Lib.hid (fun wz (h : Below (wr.heap.size + 1) (wr.alloc (.cells #[.string k, .string x, .int .i64 n, .slice ka l.length kc] 24)) wz) => hb.out.trans (((box_below wr (.cells #[.string k, .string x, .int .i64 n, .slice ka l.length kc] 24)).trans (h.mono (by omega))).mono hb.out.size))
                have hjG : j + G = ks.length := by omega
                clear hk hkid hat hKK L1 hg hG
                go_wp2_with fail
                go_loopg [6] (3 - a1) (fun k' at' wx => ∃ a2 : Nat, at' = .int .i64 a2 ∧ a2 + k' = 3 ∧ a2 ≤ 2 ∧ Hid (Below (wr.heap.size + 1) (wr.alloc (.cells #[.string k, .string x, .int .i64 n, .slice ka l.length kc] 24)) wx))
                case atStart => exact ⟨a1, rfl, by omega, by omega, Lib.hid (Below.refl _ _)⟩
                case round =>
                  obtain ⟨a2, rfl, hm2, ha2, hbx⟩ := hrel
                  have X1 := Lib.hid (PX.out _ hbx.out)
                  have X2 := Lib.hid (HB.out.trans (X1.out.mono HB.out.size))
                  obtain ⟨y0, y1, y2, y3⟩ := box_at hbx.out
                  clear p0 p1 p2 p3
                  by_cases ha3 : a2 = 2
                  · subst ha3
                    have hd : decide ((2 : Int) < 2) = false := rfl
                    go_wp2_with fail
                    go_quiet (fail)
                    go_wp2_with fail
                    go_ret
                    exact ⟨says_no rfl, below_drs X2.out _⟩
                  · obtain ⟨s, hs⟩ := HN.out a2 (by omega)
                    have hs' : wr.cell? ⟨w.heap.size + 1, a2, none⟩ = some (.string s) := by rw [X1.out.cell (p := ⟨w.heap.size + 1, a2, none⟩) HS.out]; exact hs
                    have hd : decide ((a2 : Int) < 2) = true := decide_eq_true (by omega)
                    have hd2 : ((a2 : Int) == 2) = false := beq_eq_false_iff_ne.2 (by omega)
                    clear hs
                    by_cases hsx : s = x
                    · subst hsx
                      have F : (k = ⟨#[81, 117, 97, 108, 105, 102, 105, 101, 114]⟩ ∧ n = 0 ∧ l = []) ∨ ¬ (k = ⟨#[81, 117, 97, 108, 105, 102, 105, 101, 114]⟩ ∧ n = 0 ∧ l = []) := Classical.em _
                      by_cases hkq : k = ⟨#[81, 117, 97, 108, 105, 102, 105, 101, 114]⟩
                      · subst hkq
                        by_cases hn0 : n = 0
                        · subst hn0
                          by_cases hl0 : l = []
                          · subst hl0
                            have TG := Lib.hid (TA.out ⟨s, rfl⟩)
                            simp only [List.length_nil] at *
                            clear F TA
                            go_wp2_with fail
                            go_quiet (fail)
                            go_wp2_with fail
                            go_roundg (G - 1)
                            case measure => omega
                            case rel => exact ⟨j + 1, by omega, by go_num, ⟨a2 + 1, by go_num, by omega⟩, TG.out, below_drs X1.out _⟩
                          · have hl0' : ((l.length : Int) == 0) = false := beq_eq_false_iff_ne.2 (by have := List.length_pos_iff.2 hl0; omega)
                            clear F TA
                            go_wp2_with fail
                            go_quiet (fail)
                            go_wp2_with fail
                            go_ret
                            exact ⟨says_no rfl, below_drs X2.out _⟩
                        · have hn0' : (n == 0) = false := beq_eq_false_iff_ne.2 hn0
                          clear F TA
                          go_wp2_with fail
                          go_quiet (fail)
                          go_wp2_with fail
                          go_ret
                          exact ⟨says_no rfl, below_drs X2.out _⟩
                      · have hkq' : (k.toList == [81, 117, 97, 108, 105, 102, 105, 101, 114]) = false := ne_of hkq
                        clear F TA
                        go_wp2_with fail
                        go_quiet (fail)
                        go_wp2_with fail
                        go_ret
                        exact ⟨says_no rfl, below_drs X2.out _⟩
                    · have hsx' : (s.toList == x.toList) = false := ne_str hsx
                      go_wp2_with fail
                      go_quiet (fail)
                      go_wp2_with fail
                      go_roundg (gk - 1)
                      case measure => omega
                      case rel => exact ⟨a2 + 1, by go_num, by omega, by omega, Lib.hid (below_drs hbx.out _)⟩
              · have HD := Lib.hid (take_done hg.out hlt)
                go_wp2_with fail
                go_ret
                exact ⟨⟨true, rfl, fun _ => ⟨ks, rfl, HD.out⟩⟩, BB.out⟩
          | true =>
            have HW := Lib.hid hw
            have HK := Lib.hid hkk
            have WN : ∃ wn, wn = ((((w.alloc (.cells #[.string ⟨#[81, 117, 97, 108, 105, 102, 105, 101, 114, 115]⟩, .string ⟨#[]⟩, .int .i64 0, .slice a ks.length c] 24)).alloc (.cells #[.string ⟨#[99, 111, 110, 115, 116]⟩, .string ⟨#[118, 111, 108, 97, 116, 105, 108, 101]⟩] 9)).alloc (.cells #[.string ⟨#[114, 101, 115, 116, 114, 105, 99, 116]⟩] 9)).alloc (.cells (#[.string ⟨#[99, 111, 110, 115, 116]⟩, .string ⟨#[118, 111, 108, 97, 116, 105, 108, 101]⟩, .string ⟨#[114, 101, 115, 116, 114, 105, 99, 116]⟩] ++ Builtin.zeroCells #[.string ⟨#[]⟩] ((Question.appendCap 3 2 9).cut (w.tape w.drawn (Question.appendCap 3 2 9)) - 3)) 9)).drew := ⟨_, rfl⟩
            obtain ⟨wn, hwn⟩ := WN
            have HB := Lib.hid (show Below w.heap.size w wn by
              rw [hwn]
              exact (below_four w _ _ _ _).drew)
            have HN := Lib.hid (show ∀ i, i < 3 → ∃ s, wn.cell? ⟨w.heap.size + 1 + 1 + 1, i, none⟩ = some (.string s) by
              rw [hwn]
              exact names_three w _ _ _ _ _ _ _ _)
            have HS := Lib.hid (show w.heap.size + 1 + 1 + 1 < wn.heap.size by rw [hwn]; simp)
            have x3 : wn.cell? ⟨w.heap.size, 3, none⟩ = some (.slice a ks.length c) := by
              rw [hwn]
              exact box_four w _ _ _ _ _ _ _ _
            have hnl : (ks.length : Int) ≤ 9223372036854775807 := by omega
            clear hkk hw hv
            go_enter Tryz.func54, Tryz.ntmps54
            go_upto_region 6 with (fail)
            rw [← hwn]
            generalize (Question.appendCap 3 2 9).cut (w.tape w.drawn (Question.appendCap 3 2 9)) = C
            clear hwn
            go_wp2_with fail
            go_loopg [6, 36] (ks.length) (fun k' at' i wr => ∃ j : Nat, j + k' = ks.length ∧ i = .int .i64 j ∧ (∃ a1 : Nat, at' = .int .i64 a1 ∧ a1 ≤ 3) ∧ Hid (∀ q ∈ ks.take j, ∃ s, q = .node ⟨#[81, 117, 97, 108, 105, 102, 105, 101, 114]⟩ s 0 []) ∧ Hid (Below wn.heap.size wn wr))
            case atStart => exact ⟨0, by omega, rfl, ⟨0, rfl, by omega⟩, Lib.hid (fun k hk => by simp at hk), Lib.hid (Below.refl _ _)⟩
            case round =>
              obtain ⟨j, hj, rfl, ⟨a1, rfl, ha1⟩, hg, hb⟩ := hrel
              have BB := Lib.hid (HB.out.trans (hb.out.mono HB.out.size))
              by_cases hlt : j < ks.length
              · obtain ⟨b, off, rfl, hk⟩ := HK.out.resolve_left (by intro e; subst e; simp at hlt)
                obtain ⟨ka, kc, hkid, hat⟩ := hk j hlt
                have L1 := HW.out.on BB.out
                have TA := Lib.hid (fun h => take_all (P := fun q => ∃ s, q = .node ⟨#[81, 117, 97, 108, 105, 102, 105, 101, 114]⟩ s 0 []) hg.out hlt h)
                generalize hKK : ks[j] = K at *
                obtain ⟨k, x, n, l⟩ := K
                obtain ⟨p0, p1, p2, p3⟩ := (hkid wr L1).fields rfl
                obtain ⟨G, hG⟩ : ∃ G, G = gk := ⟨_, rfl⟩
                have PX := Lib.hid (fun wz (h : Below (wr.heap.size + 1) (wr.alloc (.cells #[.string k, .string x, .int .i64 n, .slice ka l.length kc] 24)) wz) => hb.out.trans (((box_below wr (.cells #[.string k, .string x, .int .i64 n, .slice ka l.length kc] 24)).trans (h.mono (by omega))).mono hb.out.size))
                have hjG : j + G = ks.length := by omega
                clear hk hkid hat hKK L1 hg hG
                go_wp2_with fail
                go_loopg [6] (3 - a1) (fun k' at' wx => ∃ a2 : Nat, at' = .int .i64 a2 ∧ a2 + k' = 3 ∧ a2 ≤ 3 ∧ Hid (Below (wr.heap.size + 1) (wr.alloc (.cells #[.string k, .string x, .int .i64 n, .slice ka l.length kc] 24)) wx))
                case atStart => exact ⟨a1, rfl, by omega, by omega, Lib.hid (Below.refl _ _)⟩
                case round =>
                  obtain ⟨a2, rfl, hm2, ha2, hbx⟩ := hrel
                  have X1 := Lib.hid (PX.out _ hbx.out)
                  have X2 := Lib.hid (HB.out.trans (X1.out.mono HB.out.size))
                  obtain ⟨y0, y1, y2, y3⟩ := box_at hbx.out
                  clear p0 p1 p2 p3
                  by_cases ha3 : a2 = 3
                  · subst ha3
                    have hd : decide ((3 : Int) < 3) = false := rfl
                    go_wp2_with fail
                    go_quiet (fail)
                    go_wp2_with fail
                    go_ret
                    exact ⟨says_no rfl, below_drs X2.out _⟩
                  · obtain ⟨s, hs⟩ := HN.out a2 (by omega)
                    have hs' : wr.cell? ⟨w.heap.size + 1 + 1 + 1, a2, none⟩ = some (.string s) := by rw [X1.out.cell (p := ⟨w.heap.size + 1 + 1 + 1, a2, none⟩) HS.out]; exact hs
                    have hd : decide ((a2 : Int) < 3) = true := decide_eq_true (by omega)
                    have hd2 : ((a2 : Int) == 3) = false := beq_eq_false_iff_ne.2 (by omega)
                    clear hs
                    by_cases hsx : s = x
                    · subst hsx
                      have F : (k = ⟨#[81, 117, 97, 108, 105, 102, 105, 101, 114]⟩ ∧ n = 0 ∧ l = []) ∨ ¬ (k = ⟨#[81, 117, 97, 108, 105, 102, 105, 101, 114]⟩ ∧ n = 0 ∧ l = []) := Classical.em _
                      by_cases hkq : k = ⟨#[81, 117, 97, 108, 105, 102, 105, 101, 114]⟩
                      · subst hkq
                        by_cases hn0 : n = 0
                        · subst hn0
                          by_cases hl0 : l = []
                          · subst hl0
                            have TG := Lib.hid (TA.out ⟨s, rfl⟩)
                            simp only [List.length_nil] at *
                            clear F TA
                            go_wp2_with fail
                            go_quiet (fail)
                            go_wp2_with fail
                            go_roundg (G - 1)
                            case measure => omega
                            case rel => exact ⟨j + 1, by omega, by go_num, ⟨a2 + 1, by go_num, by omega⟩, TG.out, below_drs X1.out _⟩
                          · have hl0' : ((l.length : Int) == 0) = false := beq_eq_false_iff_ne.2 (by have := List.length_pos_iff.2 hl0; omega)
                            clear F TA
                            go_wp2_with fail
                            go_quiet (fail)
                            go_wp2_with fail
                            go_ret
                            exact ⟨says_no rfl, below_drs X2.out _⟩
                        · have hn0' : (n == 0) = false := beq_eq_false_iff_ne.2 hn0
                          clear F TA
                          go_wp2_with fail
                          go_quiet (fail)
                          go_wp2_with fail
                          go_ret
                          exact ⟨says_no rfl, below_drs X2.out _⟩
                      · have hkq' : (k.toList == [81, 117, 97, 108, 105, 102, 105, 101, 114]) = false := ne_of hkq
                        clear F TA
                        go_wp2_with fail
                        go_quiet (fail)
                        go_wp2_with fail
                        go_ret
                        exact ⟨says_no rfl, below_drs X2.out _⟩
                    · have hsx' : (s.toList == x.toList) = false := ne_str hsx
                      go_wp2_with fail
                      go_quiet (fail)
                      go_wp2_with fail
                      go_roundg (gk - 1)
                      case measure => omega
                      case rel => exact ⟨a2 + 1, by go_num, by omega, by omega, Lib.hid (below_drs hbx.out _)⟩
              · have HD := Lib.hid (take_done hg.out hlt)
                go_wp2_with fail
                go_ret
                exact ⟨⟨true, rfl, fun _ => ⟨ks, rfl, HD.out⟩⟩, BB.out⟩
      · have hb0 : (n == 0) = false := beq_eq_false_iff_ne.2 hn
        obtain ⟨a, c, rfl, _⟩ := hv.shut
        have S0 := Lib.hid (St.start hw (.string ⟨#[81, 117, 97, 108, 105, 102, 105, 101, 114, 115]⟩) (.string ⟨#[]⟩) (.int .i64 n) (.slice a ks.length c))
        clear hv hw
        go_enter Tryz.func54, Tryz.ntmps54
        go_wp2_with fail
        go_ret
        exact ⟨says_no rfl, S0.out.below⟩
    · have hx0 : x.toList.isEmpty = false := ne_empty hx
      obtain ⟨a, c, rfl, _⟩ := hv.shut
      have S0 := Lib.hid (St.start hw (.string ⟨#[81, 117, 97, 108, 105, 102, 105, 101, 114, 115]⟩) (.string x) (.int .i64 n) (.slice a ks.length c))
      clear hv hw
      go_enter Tryz.func54, Tryz.ntmps54
      go_wp2_with fail
      go_ret
      exact ⟨says_no rfl, S0.out.below⟩
  · have hk' : (k.toList == [81, 117, 97, 108, 105, 102, 105, 101, 114, 115]) = false := ne_of hk
    obtain ⟨a, c, rfl, _⟩ := hv.shut
    have S0 := Lib.hid (St.start hw (.string k) (.string x) (.int .i64 n) (.slice a ks.length c))
    clear hv hw
    go_enter Tryz.func54, Tryz.ntmps54
    go_wp2_with fail
    go_ret
    exact ⟨says_no rfl, S0.out.below⟩

end Go.Proofs.YtnhccgbkalpcnaaGreatDoor
