/- Traverse kind by kind. -/
import Derived.Test.YtnhccgbkalpcnaaGreatDoorTravD
namespace Go.Proofs.YtnhccgbkalpcnaaGreatDoor
open Go.RowKit

set_option maxRecDepth 100000 in
set_option maxHeartbeats 2000000 in
theorem trav_template {w0 : World} {I : Nat → Prop} (b : Nat) {u : Value} {k0 : List ByteArray} {sv : Value} {kv : List Value} {kk : List (List ByteArray)} (hI : I b) (hb : w0.heap[b]? = some (.cells #[u, sv] 73 (0, 0))) (hu : TravOK w0 I u k0) (hs : SliceOf w0 I sv kv) (hl : TravL w0 I kv kk) : TravOK w0 I (.iface 69 (.pointer (some ⟨b, 0, none⟩))) ([⟨#[84, 101, 109, 112, 108, 97, 116, 101]⟩] ++ k0 ++ kk.flatten) := by
  refine ⟨_, _, b, rfl, fun W => mt_template ⟨b, 0, none⟩ W, fun _ _ => by kernel_rfl, ?_⟩
  intro B ob kb hoB hkB hIB out w hS hst hlen
  have HV := Lib.hid (visit_any B ob kb hoB hkB out (.iface 69 (.pointer (some ⟨b, 0, none⟩))) ⟨#[84, 101, 109, 112, 108, 97, 116, 101]⟩ (by kernel_rfl) w (kindOf_template ⟨b, 0, none⟩) hst (by simp only [List.length_append, List.length_cons, List.length_nil] at hlen; omega))
  have HLE := Lib.hid hlen
  have HB := Lib.hid (show ∀ W, Same I w0 W → W.heap[b]? = some (.cells #[u, sv] 73 (0, 0)) from fun W h => (h b hI).trans hb)
  have HIB := Lib.hid hIB
  have HS := Lib.hid hS
  obtain ⟨Tu, gu, qu, rfl, mu, cu, hcu⟩ := hu
  have CU := Lib.hid hcu
  obtain ⟨sa, sc, rfl, hsl1, hsl2, hsl3⟩ := hs.lay
  have H3 := Lib.hid hsl3
  have HL := Lib.hid hl
  have hkl : kv.length = kk.length := hl.1
  clear hst hlen hS hb hI hIB hcu hsl3 hs hl
  go_enter Tryz.func113, Tryz.ntmps113
  go_wp2_with fail
  refine (HV.out).mono ?_
  rintro e w1 ⟨rfl, st, on⟩
  have ST := Lib.hid st
  have ON := Lib.hid on
  have HS1 := Lib.hid (HS.out.trans (on.same HIB.out))
  clear st on HV
  obtain ⟨c0, c1⟩ := cells2 (HB.out w1 HS1.out)
  have HC := Lib.hid (CU.out B ob kb hoB hkB HIB.out (out ++ [⟨#[84, 101, 109, 112, 108, 97, 116, 101]⟩]) w1 HS1.out (by simpa using ST.out) (by have := HLE.out; simp only [List.length_append, List.length_cons, List.length_nil] at this ⊢; omega))
  clear ST
  go_wp2_with fail
  refine (HC.out).mono ?_
  rintro e w2 ⟨rfl, st, on⟩
  have ST := Lib.hid st
  have HS2 := Lib.hid (HS1.out.trans (on.same HIB.out))
  have ON := Lib.hid (ON.out.trans on)
  clear st on HC c0 c1
  obtain ⟨c0, c1⟩ := cells2 (HB.out w2 HS2.out)
  go_wp2_with fail
  go_loopg [21] (kk.length) (fun n i wr => ∃ j : Nat, j + n = kk.length ∧ i = .int .i64 j ∧ Hid (Vs B ob kb (out ++ [⟨#[84, 101, 109, 112, 108, 97, 116, 101]⟩] ++ k0 ++ (kk.take j).flatten) wr) ∧ Hid (Only B ob w wr) ∧ Hid (Same I w0 wr))
  case atStart => exact ⟨0, by omega, rfl, by show Vs _ _ _ _ _; simpa using ST.out, ON.out, HS2.out⟩
  case round =>
    obtain ⟨j, hj, rfl, st, on, hss⟩ := hrel
    clear c0 c1
    obtain ⟨c0, c1⟩ := cells2 (HB.out wr hss.out)
    by_cases hlt : j < kk.length
    · have hlt' : j < kv.length := by omega
      obtain ⟨T, g, q, hu, m, c, hc⟩ := HL.out.2 j hlt' hlt
      rcases H3.out with rfl | ⟨bb, off, rfl, hbb, hcell⟩
      · simp at hlt'
      have hc3 : wr.cell? ⟨bb, off + j, none⟩ = some (.iface T (.pointer (some ⟨q, 0, none⟩))) := by
        rw [World.cell?_of_block (w := w0) (hss.out bb hbb), ← hu]
        exact hcell j _ (List.getElem?_eq_getElem hlt')
      have hfl := flat_len kk hlt
      have HC := Lib.hid (hc B ob kb hoB hkB HIB.out (out ++ [⟨#[84, 101, 109, 112, 108, 97, 116, 101]⟩] ++ k0 ++ (kk.take j).flatten) wr hss.out st.out (by have := HLE.out; simp only [List.length_append, List.length_cons, List.length_nil] at this ⊢; omega))
      have HF := Lib.hid (flat_take kk hlt)
      clear hcell hu hbb hc hfl st
      go_wp2_with fail
      refine (HC.out).mono ?_
      rintro e w4 ⟨rfl, st4, on4⟩
      have ST4 := Lib.hid st4
      have HS4 := Lib.hid (hss.out.trans (on4.same HIB.out))
      have ON4 := Lib.hid (on.out.trans on4)
      clear st4 on4 hc3 HC m c
      go_wp2_with fail
      go_roundg (gk - 1)
      case measure => omega
      case rel => exact ⟨j + 1, by omega, by go_num, by show Vs _ _ _ _ _; rw [HF.out, ← List.append_assoc]; exact ST4.out, ON4.out, HS4.out⟩
    · have hlt' : ¬ j < kv.length := by omega
      have HT := Lib.hid (show kk.take j = kk from List.take_of_length_le (by omega))
      go_wp2_with fail
      go_end0
      refine ⟨rfl, ?_, on.out⟩
      have h5 := st.out
      rw [HT.out] at h5
      simpa using h5

set_option maxRecDepth 100000 in
set_option maxHeartbeats 2000000 in
theorem trav_functionType {w0 : World} {I : Nat → Prop} (b : Nat) {u : Value} {k0 : List ByteArray} {sv : Value} {kv : List Value} {kk : List (List ByteArray)} (hI : I b) (hb : w0.heap[b]? = some (.cells #[u, sv, .bool false] 79 (0, 0))) (hu : TravOK w0 I u k0) (hs : SliceOf w0 I sv kv) (hl : TravL w0 I kv kk) : TravOK w0 I (.iface 77 (.pointer (some ⟨b, 0, none⟩))) ([⟨#[70, 117, 110, 99, 116, 105, 111, 110, 84, 121, 112, 101]⟩] ++ k0 ++ kk.flatten) := by
  refine ⟨_, _, b, rfl, fun W => mt_functionType ⟨b, 0, none⟩ W, fun _ _ => by kernel_rfl, ?_⟩
  intro B ob kb hoB hkB hIB out w hS hst hlen
  have HV := Lib.hid (visit_any B ob kb hoB hkB out (.iface 77 (.pointer (some ⟨b, 0, none⟩))) ⟨#[70, 117, 110, 99, 116, 105, 111, 110, 84, 121, 112, 101]⟩ (by kernel_rfl) w (kindOf_functionType ⟨b, 0, none⟩) hst (by simp only [List.length_append, List.length_cons, List.length_nil] at hlen; omega))
  have HLE := Lib.hid hlen
  have HB := Lib.hid (show ∀ W, Same I w0 W → W.heap[b]? = some (.cells #[u, sv, .bool false] 79 (0, 0)) from fun W h => (h b hI).trans hb)
  have HIB := Lib.hid hIB
  have HS := Lib.hid hS
  obtain ⟨Tu, gu, qu, rfl, mu, cu, hcu⟩ := hu
  have CU := Lib.hid hcu
  obtain ⟨sa, sc, rfl, hsl1, hsl2, hsl3⟩ := hs.lay
  have H3 := Lib.hid hsl3
  have HL := Lib.hid hl
  have hkl : kv.length = kk.length := hl.1
  have hne := fun W => nil_ne Tu ⟨qu, 0, none⟩ W
  clear hst hlen hS hb hI hIB hcu hsl3 hs hl
  go_enter Tryz.func119, Tryz.ntmps119
  go_wp2_with fail
  refine (HV.out).mono ?_
  rintro e w1 ⟨rfl, st, on⟩
  have ST := Lib.hid st
  have ON := Lib.hid on
  have HS1 := Lib.hid (HS.out.trans (on.same HIB.out))
  clear st on HV
  obtain ⟨c0, c1, c2⟩ := cells3 (HB.out w1 HS1.out)
  have HC := Lib.hid (CU.out B ob kb hoB hkB HIB.out (out ++ [⟨#[70, 117, 110, 99, 116, 105, 111, 110, 84, 121, 112, 101]⟩]) w1 HS1.out (by simpa using ST.out) (by have := HLE.out; simp only [List.length_append, List.length_cons, List.length_nil] at this ⊢; omega))
  clear ST
  go_wp2_with fail
  refine (HC.out).mono ?_
  rintro e w2 ⟨rfl, st, on⟩
  have ST := Lib.hid st
  have HS2 := Lib.hid (HS1.out.trans (on.same HIB.out))
  have ON := Lib.hid (ON.out.trans on)
  clear st on HC c0 c1 c2
  obtain ⟨c0, c1, c2⟩ := cells3 (HB.out w2 HS2.out)
  go_wp2_with fail
  go_loopg [26] (kk.length) (fun n i wr => ∃ j : Nat, j + n = kk.length ∧ i = .int .i64 j ∧ Hid (Vs B ob kb (out ++ [⟨#[70, 117, 110, 99, 116, 105, 111, 110, 84, 121, 112, 101]⟩] ++ k0 ++ (kk.take j).flatten) wr) ∧ Hid (Only B ob w wr) ∧ Hid (Same I w0 wr))
  case atStart => exact ⟨0, by omega, rfl, by show Vs _ _ _ _ _; simpa using ST.out, ON.out, HS2.out⟩
  case round =>
    obtain ⟨j, hj, rfl, st, on, hss⟩ := hrel
    clear c0 c1 c2
    obtain ⟨c0, c1, c2⟩ := cells3 (HB.out wr hss.out)
    by_cases hlt : j < kk.length
    · have hlt' : j < kv.length := by omega
      obtain ⟨T, g, q, hu, m, c, hc⟩ := HL.out.2 j hlt' hlt
      rcases H3.out with rfl | ⟨bb, off, rfl, hbb, hcell⟩
      · simp at hlt'
      have hc3 : wr.cell? ⟨bb, off + j, none⟩ = some (.iface T (.pointer (some ⟨q, 0, none⟩))) := by
        rw [World.cell?_of_block (w := w0) (hss.out bb hbb), ← hu]
        exact hcell j _ (List.getElem?_eq_getElem hlt')
      have hfl := flat_len kk hlt
      have HC := Lib.hid (hc B ob kb hoB hkB HIB.out (out ++ [⟨#[70, 117, 110, 99, 116, 105, 111, 110, 84, 121, 112, 101]⟩] ++ k0 ++ (kk.take j).flatten) wr hss.out st.out (by have := HLE.out; simp only [List.length_append, List.length_cons, List.length_nil] at this ⊢; omega))
      have HF := Lib.hid (flat_take kk hlt)
      clear hcell hu hbb hc hfl st
      go_wp2_with fail
      refine (HC.out).mono ?_
      rintro e w4 ⟨rfl, st4, on4⟩
      have ST4 := Lib.hid st4
      have HS4 := Lib.hid (hss.out.trans (on4.same HIB.out))
      have ON4 := Lib.hid (on.out.trans on4)
      clear st4 on4 hc3 HC m c
      go_wp2_with fail
      go_roundg (gk - 1)
      case measure => omega
      case rel => exact ⟨j + 1, by omega, by go_num, by show Vs _ _ _ _ _; rw [HF.out, ← List.append_assoc]; exact ST4.out, ON4.out, HS4.out⟩
    · have hlt' : ¬ j < kv.length := by omega
      have HT := Lib.hid (show kk.take j = kk from List.take_of_length_le (by omega))
      go_wp2_with fail
      go_end0
      refine ⟨rfl, ?_, on.out⟩
      have h5 := st.out
      rw [HT.out] at h5
      simpa using h5

set_option maxRecDepth 100000 in
set_option maxHeartbeats 2000000 in
theorem trav_functionNil {w0 : World} {I : Nat → Prop} (b : Nat) {sv : Value} {kv : List Value} {kk : List (List ByteArray)} (hI : I b) (hb : w0.heap[b]? = some (.cells #[.nilIface, sv, .bool false] 79 (0, 0))) (hs : SliceOf w0 I sv kv) (hl : TravL w0 I kv kk) : TravOK w0 I (.iface 77 (.pointer (some ⟨b, 0, none⟩))) ([⟨#[70, 117, 110, 99, 116, 105, 111, 110, 84, 121, 112, 101]⟩] ++ kk.flatten) := by
  refine ⟨_, _, b, rfl, fun W => mt_functionType ⟨b, 0, none⟩ W, fun _ _ => by kernel_rfl, ?_⟩
  intro B ob kb hoB hkB hIB out w hS hst hlen
  have HV := Lib.hid (visit_any B ob kb hoB hkB out (.iface 77 (.pointer (some ⟨b, 0, none⟩))) ⟨#[70, 117, 110, 99, 116, 105, 111, 110, 84, 121, 112, 101]⟩ (by kernel_rfl) w (kindOf_functionType ⟨b, 0, none⟩) hst (by simp only [List.length_append, List.length_cons, List.length_nil] at hlen; omega))
  have HLE := Lib.hid hlen
  have HB := Lib.hid (show ∀ W, Same I w0 W → W.heap[b]? = some (.cells #[.nilIface, sv, .bool false] 79 (0, 0)) from fun W h => (h b hI).trans hb)
  have HIB := Lib.hid hIB
  have HS := Lib.hid hS
  obtain ⟨sa, sc, rfl, hsl1, hsl2, hsl3⟩ := hs.lay
  have H3 := Lib.hid hsl3
  have HL := Lib.hid hl
  have hkl : kv.length = kk.length := hl.1
  have hnn := fun W => nil_nn W
  clear hst hlen hS hb hI hIB hsl3 hs hl
  go_enter Tryz.func119, Tryz.ntmps119
  go_wp2_with fail
  refine (HV.out).mono ?_
  rintro e w1 ⟨rfl, st, on⟩
  have ST := Lib.hid st
  have ON := Lib.hid on
  have HS1 := Lib.hid (HS.out.trans (on.same HIB.out))
  clear st on HV
  obtain ⟨c0, c1, c2⟩ := cells3 (HB.out w1 HS1.out)
  go_wp2_with fail
  go_loopg [26] (kk.length) (fun n i wr => ∃ j : Nat, j + n = kk.length ∧ i = .int .i64 j ∧ Hid (Vs B ob kb (out ++ [⟨#[70, 117, 110, 99, 116, 105, 111, 110, 84, 121, 112, 101]⟩] ++ (kk.take j).flatten) wr) ∧ Hid (Only B ob w wr) ∧ Hid (Same I w0 wr))
  case atStart => exact ⟨0, by omega, rfl, by show Vs _ _ _ _ _; simpa using ST.out, ON.out, HS1.out⟩
  case round =>
    obtain ⟨j, hj, rfl, st, on, hss⟩ := hrel
    clear c0 c1 c2
    obtain ⟨c0, c1, c2⟩ := cells3 (HB.out wr hss.out)
    by_cases hlt : j < kk.length
    · have hlt' : j < kv.length := by omega
      obtain ⟨T, g, q, hu, m, c, hc⟩ := HL.out.2 j hlt' hlt
      rcases H3.out with rfl | ⟨bb, off, rfl, hbb, hcell⟩
      · simp at hlt'
      have hc3 : wr.cell? ⟨bb, off + j, none⟩ = some (.iface T (.pointer (some ⟨q, 0, none⟩))) := by
        rw [World.cell?_of_block (w := w0) (hss.out bb hbb), ← hu]
        exact hcell j _ (List.getElem?_eq_getElem hlt')
      have hfl := flat_len kk hlt
      have HC := Lib.hid (hc B ob kb hoB hkB HIB.out (out ++ [⟨#[70, 117, 110, 99, 116, 105, 111, 110, 84, 121, 112, 101]⟩] ++ (kk.take j).flatten) wr hss.out st.out (by have := HLE.out; simp only [List.length_append, List.length_cons, List.length_nil] at this ⊢; omega))
      have HF := Lib.hid (flat_take kk hlt)
      clear hcell hu hbb hc hfl st
      go_wp2_with fail
      refine (HC.out).mono ?_
      rintro e w4 ⟨rfl, st4, on4⟩
      have ST4 := Lib.hid st4
      have HS4 := Lib.hid (hss.out.trans (on4.same HIB.out))
      have ON4 := Lib.hid (on.out.trans on4)
      clear st4 on4 hc3 HC m c
      go_wp2_with fail
      go_roundg (gk - 1)
      case measure => omega
      case rel => exact ⟨j + 1, by omega, by go_num, by show Vs _ _ _ _ _; rw [HF.out, ← List.append_assoc]; exact ST4.out, ON4.out, HS4.out⟩
    · have hlt' : ¬ j < kv.length := by omega
      have HT := Lib.hid (show kk.take j = kk from List.take_of_length_le (by omega))
      go_wp2_with fail
      go_end0
      refine ⟨rfl, ?_, on.out⟩
      have h5 := st.out
      rw [HT.out] at h5
      simpa using h5

set_option maxRecDepth 100000 in
set_option maxHeartbeats 2000000 in
theorem trav_argumentPack {w0 : World} {I : Nat → Prop} (b : Nat) {sv : Value} {kv : List Value} {kk : List (List ByteArray)} (hI : I b) (hb : w0.heap[b]? = some (.cells #[sv] 131 (0, 0))) (hs : SliceOf w0 I sv kv) (hl : TravL w0 I kv kk) : TravOK w0 I (.iface 129 (.pointer (some ⟨b, 0, none⟩))) ([⟨#[65, 114, 103, 117, 109, 101, 110, 116, 80, 97, 99, 107]⟩] ++ kk.flatten) := by
  refine ⟨_, _, b, rfl, fun W => mt_argumentPack ⟨b, 0, none⟩ W, fun _ _ => by kernel_rfl, ?_⟩
  intro B ob kb hoB hkB hIB out w hS hst hlen
  have HV := Lib.hid (visit_any B ob kb hoB hkB out (.iface 129 (.pointer (some ⟨b, 0, none⟩))) ⟨#[65, 114, 103, 117, 109, 101, 110, 116, 80, 97, 99, 107]⟩ (by kernel_rfl) w (kindOf_argumentPack ⟨b, 0, none⟩) hst (by simp only [List.length_append, List.length_cons, List.length_nil] at hlen; omega))
  have HLE := Lib.hid hlen
  have HB := Lib.hid (show ∀ W, Same I w0 W → W.heap[b]? = some (.cells #[sv] 131 (0, 0)) from fun W h => (h b hI).trans hb)
  have HIB := Lib.hid hIB
  have HS := Lib.hid hS
  obtain ⟨sa, sc, rfl, hsl1, hsl2, hsl3⟩ := hs.lay
  have H3 := Lib.hid hsl3
  have HL := Lib.hid hl
  have hkl : kv.length = kk.length := hl.1
  clear hst hlen hS hb hI hIB hsl3 hs hl
  go_enter Tryz.func170, Tryz.ntmps170
  go_wp2_with fail
  refine (HV.out).mono ?_
  rintro e w1 ⟨rfl, st, on⟩
  have ST := Lib.hid st
  have ON := Lib.hid on
  have HS1 := Lib.hid (HS.out.trans (on.same HIB.out))
  clear st on HV
  obtain c0 := cells1 (HB.out w1 HS1.out)
  go_wp2_with fail
  go_loopg [15] (kk.length) (fun n i wr => ∃ j : Nat, j + n = kk.length ∧ i = .int .i64 j ∧ Hid (Vs B ob kb (out ++ [⟨#[65, 114, 103, 117, 109, 101, 110, 116, 80, 97, 99, 107]⟩] ++ (kk.take j).flatten) wr) ∧ Hid (Only B ob w wr) ∧ Hid (Same I w0 wr))
  case atStart => exact ⟨0, by omega, rfl, by show Vs _ _ _ _ _; simpa using ST.out, ON.out, HS1.out⟩
  case round =>
    obtain ⟨j, hj, rfl, st, on, hss⟩ := hrel
    clear c0
    obtain c0 := cells1 (HB.out wr hss.out)
    by_cases hlt : j < kk.length
    · have hlt' : j < kv.length := by omega
      obtain ⟨T, g, q, hu, m, c, hc⟩ := HL.out.2 j hlt' hlt
      rcases H3.out with rfl | ⟨bb, off, rfl, hbb, hcell⟩
      · simp at hlt'
      have hc3 : wr.cell? ⟨bb, off + j, none⟩ = some (.iface T (.pointer (some ⟨q, 0, none⟩))) := by
        rw [World.cell?_of_block (w := w0) (hss.out bb hbb), ← hu]
        exact hcell j _ (List.getElem?_eq_getElem hlt')
      have hfl := flat_len kk hlt
      have HC := Lib.hid (hc B ob kb hoB hkB HIB.out (out ++ [⟨#[65, 114, 103, 117, 109, 101, 110, 116, 80, 97, 99, 107]⟩] ++ (kk.take j).flatten) wr hss.out st.out (by have := HLE.out; simp only [List.length_append, List.length_cons, List.length_nil] at this ⊢; omega))
      have HF := Lib.hid (flat_take kk hlt)
      clear hcell hu hbb hc hfl st
      go_wp2_with fail
      refine (HC.out).mono ?_
      rintro e w4 ⟨rfl, st4, on4⟩
      have ST4 := Lib.hid st4
      have HS4 := Lib.hid (hss.out.trans (on4.same HIB.out))
      have ON4 := Lib.hid (on.out.trans on4)
      clear st4 on4 hc3 HC m c
      go_wp2_with fail
      go_roundg (gk - 1)
      case measure => omega
      case rel => exact ⟨j + 1, by omega, by go_num, by show Vs _ _ _ _ _; rw [HF.out, ← List.append_assoc]; exact ST4.out, ON4.out, HS4.out⟩
    · have hlt' : ¬ j < kv.length := by omega
      have HT := Lib.hid (show kk.take j = kk from List.take_of_length_le (by omega))
      go_wp2_with fail
      go_end0
      refine ⟨rfl, ?_, on.out⟩
      have h5 := st.out
      rw [HT.out] at h5
      simpa using h5

set_option maxRecDepth 100000 in
set_option maxHeartbeats 2000000 in
theorem trav_closure {w0 : World} {I : Nat → Prop} (b : Nat) {n : Int} {sv : Value} {kv : List Value} {kk : List (List ByteArray)} {ev : Value} (hI : I b) (hb : w0.heap[b]? = some (.cells #[ev, .nilIface, sv, .int .i64 n, .nilIface] 138 (0, 0))) (hs : SliceOf w0 I sv kv) (hl : TravL w0 I kv kk) (he : SliceOf w0 I ev []) : TravOK w0 I (.iface 136 (.pointer (some ⟨b, 0, none⟩))) ([⟨#[67, 108, 111, 115, 117, 114, 101]⟩] ++ kk.flatten) := by
  refine ⟨_, _, b, rfl, fun W => mt_closure ⟨b, 0, none⟩ W, fun _ _ => by kernel_rfl, ?_⟩
  intro B ob kb hoB hkB hIB out w hS hst hlen
  have HV := Lib.hid (visit_any B ob kb hoB hkB out (.iface 136 (.pointer (some ⟨b, 0, none⟩))) ⟨#[67, 108, 111, 115, 117, 114, 101]⟩ (by kernel_rfl) w (kindOf_closure ⟨b, 0, none⟩) hst (by simp only [List.length_append, List.length_cons, List.length_nil] at hlen; omega))
  have HLE := Lib.hid hlen
  have HB := Lib.hid (show ∀ W, Same I w0 W → W.heap[b]? = some (.cells #[ev, .nilIface, sv, .int .i64 n, .nilIface] 138 (0, 0)) from fun W h => (h b hI).trans hb)
  have HIB := Lib.hid hIB
  have HS := Lib.hid hS
  obtain ⟨sa, sc, rfl, hsl1, hsl2, hsl3⟩ := hs.lay
  have H3 := Lib.hid hsl3
  have HL := Lib.hid hl
  have hkl : kv.length = kk.length := hl.1
  obtain ⟨ea, ec, rfl, _, _, _⟩ := he.lay
  have hnn := fun W => nil_nn W
  clear hst hlen hS hb hI hIB hsl3 hs hl he
  go_enter Tryz.func176, Tryz.ntmps176
  go_wp2_with fail
  refine (HV.out).mono ?_
  rintro e w1 ⟨rfl, st, on⟩
  have ST := Lib.hid st
  have ON := Lib.hid on
  have HS1 := Lib.hid (HS.out.trans (on.same HIB.out))
  clear st on HV
  obtain ⟨c0, c1, c2, c3, c4⟩ := cells5 (HB.out w1 HS1.out)
  go_wp2_with fail
  go_loopg [17] 0 (fun n i wr => wr = w1 ∧ i = .int .i64 0)
  case atStart => exact ⟨rfl, rfl⟩
  case round =>
    obtain ⟨rfl, rfl⟩ := hrel
    go_wp2_with fail
    go_loopg [41] (kk.length) (fun n i wr => ∃ j : Nat, j + n = kk.length ∧ i = .int .i64 j ∧ Hid (Vs B ob kb (out ++ [⟨#[67, 108, 111, 115, 117, 114, 101]⟩] ++ (kk.take j).flatten) wr) ∧ Hid (Only B ob w wr) ∧ Hid (Same I w0 wr))
    case atStart => exact ⟨0, by omega, rfl, by show Vs _ _ _ _ _; simpa using ST.out, ON.out, HS1.out⟩
    case round =>
      obtain ⟨j, hj, rfl, st, on, hss⟩ := hrel
      clear c0 c1 c2 c3 c4
      obtain ⟨c0, c1, c2, c3, c4⟩ := cells5 (HB.out wr hss.out)
      by_cases hlt : j < kk.length
      · have hlt' : j < kv.length := by omega
        obtain ⟨T, g, q, hu, m, c, hc⟩ := HL.out.2 j hlt' hlt
        rcases H3.out with rfl | ⟨bb, off, rfl, hbb, hcell⟩
        · simp at hlt'
        have hc3 : wr.cell? ⟨bb, off + j, none⟩ = some (.iface T (.pointer (some ⟨q, 0, none⟩))) := by
          rw [World.cell?_of_block (w := w0) (hss.out bb hbb), ← hu]
          exact hcell j _ (List.getElem?_eq_getElem hlt')
        have hfl := flat_len kk hlt
        have HC := Lib.hid (hc B ob kb hoB hkB HIB.out (out ++ [⟨#[67, 108, 111, 115, 117, 114, 101]⟩] ++ (kk.take j).flatten) wr hss.out st.out (by have := HLE.out; simp only [List.length_append, List.length_cons, List.length_nil] at this ⊢; omega))
        have HF := Lib.hid (flat_take kk hlt)
        clear hcell hu hbb hc hfl st
        go_wp2_with fail
        refine (HC.out).mono ?_
        rintro e w4 ⟨rfl, st4, on4⟩
        have ST4 := Lib.hid st4
        have HS4 := Lib.hid (hss.out.trans (on4.same HIB.out))
        have ON4 := Lib.hid (on.out.trans on4)
        clear st4 on4 hc3 HC m c
        go_wp2_with fail
        go_roundg (gk - 1)
        case measure => omega
        case rel => exact ⟨j + 1, by omega, by go_num, by show Vs _ _ _ _ _; rw [HF.out, ← List.append_assoc]; exact ST4.out, ON4.out, HS4.out⟩
      · have hlt' : ¬ j < kv.length := by omega
        have HT := Lib.hid (show kk.take j = kk from List.take_of_length_le (by omega))
        go_wp2_with fail
        go_end0
        refine ⟨rfl, ?_, on.out⟩
        have h5 := st.out
        rw [HT.out] at h5
        simpa using h5

end Go.Proofs.YtnhccgbkalpcnaaGreatDoor
