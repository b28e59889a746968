/- impl.WalkTemplates: the texts to which Traverse comes. -/
import Derived.Test.YtnhccgbkalpcnaaWtTrav
namespace Go.Proofs.Ytnhccgbkalpcnaa
open Go.RowKit

set_option maxRecDepth 100000 in
set_option maxHeartbeats 1000000 in
theorem walkTemplates_any (w : World) {I : Nat → Prop} (hI : ∀ i, I i → i < w.heap.size) (lv mv : Value) (L : List ByteArray) (arg : ByteArray) (M : List ByteArray) (k : Nat) (hl : SliceOf w I lv (strv L)) (hm : SliceOf w I mv (strv M))
    (hL : L ≠ []) (hLn : L.length ≤ 1000) (hMn : M.length ≤ 1000) (hk : k ≤ 1000) :
    Calls Try.prog 8 #[lv, .string arg, mv, .int .i64 k] w fun e w' => ∃ v, e = .returned v ∧ SliceOf w' (Made w w') v (strv (vis k L (arg :: M))) ∧ Below w.heap.size w w' := by
  have b0 : Below w.heap.size w ((w.alloc (.cells #[.int .i64 k] 3)).alloc (.cells #[.slice none 0 0] 22)) := ((Below.refl w.heap.size w).alloc (Nat.le_refl _) _).alloc (by simp) _
  have hS : Same I w ((w.alloc (.cells #[.int .i64 k] 3)).alloc (.cells #[.slice none 0 0] 22)) := Same.below b0 hI
  have hI2 : ∀ i, I i → i < ((w.alloc (.cells #[.int .i64 k] 3)).alloc (.cells #[.slice none 0 0] 22)).heap.size := fun i hi => by have := hI i hi; simp; omega
  have ht := templates_any ((w.alloc (.cells #[.int .i64 k] 3)).alloc (.cells #[.slice none 0 0] 22)) hI2 lv mv L arg M (hl.same hS) (hm.same hS) hL (by omega) (by omega)
  have HT := Lib.hid ht
  have B0 := Lib.hid b0
  clear ht b0 hS hI2 hl hm hI
  go_enter Try.func8, Try.ntmps8
  go_wp2_with fail
  refine (HT.out).mono ?_
  rintro e w2 ⟨v, rfl, ha, hb⟩
  obtain ⟨s, L', rfl⟩ : ∃ s L', L = s :: L' := by cases L with
    | nil => exact absurd rfl hL
    | cons s L' => exact ⟨s, L', rfl⟩
  have ha0 := ha
  obtain ⟨p, nv, sv, vs', hv, hIp, hc, _⟩ := ha0
  obtain rfl : v = .iface 54 (.pointer (some ⟨p, 0, none⟩)) := by simpa using hv
  have hz := hb.size
  have o1 : w2.heap[w.heap.size + 1]? = some (.cells #[.slice none 0 0] 22 (0, 0)) := by
    rw [hb.block _ (by simp)]
    have := heap_alloc_new (w.alloc (.cells #[.int .i64 k] 3)) (.cells #[.slice none 0 0] 22)
    simpa using this
  have o2 : w2.heap[w.heap.size]? = some (.cells #[.int .i64 k] 3 (0, 0)) := by
    rw [hb.block _ (by simp; omega), Below.heap_alloc _ _ _ (by simp)]
    exact heap_alloc_new w _
  have hst : St w2.heap.size (w.heap.size + 1) w.heap.size [] k w2 := ⟨_, o1, World.ownsRow_nil _ _ _ _, o2, Nat.le_refl _⟩
  have hIB : ∀ i, Made ((w.alloc (.cells #[.int .i64 k] 3)).alloc (.cells #[.slice none 0 0] 22)) w2 i → i < w2.heap.size ∧ i ≠ w.heap.size + 1 ∧ i ≠ w.heap.size := fun i hi => by
    have h1 := hi.1
    have h2 := hi.2
    simp at h1
    omega
  have htr := trav_tmpl w2.heap.size (w.heap.size + 1) w.heap.size (arg :: M) hIB L' s k [] w2 p ha hst (by simp only [List.length_cons, List.length_nil] at *; omega) (by omega)
  have HTR := Lib.hid htr
  have HB := Lib.hid (B0.out.trans (hb.mono (by simp; omega)))
  clear htr hIB hst o1 o2 hc hIp ha hv HT B0 hb
  have hmm := fun W => m_tmpl ⟨p, 0, none⟩ W
  go_wp2_with fail
  refine (HTR.out).mono ?_
  rintro e w3 ⟨rfl, ⟨k', hst3⟩, ho3⟩
  obtain ⟨v3, h1, h2, _, h4⟩ := hst3
  have c1 := cell_of_one h1
  obtain ⟨a3, n3, hv3, _, _, _⟩ := (SliceOf.owned (I := fun _ => True) h2 (fun _ _ _ => trivial)).lay
  subst hv3
  have hz3 := ho3.2.2.2.1
  simp at hz
  have H2 := Lib.hid (SliceOf.owned (I := Made w w3) h2 (fun i h5 h6 => ⟨by omega, h6⟩))
  have H5 := Lib.hid (show Below w.heap.size w w3 from HB.out.trans ⟨ho3.1, ho3.2.1, ho3.2.2.1, ho3.2.2.2.1, fun i hi => ho3.2.2.2.2 i (by omega) (by omega) (by omega)⟩)
  clear h1 h2 h4 ho3 HTR hmm
  go_wp2
  go_ret
  exact ⟨_, rfl, by simpa using H2.out, H5.out⟩

theorem vis_take : ∀ (k : Nat) (L A : List ByteArray), k < L.length → vis k L A = L.take k
  | _, [], _, h => by simp at h
  | 0, _ :: _, _, _ => by simp [vis]
  | k + 1, s :: r, A, h => by simp [vis, vis_take k r A (by simpa using h)]

theorem vis_all : ∀ (L A : List ByteArray), vis L.length L A = L ++ A
  | [], _ => by simp [vis]
  | s :: r, A => by simp [vis, vis_all r A]

end Go.Proofs.Ytnhccgbkalpcnaa
