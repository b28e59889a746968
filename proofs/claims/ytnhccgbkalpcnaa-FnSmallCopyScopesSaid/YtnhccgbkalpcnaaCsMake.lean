/- impl.scopes, impl.renaming, impl.text. -/
import Derived.Test.YtnhccgbkalpcnaaCsChain
namespace Go.Proofs.Ytnhccgbkalpcnaa
open Go.RowKit

/-- a name and its scopes, the last one first -/
def back (first : ByteArray) (L : List ByteArray) : List ByteArray := (first :: L).reverse

theorem back_snoc (first : ByteArray) (L : List ByteArray) {j : Nat} (h : j < L.length) : back first (L.take (j + 1)) = L[j] :: back first (L.take j) := by
  have e := List.take_succ_eq_append_getElem h
  unfold back
  rw [List.reverse_cons, List.reverse_cons, e, List.reverse_append]
  rfl

theorem chain_step {wr : World} {a : Value} {l : List ByteArray} {s : ByteArray} (h : Chain wr a l) :
    Chain ((wr.alloc (.cells #[.string s] 40)).alloc (.cells #[a, .iface 37 (.pointer (some ⟨wr.heap.size, 0, none⟩)), .bool false] 50))
      (.iface 46 (.pointer (some ⟨wr.heap.size + 1, 0, none⟩))) (s :: l) := by
  match l, h with
  | [], h => exact h.elim
  | s2 :: r, h =>
    have b1 : Below wr.heap.size wr (wr.alloc (.cells #[.string s] 40)) := (Below.refl _ _).alloc (Nat.le_refl _) _
    have b2 : Below (wr.alloc (.cells #[.string s] 40)).heap.size (wr.alloc (.cells #[.string s] 40)) ((wr.alloc (.cells #[.string s] 40)).alloc (.cells #[a, .iface 37 (.pointer (some ⟨wr.heap.size, 0, none⟩)), .bool false] 50)) := (Below.refl _ _).alloc (Nat.le_refl _) _
    refine ⟨wr.heap.size + 1, _, _, rfl, ?_, IsName.below b2 (IsName.made wr s rfl (by show _ < _; simp)), (h.below b1).below b2⟩
    have := heap_alloc_new (wr.alloc (.cells #[.string s] 40)) (.cells #[a, .iface 37 (.pointer (some ⟨wr.heap.size, 0, none⟩)), .bool false] 50)
    simpa using this

set_option maxRecDepth 100000 in
set_option maxHeartbeats 1000000 in
theorem mkScopes_any (w : World) {I : Nat → Prop} (hI : ∀ i, I i → i < w.heap.size) (first : ByteArray) (v : Value) (L : List ByteArray) (h : SliceOf w I v (strv L)) :
    Calls Try.prog 14 #[.string first, v] w fun e w' => ∃ a, e = .returned a ∧ Chain w' a (back first L) ∧ Below w.heap.size w w' := by
  obtain ⟨la, lc, rfl, hl1, hl2, hlr⟩ := h.strs
  have HR := Lib.hid hlr
  have HI := Lib.hid hI
  have hL : L.length ≤ 9223372036854775807 := by omega
  clear h hlr hI hl1 hl2
  go_enter Try.func14, Try.ntmps14
  go_wp2_with fail
  refine (name_any _ _).mono ?_
  rintro e w1 ⟨rfl, rfl⟩
  go_wp2_with fail
  go_loopg [5, 12] (L.length) (fun k a i wr => ∃ j : Nat, j + k = L.length ∧ i = .int .i64 j ∧ Hid (Chain wr a (back first (L.take j))) ∧ Hid (Below w.heap.size w wr))
  case atStart => exact ⟨0, by omega, rfl, IsName.made w first rfl (by show _ < _; simp), (Below.refl _ _).alloc (Nat.le_refl _) _⟩
  case round =>
    obtain ⟨j, hj, rfl, hp, hb⟩ := hrel
    by_cases hlt : j < L.length
    · rcases HR.out with rfl | ⟨b, off, rfl, hbI, hcell⟩
      · simp at hlt
      have hbl := HI.out _ hbI
      have hc1 : wr.cell? ⟨b, off + j, none⟩ = some (.string L[j]) := by rw [hb.out.cell (p := ⟨b, off + j, none⟩) hbl]; exact hcell j hlt
      have hws := hb.out.size
      obtain ⟨T, q, hv⟩ := hp.out.one
      subst hv
      have hst := chain_step (s := L[j]) hp.out
      rw [← back_snoc first L hlt] at hst
      have HS := Lib.hid hst
      clear hcell hbI hst
      go_wp2_with (first
        | (go_at_call 18; refine (name_any _ _).mono ?_; rintro e w1 ⟨rfl, rfl⟩))
      go_roundg (gk - 1)
      case measure => omega
      case rel => exact ⟨j + 1, by omega, by go_num, HS.out, ((hb.out.alloc hws _).alloc (by simp; omega) _)⟩
    · have hj' : j = L.length := by omega
      have HJ := Lib.hid hj'
      clear hj'
      go_wp2_with fail
      go_ret
      have h5 := hp.out
      rw [HJ.out, List.take_length] at h5
      exact ⟨_, rfl, h5, hb.out⟩

set_option maxHeartbeats 400000 in
theorem mkRen_any (w : World) (f t : ByteArray) :
    Calls Try.prog 15 #[.string f, .string t] w fun e w' => e = .returned (.func (.func 20) #[] #[.pointer (some ⟨w.heap.size, 0, none⟩), .pointer (some ⟨w.heap.size + 1, 0, none⟩)]) ∧ (w.alloc (.cells #[.string f] 9)).alloc (.cells #[.string t] 9) = w' := by
  go_enter Try.func15, Try.ntmps15
  go_wp2_with fail
  go_ret
  exact ⟨rfl, rfl⟩

set_option maxHeartbeats 400000 in
theorem text_name (w : World) (v : Value) (s : ByteArray) {I : Nat → Prop} (h : IsName w I v s) : Calls Try.prog 17 #[v] w fun e w' => e = .returned (.string s) ∧ w = w' := by
  obtain ⟨b, rfl, _, hb⟩ := h
  have r0 := cell_of_one hb
  have ht := fun W => tn_name ⟨b, 0, none⟩ W
  clear hb
  go_enter Try.func17, Try.ntmps17
  go_wp2_with fail
  go_ret
  exact ⟨rfl, rfl⟩

end Go.Proofs.Ytnhccgbkalpcnaa
