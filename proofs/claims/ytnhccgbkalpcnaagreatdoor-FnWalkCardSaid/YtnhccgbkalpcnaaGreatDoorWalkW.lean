/- impl.Walk. -/
import Derived.Test.YtnhccgbkalpcnaaGreatDoorTravAll
import Derived.Test.YtnhccgbkalpcnaaGreatDoorTreeAll
namespace Go.Proofs.YtnhccgbkalpcnaaGreatDoor
open Go.RowKit

theorem block_later {w w' : World} {b : Nat} {o : Obj} (h : w.heap[b]? = some o) (hb : Below w.heap.size w w') : w'.heap[b]? = some o := by
  rw [hb.block b (lt_of_block h)]
  exact h

set_option maxRecDepth 100000 in
set_option maxHeartbeats 2000000 in
theorem walk_ok (W0 : World) (t : Tree) (hg : Good t) (hs : t.sz ≤ 200) (v : Value) (hv : At W0 t v) (w : World) (hw : Later W0 w) :
    Calls Tryz.prog 9 #[v, .string ⟨#[110, 111, 110, 101]⟩] w fun e w' => ∃ u, e = .returned u ∧ SliceOf w' (fun i => w.heap.size ≤ i ∧ i < w'.heap.size) u (strv (kindsT t)) ∧ Below w.heap.size w w' := by
  have HT := Lib.hid (fun W hW => treeOf_good W0 hg (by omega) v hv W hW)
  have HL := Lib.hid (Nat.le_trans (kindsT_len t) hs)
  obtain ⟨k, x, n, ks⟩ := t
  obtain ⟨a, c, rfl, _⟩ := hv.shut
  have S0 := St.start hw (.string k) (.string x) (.int .i64 n) (.slice a ks.length c)
  have S1 := S0.on (box_below _ (.cells #[.string ⟨#[110, 111, 110, 101]⟩] 9))
  have S2 := Lib.hid (S1.on (box_below _ (.cells #[.slice none 0 0] 26)))
  have h1 := heap_alloc_new (w.alloc (.cells #[.string k, .string x, .int .i64 n, .slice a ks.length c] 24)) (.cells #[.string ⟨#[110, 111, 110, 101]⟩] 9)
  have KB := Lib.hid (block_later h1 (box_below _ (.cells #[.slice none 0 0] 26)))
  have OB := Lib.hid (heap_alloc_new ((w.alloc (.cells #[.string k, .string x, .int .i64 n, .slice a ks.length c] 24)).alloc (.cells #[.string ⟨#[110, 111, 110, 101]⟩] 9)) (.cells #[.slice none 0 0] 26))
  clear hv hw S0 S1 h1 hs hg
  go_enter Tryz.func9, Tryz.ntmps9
  go_wp2_with fail
  refine (HT.out _ S2.out.later).mono ?_
  rintro e w3 ⟨u, rfl, hr, b⟩
  have S3 := Lib.hid (S2.out.on b)
  have KB3 := Lib.hid (block_later KB.out b)
  have OB3 := Lib.hid (block_later OB.out b)
  have hz3 : w.heap.size + 3 ≤ w3.heap.size := by have := b.size; simp at this; omega
  simp at KB3 OB3
  obtain ⟨T, g, q, rfl, mu, cu, hc⟩ := trav_all hr
  have HC := Lib.hid (hc w3.heap.size (w.heap.size + 2) (w.heap.size + 1) (by omega) (by omega) (fun i hi => ⟨hi.2, by have := hi.1; simp at this; omega⟩) [] w3 (Same.refl _ _) ⟨_, OB3.out, World.ownsRow_nil _ _ _ _, KB3.out, Nat.le_refl _⟩ (by have := HL.out; simp; omega))
  clear hr b hc HT KB OB S2 KB3 OB3
  go_wp2_with fail
  refine (HC.out).mono ?_
  rintro e w4 ⟨rfl, ⟨v4, o4, own4, k4, b4⟩, on⟩
  have SL := Lib.hid (SliceOf.owned (I := fun i => w.heap.size ≤ i ∧ i < w4.heap.size) own4 (fun i h1 h2 => ⟨by omega, h2⟩))
  obtain ⟨a4, c4, rfl, _⟩ := SL.out.lay
  have co := cell_of_one o4
  have BL := Lib.hid (S3.out.below.trans (show Below w.heap.size w3 w4 from ⟨on.1, on.2.1, on.2.2.1, on.2.2.2.1, fun i hi => on.2.2.2.2 i (by omega) (by omega)⟩))
  clear o4 own4 k4 on HC
  go_wp2_with fail
  go_ret
  exact ⟨_, rfl, by simpa using SL.out, BL.out⟩

end Go.Proofs.YtnhccgbkalpcnaaGreatDoor
