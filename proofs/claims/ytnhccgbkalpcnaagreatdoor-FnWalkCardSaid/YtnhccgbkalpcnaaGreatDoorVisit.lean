/- What Walk's function does at an element. -/
import Derived.Test.YtnhccgbkalpcnaaGreatDoorKindOf
import Derived.RegionTactic
namespace Go.Proofs.YtnhccgbkalpcnaaGreatDoor
open Go.RowKit

theorem infoStr : (Tryz.prog.info? 9).map (fun i => (i.zero, i.size, i.bytes)) = some (some (.string ByteArray.empty), 1, 16) := by kernel_rfl
def noneS : ByteArray := ⟨#[110, 111, 110, 101]⟩

/-- the state between two calls: 'kinds' (block ob) holds a slice that owns the texts; 'stop' (block kb) is "none" -/
def Vs (B ob kb : Nat) (out : List ByteArray) (w : World) : Prop :=
  ∃ v, w.heap[ob]? = some (.cells #[v] 26 (0, 0)) ∧ w.ownsRow B 9 1 v out.length (strv out) ∧ w.heap[kb]? = some (.cells #[.string noneS] 9 (0, 0)) ∧ B ≤ w.heap.size

/-- below B nothing has turned but the variable -/
def Only (B ob : Nat) (w w' : World) : Prop :=
  w'.os = w.os ∧ w'.tape = w.tape ∧ w'.output = w.output ∧ w.heap.size ≤ w'.heap.size ∧ ∀ i, i < B → i ≠ ob → w'.heap[i]? = w.heap[i]?

theorem Only.refl (B ob : Nat) (w : World) : Only B ob w w := ⟨rfl, rfl, rfl, Nat.le_refl _, fun _ _ _ => rfl⟩
theorem Only.trans {B ob : Nat} {a b c : World} (h : Only B ob a b) (k : Only B ob b c) : Only B ob a c :=
  ⟨k.1.trans h.1, k.2.1.trans h.2.1, k.2.2.1.trans h.2.2.1, Nat.le_trans h.2.2.2.1 k.2.2.2.1, fun i h1 h2 => (k.2.2.2.2 i h1 h2).trans (h.2.2.2.2 i h1 h2)⟩
theorem Only.same {I : Nat → Prop} {B ob : Nat} {w w' : World} (h : Only B ob w w') (hI : ∀ i, I i → i < B ∧ i ≠ ob) : Same I w w' := fun i hi => h.2.2.2.2 i (hI i hi).1 (hI i hi).2

theorem strv_snoc (out : List ByteArray) (s : ByteArray) : strv out ++ [.string s] = strv (out ++ [s]) := by simp [strv]

theorem visit_end {B ob kb : Nat} {out : List ByteArray} {s : ByteArray} {w w' : World} {v v' : Value} {o : Obj} (hown : w.ownsRow B 9 1 v out.length (strv out)) (hB : B ≤ w.heap.size)
    (hol : ob < w.heap.size) (hkl : kb < w.heap.size) (hg : (w.alloc o).grownBy w' v.ownBlock)
    (hown' : w'.ownsRow B 9 1 v' (out.length + 1) (strv out ++ [.string s])) (ho : w'.heap[ob]? = some (.cells #[v] 26 (0, 0))) (hk : w'.heap[kb]? = some (.cells #[.string noneS] 9 (0, 0))) :
    Vs B ob kb (out ++ [s]) (w'.setCell ⟨ob, 0, none⟩ v') ∧ Only B ob w (w'.setCell ⟨ob, 0, none⟩ v') := by
  have hsz := hg.size
  simp at hsz
  have hne : kb ≠ ob := by
    rintro rfl
    rw [ho] at hk
    simp at hk
  refine ⟨⟨v', one_setCell ho, ?_, ?_, ?_⟩, hg.os, hg.tape, hg.output, ?_, fun i h1 h2 => ?_⟩
  · have := ownsRow_setCell_other hown' (a := ⟨ob, 0, none⟩) (Ne.symm (ne_ownBlock hown' ho (by decide))) v'
    rw [strv_snoc] at this
    simpa using this
  · rw [Below.heap_setCell _ _ _ _ hne]
    exact hk
  · simp [World.setCell]
    omega
  · simp [World.setCell]
    omega
  · rw [Below.heap_setCell _ _ _ _ h2, hg.block i (by simp; omega) (fun e => by have := (hown.lt i e.symm).1; omega)]
    exact Below.heap_alloc _ _ _ (by omega)

set_option maxRecDepth 100000 in
set_option maxHeartbeats 2000000 in
theorem visit_any (B ob kb : Nat) (hoB : ob < B) (hkB : kb < B) (out : List ByteArray) (x : Value) (s : ByteArray) (hs : (s.toList == [110, 111, 110, 101]) = false) (w : World)
    (hx : ∀ W, Calls Tryz.prog 23 #[x] W fun e w' => e = .returned (.string s) ∧ W = w') (h : Vs B ob kb out w) (hlen : out.length ≤ 2147483648) :
    Calls Tryz.prog 22 #[x, .pointer (some ⟨ob, 0, none⟩), .pointer (some ⟨kb, 0, none⟩)] w fun e w' => e = .returned (.bool true) ∧ Vs B ob kb (out ++ [s]) w' ∧ Only B ob w w' := by
  obtain ⟨v, ho, hown, hk, hB⟩ := h
  obtain ⟨i0, hi, hz0, hz1, hz2⟩ := info_parts infoStr
  have hol := lt_of_block ho
  have hkl := lt_of_block hk
  have hne : ob ≠ kb := by
    rintro rfl
    rw [ho] at hk
    simp at hk
  have co := cell_of_one ho
  have HO := Lib.hid ho
  have HK := Lib.hid hk
  have HW := Lib.hid hown
  have OW := Lib.hid (hown.alloc (.cells #[.string s] 9))
  have HX := Lib.hid hx
  clear ho hk hown hx
  go_enter Tryz.func22, Tryz.ntmps22
  go_wp2_with fail
  refine (HX.out _).mono ?_
  rintro e w1 ⟨rfl, rfl⟩
  go_wp2_with (first
    | (at_builtin; refine wpList_append_row rfl _ _ 26 rfl B 9 i0 (.string ByteArray.empty) 16 Tryz.underlying26 hi hz0 hz1 hz2 rfl _ out.length (strv out) rfl OW.out (.slice (some ⟨w.heap.size, 0, none⟩) 1 1) [.string s] rfl (I := fun _ => True) ?c1 ?c2 ?c3 ?c4 ?c5 ?_
       rotate_left 5
       intro v2 w2 hown2 hg2
       obtain ⟨a2, c2, hv2, _, _, _⟩ := (SliceOf.owned (I := fun _ => True) hown2 (fun _ _ _ => trivial)).lay
       subst hv2
       have ho2 : w2.heap[ob]? = some (.cells #[v] 26 (0, 0)) := by
         rw [hg2.block ob (by simp; omega) (fun e => by have := (HW.out.lt ob e.symm).1; omega), Below.heap_alloc _ _ _ hol]
         exact HO.out
       have hk2 : w2.heap[kb]? = some (.cells #[.string noneS] 9 (0, 0)) := by
         rw [hg2.block kb (by simp; omega) (fun e => by have := (HW.out.lt kb e.symm).1; omega), Below.heap_alloc _ _ _ hkl]
         exact HK.out
       have X := Lib.hid (visit_end HW.out hB hol hkl hg2 hown2 ho2 hk2)
       have co2 := cell_of_one ho2
       have fo2 := free_of_one ho2
       have ck3 : ∀ u, (w2.setCell ⟨ob, 0, none⟩ u).cell? ⟨kb, 0, none⟩ = some (.string ⟨#[110, 111, 110, 101]⟩) := fun u => cell_of_one (show (w2.setCell ⟨ob, 0, none⟩ u).heap[kb]? = some (.cells #[.string noneS] 9 (0, 0)) by rw [Below.heap_setCell _ _ _ _ (Ne.symm hne)]; exact hk2)
       clear hown2 hg2 ho2 hk2))
  case c1 => exact SliceOf.one _ _ _ _ rfl trivial
  case c2 => exact fun u hu => by simp at hu; subst hu; rfl
  case c3 => simp [maxLen]; omega
  case c4 => simp; omega
  case c5 => simp; omega
  go_ret
  exact ⟨rfl, by simpa using X.out⟩

end Go.Proofs.YtnhccgbkalpcnaaGreatDoor
