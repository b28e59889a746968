/- WalkTemplates: the function that is called for each element. -/
import Derived.Test.YtnhccgbkalpcnaaTmpls
import Derived.ChangeAlike
import Derived.RegionTactic
namespace Go.Proofs.Ytnhccgbkalpcnaa
open Go.RowKit

theorem infoStr : (Try.prog.info? 9).map (fun i => (i.zero, i.size, i.bytes)) = some (some (.string ByteArray.empty), 1, 16) := by kernel_rfl

/-- the state between two calls of the closure: 'out' (block ob) holds a slice that owns the texts; 'open' (block kb) a number -/
def St (B ob kb : Nat) (out : List ByteArray) (k : Int) (w : World) : Prop :=
  ∃ v, w.heap[ob]? = some (.cells #[v] 22 (0, 0)) ∧ w.ownsRow B 9 1 v out.length (strv out) ∧ w.heap[kb]? = some (.cells #[.int .i64 k] 3 (0, 0)) ∧ B ≤ w.heap.size

/-- below B nothing has turned but the two variables -/
def Only (B ob kb : Nat) (w w' : World) : Prop :=
  w'.os = w.os ∧ w'.tape = w.tape ∧ w'.output = w.output ∧ w.heap.size ≤ w'.heap.size ∧ ∀ i, i < B → i ≠ ob → i ≠ kb → w'.heap[i]? = w.heap[i]?

theorem Only.refl (B ob kb : Nat) (w : World) : Only B ob kb w w := ⟨rfl, rfl, rfl, Nat.le_refl _, fun _ _ _ _ => rfl⟩
theorem Only.trans {B ob kb : Nat} {a b c : World} (h : Only B ob kb a b) (k : Only B ob kb b c) : Only B ob kb a c :=
  ⟨k.1.trans h.1, k.2.1.trans h.2.1, k.2.2.1.trans h.2.2.1, Nat.le_trans h.2.2.2.1 k.2.2.2.1, fun i h1 h2 h3 => (k.2.2.2.2 i h1 h2 h3).trans (h.2.2.2.2 i h1 h2 h3)⟩

theorem strv_snoc (out : List ByteArray) (s : ByteArray) : strv out ++ [.string s] = strv (out ++ [s]) := by simp [strv]

theorem visit_end {B ob kb : Nat} {out : List ByteArray} {k : Int} {s : ByteArray} {w w' : World} {v v' : Value} {o : Obj} (hown : w.ownsRow B 9 1 v out.length (strv out)) (hB : B ≤ w.heap.size)
    (hol : ob < w.heap.size) (hkl : kb < w.heap.size) (hg : (w.alloc o).drew.grownBy w' v.ownBlock)
    (hown' : w'.ownsRow B 9 1 v' (out.length + 1) (strv out ++ [.string s])) (ho : w'.heap[ob]? = some (.cells #[v] 22 (0, 0))) (hk : w'.heap[kb]? = some (.cells #[.int .i64 k] 3 (0, 0))) :
    St B ob kb (out ++ [s]) k (w'.setCell ⟨ob, 0, none⟩ v') ∧ Only B ob kb w (w'.setCell ⟨ob, 0, none⟩ v') := by
  have hsz := hg.size
  simp at hsz
  have hne : kb ≠ ob := by
    rintro rfl
    rw [ho] at hk
    simp at hk
  refine ⟨⟨v', one_setCell ho, ?_, ?_, ?_⟩, hg.os, hg.tape, hg.output, ?_, fun i h1 h2 h3 => ?_⟩
  · have := ownsRow_setCell_other hown' (a := ⟨ob, 0, none⟩) (Ne.symm (ne_ownBlock hown' ho (by decide))) v'
    rw [strv_snoc] at this
    simpa using this
  · rw [Below.heap_setCell _ _ _ _ hne]
    exact hk
  · simp [World.setCell]
    omega
  · simp [World.setCell]
    omega
  · rw [Below.heap_setCell _ _ _ _ h2, hg.block i (by simp; omega) (fun e => by have := (hown.lt i e.symm).1; omega)]
    exact Below.heap_alloc _ _ _ (by omega)

theorem ta_name (a : Addr) (w : World) : (Instr.typeAssert (.iface 37 (.pointer (some a))) 34 37 true).run Try.prog w = .ok (.tuple #[.pointer (some a), .bool true]) w := by kernel_rfl
theorem ta_tmpl (a : Addr) (w : World) : (Instr.typeAssert (.iface 54 (.pointer (some a))) 34 37 true).run Try.prog w = .ok (.tuple #[.pointer none, .bool false]) w := by kernel_rfl

set_option maxRecDepth 100000 in
set_option maxHeartbeats 1000000 in
theorem visit_name {I : Nat → Prop} (B ob kb : Nat) (out : List ByteArray) (k : Int) (x : Value) (s : ByteArray) (w : World) (hx : IsName w I x s) (h : St B ob kb out k w) (hlen : out.length ≤ 2147483648) :
    Calls Try.prog 13 #[x, .pointer (some ⟨ob, 0, none⟩), .pointer (some ⟨kb, 0, none⟩)] w fun e w' => e = .returned (.bool true) ∧ St B ob kb (out ++ [s]) k w' ∧ Only B ob kb w w' := by
  obtain ⟨v, ho, hown, hk, hB⟩ := h
  obtain ⟨b, rfl, _, hb⟩ := hx
  obtain ⟨i0, hi, hz0, hz1, hz2⟩ := info_parts infoStr
  have hol := lt_of_block ho
  have hkl := lt_of_block hk
  have hbl := lt_of_block hb
  obtain ⟨v', w', hrun, hown', hg⟩ := run_append_row (P := Try.prog) ((w.alloc (.cells #[.string s] 9)).drew) B 22 22 9 i0 (.string ByteArray.empty) 16 Try.underlying22 hi hz0 hz1 hz2 rfl v out.length (strv out) ((hown.alloc _).drew)
    (.slice (some ⟨w.heap.size, 0, none⟩) 1 1) [.string s] (I := fun _ => True) (show SliceOf ((w.alloc (.cells #[.string s] 9)).drew) (fun _ => True) _ _ from SliceOf.one w.drew (fun _ => True) _ _ rfl trivial) (fun u hu => by simp at hu; subst hu; rfl) (by simp [maxLen]; omega) (by simp; omega) (by simp; omega)
  obtain ⟨a', c', hv', _, _, _⟩ := (SliceOf.owned (I := fun _ => True) hown' (fun _ _ _ => trivial)).lay
  subst hv'
  have far : ∀ (i : Nat) (cs : Array Value) (t : TypeId), w.heap[i]? = some (Obj.cells cs t (0, 0)) → t ≠ 9 → w'.heap[i]? = some (Obj.cells cs t (0, 0)) := fun i cs t hc hne => by
    have hlt := lt_of_block hc
    rw [hg.block i (by simp; omega) (ne_ownBlock hown hc hne)]
    show (w.alloc _).heap[i]? = _
    rw [Below.heap_alloc _ _ _ hlt]
    exact hc
  have ho' := far ob _ _ ho (by decide)
  have hk' := far kb _ _ hk (by decide)
  have co := cell_of_one ho
  have co' := cell_of_one ho'
  have fo' := free_of_one ho'
  have cb := cell_of_one hb
  have X := Lib.hid (visit_end hown hB hol hkl hg hown' ho' hk')
  clear hg hown' ho' hk' far hown ho hk hb hi hz0 hz1 hz2 hB
  have hta := fun W => ta_name ⟨b, 0, none⟩ W
  have HR := Lib.hid hrun
  clear hrun
  go_enter Try.func13, Try.ntmps13
  go_wp2
  go_region_law (refine step_append_run rfl _ _ _ _ rfl _ _ _ _ rfl rfl HR.out ?_)
  all_goals (go_wp2; go_ret; exact ⟨rfl, by simpa using X.out⟩)

set_option maxRecDepth 100000 in
set_option maxHeartbeats 1000000 in
theorem visit_tmpl (B ob kb : Nat) (out : List ByteArray) (k : Int) (p : Addr) (w : World) (h : St B ob kb out k w) (hk0 : 0 ≤ k) (hk1 : k ≤ 2147483648) :
    Calls Try.prog 13 #[.iface 54 (.pointer (some p)), .pointer (some ⟨ob, 0, none⟩), .pointer (some ⟨kb, 0, none⟩)] w fun e w' => e = .returned (.bool (decide (1 ≤ k))) ∧ St B ob kb out (k - 1) w' ∧ Only B ob kb w w' := by
  have hta := fun W => ta_tmpl p W
  have h0 := h
  obtain ⟨v, ho, hown, hk, hB⟩ := h
  have hkl := lt_of_block hk
  have hne : ob ≠ kb := by
    rintro rfl
    rw [ho] at hk
    simp at hk
  have e1 : St B ob kb out (k - 1) (w.setCell ⟨kb, 0, none⟩ (.int .i64 (k - 1))) :=
    ⟨v, by rw [Below.heap_setCell _ _ _ _ hne]; exact ho, ownsRow_setCell_other hown (a := ⟨kb, 0, none⟩) (Ne.symm (ne_ownBlock hown hk (by decide))) _, one_setCell hk, by simpa [World.setCell] using hB⟩
  have e2 : Only B ob kb w (w.setCell ⟨kb, 0, none⟩ (.int .i64 (k - 1))) :=
    ⟨rfl, rfl, rfl, by simp [World.setCell], fun i h1 h2 h3 => Below.heap_setCell _ _ _ _ h3⟩
  have X := Lib.hid (And.intro e1 e2)
  have ck := cell_of_one hk
  have fk := free_of_one hk
  have hck : (w.setCell ⟨kb, 0, none⟩ (.int .i64 (k - 1))).cell? ⟨kb, 0, none⟩ = some (.int .i64 (k - 1)) := cell_of_one (one_setCell hk)
  clear e1 e2 ho hown hk hB hne hkl h0
  go_enter Try.func13, Try.ntmps13
  go_wp2
  all_goals go_ret
  all_goals exact ⟨ret_bool (by simp), X.out⟩

end Go.Proofs.Ytnhccgbkalpcnaa
