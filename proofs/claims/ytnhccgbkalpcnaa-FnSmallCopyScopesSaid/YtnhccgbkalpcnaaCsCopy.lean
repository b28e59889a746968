/- Copy over a name in scopes: none, or a name in scopes with other names in the places of some. -/
import Derived.Test.YtnhccgbkalpcnaaNames
import Derived.BigQuiet
import Derived.Deep.QuietTactic
namespace Go.Proofs.Ytnhccgbkalpcnaa
open Go.RowKit

/-- the element for a text -/
def ren (f t s : ByteArray) : ByteArray := if (s.toList == f.toList) = true then t else s
/-- there is one to be replaced -/
def hits (f : ByteArray) (l : List ByteArray) : Bool := l.any fun s => s.toList == f.toList

/-- a name in scopes, the last one first -/
def Chain (w : World) : Value → List ByteArray → Prop
  | _, [] => False
  | v, [s] => IsName w (Old w) v s
  | v, s :: s2 :: r => ∃ q sc nv, v = .iface 46 (.pointer (some ⟨q, 0, none⟩)) ∧ w.heap[q]? = some (.cells #[sc, nv, .bool false] 50 (0, 0)) ∧ IsName w (Old w) nv s ∧ Chain w sc (s2 :: r)

theorem old_lt {w : World} {i : Nat} {o : Obj} (h : w.heap[i]? = some o) : i < w.heap.size := lt_of_block h

theorem IsName.below {w w' : World} {v : Value} {s : ByteArray} (hb : Below w.heap.size w w') (h : IsName w (Old w) v s) : IsName w' (Old w') v s :=
  (h.same (Same.below hb fun _ h => h)).mono fun i (hi : i < w.heap.size) => Nat.lt_of_lt_of_le hi hb.size

theorem Chain.below {w w' : World} (hb : Below w.heap.size w w') : ∀ {l : List ByteArray} {v : Value}, Chain w v l → Chain w' v l
  | [], _, h => h.elim
  | [_], _, h => IsName.below hb h
  | _ :: _ :: _, _, ⟨q, sc, nv, hv, hc, hn, hr⟩ => ⟨q, sc, nv, hv, by rw [hb.block q (old_lt hc)]; exact hc, IsName.below hb hn, Chain.below hb hr⟩

/-- the two strings that the function to be replaced with holds -/
def Cls (w : World) (c1 c2 : Nat) (f t : ByteArray) : Prop := w.heap[c1]? = some (.cells #[.string f] 9 (0, 0)) ∧ w.heap[c2]? = some (.cells #[.string t] 9 (0, 0))

theorem Cls.below {w w' : World} {c1 c2 : Nat} {f t : ByteArray} (h : Cls w c1 c2 f t) (hb : Below w.heap.size w w') : Cls w' c1 c2 f t :=
  ⟨by rw [hb.block c1 (old_lt h.1)]; exact h.1, by rw [hb.block c2 (old_lt h.2)]; exact h.2⟩

def CopyRes (f t : ByteArray) (l : List ByteArray) (w w' : World) (e : Ending) : Prop :=
  Below w.heap.size w w' ∧ ((hits f l = false ∧ e = .returned .nilIface) ∨ (hits f l = true ∧ ∃ v, e = .returned v ∧ Chain w' v (l.map (ren f t))))

set_option maxHeartbeats 400000 in
theorem skip_any (v : Value) (w : World) : Calls Try.prog 16 #[v] w fun e w' => e = .returned (.bool false) ∧ w = w' := by
  go_enter Try.func16, Try.ntmps16
  go_wp2_with fail
  go_ret
  exact ⟨rfl, rfl⟩

theorem tn_name (a : Addr) (w : World) : (Instr.typeAssert (.iface 37 (.pointer (some a))) 34 37 true).run Try.prog w = .ok (.tuple #[.pointer (some a), .bool true]) w := by kernel_rfl
theorem tn_qual (a : Addr) (w : World) : (Instr.typeAssert (.iface 46 (.pointer (some a))) 34 37 true).run Try.prog w = .ok (.tuple #[.pointer none, .bool false]) w := by kernel_rfl

theorem below_drewN {B : Nat} {a w : World} (h : Below B a w) (n : Nat) : Below B a (w.drewN n) := ⟨h.os, h.tape, h.output, h.size, h.block⟩

set_option maxRecDepth 100000 in
set_option maxHeartbeats 1000000 in
theorem rn_name {c1 c2 : Nat} {f t s : ByteArray} {w : World} {b : Nat} (hb : w.heap[b]? = some (.cells #[.string s] 40 (0, 0))) (hc : Cls w c1 c2 f t) :
    Calls Try.prog 20 #[.iface 37 (.pointer (some ⟨b, 0, none⟩)), .pointer (some ⟨c1, 0, none⟩), .pointer (some ⟨c2, 0, none⟩)] w fun e w' => CopyRes f t [s] w w' e := by
  have r0 := cell_of_one hb
  have r1 := cell_of_one hc.1
  have r2 := cell_of_one hc.2
  have ht := fun W => tn_name ⟨b, 0, none⟩ W
  cases hh : (s.toList == f.toList) with
  | true =>
    have HX := Lib.hid (show ∀ n, CopyRes f t [s] w ((w.drewN n).alloc (.cells #[.string t] 40)) (.returned (.iface 37 (.pointer (some ⟨w.heap.size, 0, none⟩)))) from fun n =>
      ⟨(below_drewN (Below.refl _ _) n).alloc (Nat.le_refl _) _, .inr ⟨by simp [hits, hh], _, rfl, by
        show IsName _ _ _ _
        rw [ren, if_pos hh]
        exact IsName.made (w.drewN n) t rfl (by show _ < _; simp)⟩⟩)
    clear hb hc
    go_enter Try.func20, Try.ntmps20
    go_wp2_with fail
    go_quiet (fail)
    go_wp2_with fail
    go_ret
    exact HX.out nq
  | false =>
    have HX := Lib.hid (show ∀ n, CopyRes f t [s] w (w.drewN n) (.returned .nilIface) from fun n => ⟨below_drewN (Below.refl _ _) n, .inl ⟨by simp [hits, hh], rfl⟩⟩)
    clear hb hc
    go_enter Try.func20, Try.ntmps20
    go_wp2_with fail
    go_quiet (fail)
    go_wp2_with fail
    go_ret
    exact HX.out nq

set_option maxRecDepth 100000 in
set_option maxHeartbeats 1000000 in
theorem rn_qual {c1 c2 : Nat} {w : World} {b : Nat} :
    Calls Try.prog 20 #[.iface 46 (.pointer (some ⟨b, 0, none⟩)), .pointer (some ⟨c1, 0, none⟩), .pointer (some ⟨c2, 0, none⟩)] w fun e w' => e = .returned .nilIface ∧ Below w.heap.size w w' := by
  have ht := fun W => tn_qual ⟨b, 0, none⟩ W
  have HX := Lib.hid (show ∀ n, Below w.heap.size w (w.drewN n) from fun n => below_drewN (Below.refl _ _) n)
  go_enter Try.func20, Try.ntmps20
  go_wp2_with fail
  go_quiet (fail)
  go_wp2_with fail
  go_ret
  exact ⟨rfl, HX.out nq⟩

set_option maxRecDepth 100000 in
set_option maxHeartbeats 1000000 in
theorem copy_name {c1 c2 : Nat} {f t s : ByteArray} {w : World} {b : Nat} (hb : w.heap[b]? = some (.cells #[.string s] 40 (0, 0))) (hc : Cls w c1 c2 f t) :
    Calls Try.prog 36 #[.pointer (some ⟨b, 0, none⟩), .func (.func 20) #[] #[.pointer (some ⟨c1, 0, none⟩), .pointer (some ⟨c2, 0, none⟩)], .func (.func 16) #[] #[]] w fun e w' => CopyRes f t [s] w w' e := by
  have HR := Lib.hid (rn_name hb hc)
  have HS := fun v W => skip_any v W
  clear hb hc
  go_enter Try.func36, Try.ntmps36
  go_wp2_with fail
  refine (HS _ _).mono ?_
  rintro e w' ⟨rfl, rfl⟩
  go_wp2_with fail
  refine (HR.out).mono ?_
  rintro e w1 h1
  have H1 := Lib.hid h1
  obtain ⟨hb, ⟨_, rfl⟩ | ⟨_, v, rfl, _⟩⟩ := h1
  all_goals
    clear hb
    go_wp2_with fail
    go_ret
    exact H1.out

end Go.Proofs.Ytnhccgbkalpcnaa
