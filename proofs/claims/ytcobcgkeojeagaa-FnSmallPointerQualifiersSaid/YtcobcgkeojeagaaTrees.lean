/- Trees that are printed in the order of their parts, made one block after the other. -/
import Derived.Test.YtcobcgkeojeagaaToStr
namespace Go.Proofs.Ytcobcgkeojeagaa
open Go.RowKit

def AnyInner (_ : Value) (_ : List Value) : Prop := True

/-- in every later world, v is printed as o -/
def Pr (G : Value → List Value → Prop) (w : World) (d : Nat) (v : Value) (o : List UInt8) : Prop := ∀ W, Below w.heap.size w W → Prints G W.heap.size W d v o

theorem Pr.later {G : Value → List Value → Prop} {w w' : World} {d : Nat} {v : Value} {o : List UInt8} (h : Pr G w d v o) (hb : Below w.heap.size w w') : Pr G w' d v o := fun W hW => h W (hb.trans (hW.mono hb.size))
theorem Pr.more {G : Value → List Value → Prop} {w : World} {d e : Nat} {v : Value} {o : List UInt8} (h : Pr G w d v o) (he : d ≤ e) : Pr G w e v o := fun W hW => (h W hW).more he
theorem Pr.lt {G : Value → List Value → Prop} {w : World} {d : Nat} {v : Value} {o : List UInt8} (h : Pr G w d v o) : blkOf v < w.heap.size := (h w (Below.refl _ _)).node.2
theorem Pr.now {G : Value → List Value → Prop} {w : World} {d : Nat} {v : Value} {o : List UInt8} (h : Pr G w d v o) : Prints G w.heap.size w d v o := h w (Below.refl _ _)
theorem Pr.one {G : Value → List Value → Prop} {w : World} {d : Nat} {v : Value} {o : List UInt8} (h : Pr G w d v o) : ∃ T q, v = .iface T (.pointer (some ⟨q, 0, none⟩)) := by
  obtain ⟨T, f, q, cs, t, d', hv, _⟩ := h.now
  exact ⟨T, q, hv⟩

theorem Pr.name (G : Value → List Value → Prop) {I : Nat → Prop} {w : World} {v : Value} {s : ByteArray} (h : IsName w I v s) (hlt : blkOf v < w.heap.size) : Pr G w 1 v s.data.toList := by
  intro W hW
  obtain ⟨q, rfl, hI, hc⟩ := h
  have hc' : W.heap[q]? = some (Obj.cells #[.string s] 91 (0, 0)) := (hW.block q hlt).trans hc
  exact prints_name G (I := I) ⟨q, rfl, hI, hc'⟩ (Nat.lt_of_lt_of_le hlt hW.size)

/-- a Name that is made now -/
theorem Pr.newName (G : Value → List Value → Prop) (w : World) (s : ByteArray) : Pr G (w.alloc (.cells #[.string s] 91)) 1 (.iface 89 (.pointer (some ⟨w.heap.size, 0, none⟩))) s.data.toList :=
  Pr.name G (I := fun _ => True) (IsName.made w s rfl trivial) (by simp [blkOf])

theorem Pr.alloc {G : Value → List Value → Prop} {w : World} {d : Nat} {v : Value} {o : List UInt8} (h : Pr G w d v o) (x : Obj) : Pr G (w.alloc x) d v o := h.later ((Below.refl _ _).alloc (Nat.le_refl _) _)

/-- the block that is made last, in every later world -/
theorem last_block {w W : World} {x : Obj} (hW : Below (w.alloc x).heap.size (w.alloc x) W) : W.heap[w.heap.size]? = some x := by
  rw [hW.block _ (by simp)]
  exact heap_alloc_new w _

theorem Pr.qual {G : Value → List Value → Prop} {w : World} {d e : Nat} {x y : Value} {o1 o2 : List UInt8} (hx : Pr G w d x o1) (hy : Pr G w d y o2) (l : Bool) (he : e = w.heap.size) :
    Pr G (w.alloc (.cells #[x, y, .bool l] 94)) (d + 1) (.iface 92 (.pointer (some ⟨e, 0, none⟩))) (o1 ++ [58, 58] ++ o2) := by
  subst he
  intro W hW
  have hb := (Below.refl w.heap.size w).alloc (Nat.le_refl _) (.cells #[x, y, .bool l] 94)
  have hbW := hb.trans (hW.mono (by simp))
  have hs := hW.size
  simp at hs
  have hlt : w.heap.size < W.heap.size := by omega
  exact prints_of printer_qual (last_block hW) hlt (body_qual hlt (last_block hW) (hx W hbW) (hy W hbW) hx.lt hy.lt)

theorem Pr.tag {G : Value → List Value → Prop} {w : World} {d e : Nat} {x y : Value} {o1 o2 : List UInt8} (hx : Pr G w d x o1) (hy : Pr G w d y o2) (he : e = w.heap.size) :
    Pr G (w.alloc (.cells #[x, y] 56)) (d + 1) (.iface 54 (.pointer (some ⟨e, 0, none⟩))) (o1 ++ [91, 97, 98, 105, 58] ++ o2 ++ [93]) := by
  subst he
  intro W hW
  have hbW := ((Below.refl w.heap.size w).alloc (Nat.le_refl _) (.cells #[x, y] 56)).trans (hW.mono (by simp))
  have hs := hW.size
  simp at hs
  have hlt : w.heap.size < W.heap.size := by omega
  exact prints_of printer_tag (last_block hW) hlt (body_tag hlt (last_block hW) (hx W hbW) (hy W hbW) hx.lt hy.lt)

theorem Pr.special {G : Value → List Value → Prop} {w : World} {d e : Nat} {x : Value} {o1 : List UInt8} (hx : Pr G w d x o1) (p : ByteArray) (he : e = w.heap.size) :
    Pr G (w.alloc (.cells #[.string p, x] 50)) (d + 1) (.iface 45 (.pointer (some ⟨e, 0, none⟩))) (p.data.toList ++ o1) := by
  subst he
  intro W hW
  have hbW := ((Below.refl w.heap.size w).alloc (Nat.le_refl _) (.cells #[.string p, x] 50)).trans (hW.mono (by simp))
  have hs := hW.size
  simp at hs
  have hlt : w.heap.size < W.heap.size := by omega
  exact prints_of printer_special (last_block hW) hlt (body_special hlt (last_block hW) (hx W hbW) hx.lt)

theorem Pr.special2 {G : Value → List Value → Prop} {w : World} {d e : Nat} {x y : Value} {o1 o2 : List UInt8} (hx : Pr G w d x o1) (hy : Pr G w d y o2) (p m : ByteArray) (he : e = w.heap.size) :
    Pr G (w.alloc (.cells #[.string p, x, .string m, y] 53)) (d + 1) (.iface 51 (.pointer (some ⟨e, 0, none⟩))) (p.data.toList ++ o1 ++ m.data.toList ++ o2) := by
  subst he
  intro W hW
  have hbW := ((Below.refl w.heap.size w).alloc (Nat.le_refl _) (.cells #[.string p, x, .string m, y] 53)).trans (hW.mono (by simp))
  have hs := hW.size
  simp at hs
  have hlt : w.heap.size < W.heap.size := by omega
  exact prints_of printer_special2 (last_block hW) hlt (body_special2 hlt (last_block hW) (hx W hbW) (hy W hbW) hx.lt hy.lt)

theorem ba_ext {a b : ByteArray} (h : a.data.toList = b.data.toList) : a = b := by
  cases a; cases b
  simp only [ByteArray.mk.injEq]
  exact Array.ext' h

theorem ret_str {a b : ByteArray} (h : a = b) : Ending.returned (.string a) = .returned (.string b) := by rw [h]
theorem ba_append (a b : ByteArray) : (a ++ b).data.toList = a.data.toList ++ b.data.toList := by simp
theorem ba_size (a : ByteArray) : a.data.toList.length = a.size := by rw [Array.length_toList]; rfl

set_option maxRecDepth 100000 in
set_option maxHeartbeats 1000000 in
theorem printSpecial_any (p s : ByteArray) (w : World) (hp : p.size ≤ 2147483647) (hs : s.size ≤ 2147483647) :
    Calls Try.prog 14 #[.string p, .string s] w fun e w' => e = .returned (.string (p ++ s)) ∧ Below w.heap.size w w' := by
  have h1 := Pr.special (Pr.newName AnyInner w s) p (e := w.heap.size + 1) (by simp)
  have h2 := toString_any (G := AnyInner) trivial h1.now (by omega) (by rw [List.length_append, ba_size, ba_size]; omega)
  have HB := Lib.hid (((Below.refl w.heap.size w).alloc (Nat.le_refl _) (.cells #[.string s] 91)).alloc (by simp) (.cells #[.string p, .iface 89 (.pointer (some ⟨w.heap.size, 0, none⟩))] 50))
  have HC := Lib.hid h2
  clear h1 h2
  go_enter Try.func14, Try.ntmps14
  go_wp2_with fail
  refine (name_any _ _).mono ?_
  rintro e w1 ⟨rfl, rfl⟩
  go_wp2_with fail
  refine (HC.out).mono ?_
  rintro e w2 ⟨rfl, b2⟩
  have HX := Lib.hid (HB.out.trans (b2.mono (by simp; omega)))
  clear b2
  go_wp2_with fail
  go_ret
  exact ⟨ret_str (ba_ext (by rw [ba_append])), HX.out⟩

set_option maxRecDepth 100000 in
set_option maxHeartbeats 1000000 in
theorem printSpecialTwo_any (p s m t : ByteArray) (w : World) (hp : p.size ≤ 2147483647) (hs : s.size ≤ 2147483647) (hm : m.size ≤ 2147483647) (ht : t.size ≤ 2147483647) :
    Calls Try.prog 15 #[.string p, .string s, .string m, .string t] w fun e w' => e = .returned (.string (p ++ s ++ m ++ t)) ∧ Below w.heap.size w w' := by
  have hn2 := Pr.newName AnyInner (w.alloc (.cells #[.string s] 91)) t
  simp only [World.size_alloc] at hn2
  have h1 := Pr.special2 ((Pr.newName AnyInner w s).alloc (.cells #[.string t] 91)) hn2 p m (e := w.heap.size + 1 + 1) (by simp)
  have h2 := toString_any (G := AnyInner) trivial h1.now (by omega) (by simp only [List.length_append, ba_size]; omega)
  have HB := Lib.hid ((((Below.refl w.heap.size w).alloc (Nat.le_refl _) (.cells #[.string s] 91)).alloc (by simp) (.cells #[.string t] 91)).alloc (by simp; omega) (.cells #[.string p, .iface 89 (.pointer (some ⟨w.heap.size, 0, none⟩)), .string m, .iface 89 (.pointer (some ⟨w.heap.size + 1, 0, none⟩))] 53))
  have HC := Lib.hid h2
  clear h1 h2 hn2
  go_enter Try.func15, Try.ntmps15
  go_wp2_with fail
  refine (name_any _ _).mono ?_
  rintro e w1 ⟨rfl, rfl⟩
  go_wp2_with fail
  refine (name_any _ _).mono ?_
  rintro e w1 ⟨rfl, rfl⟩
  go_wp2_with fail
  refine (HC.out).mono ?_
  rintro e w2 ⟨rfl, b2⟩
  have HX := Lib.hid (HB.out.trans (b2.mono (by simp; omega)))
  clear b2
  go_wp2_with fail
  go_ret
  exact ⟨ret_str (ba_ext (by simp only [ba_append, List.append_assoc])), HX.out⟩
end Go.Proofs.Ytcobcgkeojeagaa
