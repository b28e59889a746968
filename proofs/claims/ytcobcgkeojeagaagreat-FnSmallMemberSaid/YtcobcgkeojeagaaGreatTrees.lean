/- Trees that are printed in the order of their parts, made one block after the other. -/
import Derived.Test.YtcobcgkeojeagaaGreatToStr
namespace Go.Proofs.YtcobcgkeojeagaaGreat
open Go.RowKit

def AnyInner (_ : Value) (_ : List Value) : Prop := True

/-- in every later world, v is printed as o -/
def Pr (G : Value → List Value → Prop) (w : World) (d : Nat) (v : Value) (o : List UInt8) : Prop := ∀ W, Below w.heap.size w W → Prints G W.heap.size W d v o

theorem Pr.later {G : Value → List Value → Prop} {w w' : World} {d : Nat} {v : Value} {o : List UInt8} (h : Pr G w d v o) (hb : Below w.heap.size w w') : Pr G w' d v o := fun W hW => h W (hb.trans (hW.mono hb.size))
theorem Pr.more {G : Value → List Value → Prop} {w : World} {d e : Nat} {v : Value} {o : List UInt8} (h : Pr G w d v o) (he : d ≤ e) : Pr G w e v o := fun W hW => (h W hW).more he
theorem Pr.lt {G : Value → List Value → Prop} {w : World} {d : Nat} {v : Value} {o : List UInt8} (h : Pr G w d v o) : blkOf v < w.heap.size := (h w (Below.refl _ _)).node.2
theorem Pr.now {G : Value → List Value → Prop} {w : World} {d : Nat} {v : Value} {o : List UInt8} (h : Pr G w d v o) : Prints G w.heap.size w d v o := h w (Below.refl _ _)
theorem Pr.one {G : Value → List Value → Prop} {w : World} {d : Nat} {v : Value} {o : List UInt8} (h : Pr G w d v o) : ∃ T q, v = .iface T (.pointer (some ⟨q, 0, none⟩)) := by
  obtain ⟨T, f, q, cs, t, d', hv, _⟩ := h.now
  exact ⟨T, q, hv⟩

theorem Pr.name (G : Value → List Value → Prop) {I : Nat → Prop} {w : World} {v : Value} {s : ByteArray} (h : IsName w I v s) (hlt : blkOf v < w.heap.size) : Pr G w 1 v s.data.toList := by
  intro W hW
  obtain ⟨q, rfl, hI, hc⟩ := h
  have hc' : W.heap[q]? = some (Obj.cells #[.string s] 60 (0, 0)) := (hW.block q hlt).trans hc
  exact prints_name G (I := I) ⟨q, rfl, hI, hc'⟩ (Nat.lt_of_lt_of_le hlt hW.size)

/-- a Name that is made now -/
theorem Pr.newName (G : Value → List Value → Prop) (w : World) (s : ByteArray) : Pr G (w.alloc (.cells #[.string s] 60)) 1 (.iface 58 (.pointer (some ⟨w.heap.size, 0, none⟩))) s.data.toList :=
  Pr.name G (I := fun _ => True) (IsName.made w s rfl trivial) (by simp [blkOf])

theorem Pr.alloc {G : Value → List Value → Prop} {w : World} {d : Nat} {v : Value} {o : List UInt8} (h : Pr G w d v o) (x : Obj) : Pr G (w.alloc x) d v o := h.later ((Below.refl _ _).alloc (Nat.le_refl _) _)

/-- the block that is made last, in every later world -/
theorem last_block {w W : World} {x : Obj} (hW : Below (w.alloc x).heap.size (w.alloc x) W) : W.heap[w.heap.size]? = some x := by
  rw [hW.block _ (by simp)]
  exact heap_alloc_new w _

theorem Pr.qual {G : Value → List Value → Prop} {w : World} {d e : Nat} {x y : Value} {o1 o2 : List UInt8} (hx : Pr G w d x o1) (hy : Pr G w d y o2) (l : Bool) (he : e = w.heap.size) :
    Pr G (w.alloc (.cells #[x, y, .bool l] 139)) (d + 1) (.iface 137 (.pointer (some ⟨e, 0, none⟩))) (o1 ++ [58, 58] ++ o2) := by
  subst he
  intro W hW
  have hb := (Below.refl w.heap.size w).alloc (Nat.le_refl _) (.cells #[x, y, .bool l] 139)
  have hbW := hb.trans (hW.mono (by simp))
  have hs := hW.size
  simp at hs
  have hlt : w.heap.size < W.heap.size := by omega
  exact prints_of printer_qual (last_block hW) hlt (body_qual hlt (last_block hW) (hx W hbW) (hy W hbW) hx.lt hy.lt)

theorem ba_ext {a b : ByteArray} (h : a.data.toList = b.data.toList) : a = b := by
  cases a; cases b
  simp only [ByteArray.mk.injEq]
  exact Array.ext' h

theorem ret_str {a b : ByteArray} (h : a = b) : Ending.returned (.string a) = .returned (.string b) := by rw [h]
theorem ba_append (a b : ByteArray) : (a ++ b).data.toList = a.data.toList ++ b.data.toList := by simp
theorem ba_size (a : ByteArray) : a.data.toList.length = a.size := by rw [Array.length_toList]; rfl

end Go.Proofs.YtcobcgkeojeagaaGreat
