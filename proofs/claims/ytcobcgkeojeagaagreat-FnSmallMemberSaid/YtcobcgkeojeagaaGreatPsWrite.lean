/- What the printer's writeString and writeByte do to its state. -/
import Derived.Test.YtcobcgkeojeagaaGreatPs
namespace Go.Proofs.YtcobcgkeojeagaaGreat
open Go.RowKit

theorem infoByte : (Tryz.prog.info? 5).map (fun i => (i.zero, i.size, i.bytes)) = some (some (.int .u8 0), 1, 1) := by kernel_rfl

/-- an append to the buffer: what the state is behind the store of the new slice -/
theorem PS.appended {b : Nat} {sc last : Int} {text more : List UInt8} {iv : Value} {inn pr : List Value} {w w' : World} {ad : Option Addr} {buf pv buf' : Value} (h : PS b sc last text iv inn pr w ad buf pv)
    (hown : w'.ownsRow b 5 1 buf' (text.length + more.length) (Lib.byteCells text ++ Lib.byteCells more)) (hg : w.grownBy w' buf.ownBlock) :
    PS b sc last (text ++ more) iv inn pr (w'.setCell ⟨b, 6, none⟩ buf') ad buf' pv ∧ Kept b w (w'.setCell ⟨b, 6, none⟩ buf') := by
  have hlt := lt_of_block h.block
  have hb : w'.heap[b]? = some (Obj.cells (psCells sc ad buf last iv pv) 54 (0, 0)) := by
    rw [hg.block b hlt (ne_ownBlock h.bufOwn h.block (by decide))]
    exact h.block
  have far : ∀ {v : Value} {n : Nat} {xs : List Value}, w.ownsRow b 35 1 v n xs → w'.ownsRow b 35 1 v n xs := by
    intro v n xs ho
    refine ho.kept hg ?_
    rcases ho.2 with ⟨rfl, _⟩ | ⟨g, cap, cur, rfl, _, hgg, _⟩
    · exact .inl rfl
    · exact .inr (ne_ownBlock h.bufOwn hgg (by decide))
  have p0 : PS b sc last text iv inn pr w' ad buf pv ∨ True := .inr trivial
  have put : ∀ {e : TypeId} {v : Value} {n : Nat} {xs : List Value}, w'.ownsRow b e 1 v n xs → 54 ≠ e → (w'.setCell ⟨b, 6, none⟩ buf').ownsRow b e 1 v n xs := fun ho he =>
    ownsRow_setCell_other ho (a := ⟨b, 6, none⟩) (Ne.symm (ne_ownBlock ho hb he)) _
  refine ⟨⟨heap_setCell_same hb, h.adOk, ?_, put (far h.ivOwn) (by decide), put (far h.pvOwn) (by decide), h.apart⟩, ((Kept.refl b w).grown hg (by omega) h.bufOwn (.inl rfl)).setOwn _ _⟩
  have := put hown (by decide)
  rw [← Lib.byteCells_append, ← List.length_append] at this
  exact this

set_option maxRecDepth 100000 in
set_option maxHeartbeats 1000000 in
theorem bWriteString {b : Nat} {sc last : Int} {text : List UInt8} {iv : Value} {inn pr : List Value} {w : World} {ad : Option Addr} {buf pv : Value} (h : PS b sc last text iv inn pr w ad buf pv) (s : ByteArray) (hlen : text.length + s.size ≤ 140737488355328) :
    Calls Tryz.prog 55 #[.pointer (some ⟨b, 5, none⟩), .string s] w fun e w' => e = .returned (.tuple #[.int .i64 s.size, .nilIface]) ∧ PSt b sc last (text ++ s.data.toList) iv inn pr w' ∧ Kept b w w' := by
  have HC := Lib.hid (copyCheck_any h)
  obtain ⟨i0, hi, hz0, hz1, hz2⟩ := info_parts infoByte
  clear h
  go_enter Tryz.func55, Tryz.ntmps55
  go_wp2_with fail
  refine (HC.out).mono ?_
  rintro e w1 ⟨rfl, h1, k1⟩
  have hbs := (lt_of_block h1.block)
  obtain ⟨v', w2, hrun, hown, hg, _⟩ := Lib.run_append_own_string (P := Tryz.prog) w1 b 49 9 49 5 i0 Tryz.underlying49 Tryz.underlying9 hi hz0 hz1 hz2 buf text.length (Lib.byteCells text) h1.bufOwn s (by unfold maxLen; omega) hlen (by omega)
  have hss : s.data.toList.length = s.size := by rw [Array.length_toList]; rfl
  obtain ⟨p1, k2⟩ := h1.appended (more := s.data.toList) (by rw [hss, ← Lib.strCells_eq]; exact hown) hg
  obtain ⟨a2, c2, hv2, _, _, _⟩ := (SliceOf.owned (I := fun _ => True) hown (fun _ _ _ => trivial)).lay
  have c6 := h1.cells.2.2.2.2.2.2.1
  have hb2 : w2.heap[b]? = some (Obj.cells (psCells sc (some ⟨b, 5, none⟩) buf last iv pv) 54 (0, 0)) := by
    rw [hg.block b hbs (ne_ownBlock h1.bufOwn h1.block (by decide))]
    exact h1.block
  have d6 : w2.cell? ⟨b, 6, none⟩ = some buf := cell_at hb2 rfl
  have f6 : w2.frozen? ⟨b, 6, none⟩ = false := free_at hb2
  subst hv2
  have HR := Lib.hid hrun
  have X := Lib.hid (And.intro (show PSt b sc last (text ++ s.data.toList) iv inn pr _ from ⟨_, _, _, p1⟩) (k1.trans k2))
  clear hrun p1 k2 k1 h1 hown hg hb2 HC hi hz0 hz1 hz2 hss
  go_wp2_with (at_builtin; refine wpList_append_run rfl _ _ _ _ rfl _ _ _ _ rfl rfl HR.out ?_)
  go_ret2
  exact ⟨rfl, by simpa using X.out⟩

theorem PS.alloc {b : Nat} {sc last : Int} {text : List UInt8} {iv : Value} {inn pr : List Value} {w : World} {ad : Option Addr} {buf pv : Value} (h : PS b sc last text iv inn pr w ad buf pv) (o : Obj) : PS b sc last text iv inn pr (w.alloc o) ad buf pv :=
  ⟨by rw [Below.heap_alloc _ _ _ (lt_of_block h.block)]; exact h.block, h.adOk, h.bufOwn.alloc _, h.ivOwn.alloc _, h.pvOwn.alloc _, h.apart⟩

theorem byteCells_one (c : UInt8) : Lib.byteCells [c] = [.int .u8 c.toNat] := rfl

set_option maxRecDepth 100000 in
set_option maxHeartbeats 1000000 in
theorem bWriteByte {b : Nat} {sc last : Int} {text : List UInt8} {iv : Value} {inn pr : List Value} {w : World} {ad : Option Addr} {buf pv : Value} (h : PS b sc last text iv inn pr w ad buf pv) (c : UInt8) (hlen : text.length + 1 ≤ 140737488355328) :
    Calls Tryz.prog 42 #[.pointer (some ⟨b, 5, none⟩), .int .u8 c.toNat] w fun e w' => e = .returned .nilIface ∧ PSt b sc last (text ++ [c]) iv inn pr w' ∧ Kept b w w' := by
  have HC := Lib.hid (copyCheck_any h)
  obtain ⟨i0, hi, hz0, hz1, hz2⟩ := info_parts infoByte
  clear h
  generalize hc : (c.toNat : Int) = n
  have HCN := Lib.hid hc
  clear hc
  go_enter Tryz.func42, Tryz.ntmps42
  go_wp2_with fail
  refine (HC.out).mono ?_
  rintro e w1 ⟨rfl, h1, k1⟩
  have h2 := h1.alloc (.cells #[.int .u8 n] 5)
  have hbs := (lt_of_block h1.block)
  obtain ⟨v', w2, hrun, hown, hg⟩ := run_append_row (P := Tryz.prog) (w1.alloc (.cells #[.int .u8 n] 5)) b 49 49 5 i0 (.int .u8 0) 1 Tryz.underlying49 hi hz0 hz1 hz2 rfl buf text.length (Lib.byteCells text) h2.bufOwn
    (.slice (some ⟨w1.heap.size, 0, none⟩) 1 1) [.int .u8 n] (I := fun _ => True) (SliceOf.one w1 _ _ _ rfl trivial) (fun u hu => by simp at hu; subst hu; rfl) (by simp [maxLen]; omega) (by simp; omega) (by simp; omega)
  obtain ⟨p1, k2⟩ := h2.appended (more := [c]) (by rw [byteCells_one, HCN.out]; exact hown) hg
  obtain ⟨a2, c2, hv2, _, _, _⟩ := (SliceOf.owned (I := fun _ => True) hown (fun _ _ _ => trivial)).lay
  have c6 := h2.cells.2.2.2.2.2.2.1
  have e6 := h1.cells.2.2.2.2.2.2.1
  have hb2 : w2.heap[b]? = some (Obj.cells (psCells sc (some ⟨b, 5, none⟩) buf last iv pv) 54 (0, 0)) := by
    rw [hg.block b (by simp; omega) (ne_ownBlock h2.bufOwn h2.block (by decide))]
    exact h2.block
  have d6 : w2.cell? ⟨b, 6, none⟩ = some buf := cell_at hb2 rfl
  have f6 : w2.frozen? ⟨b, 6, none⟩ = false := free_at hb2
  subst hv2
  have HR := Lib.hid hrun
  have X := Lib.hid (And.intro (show PSt b sc last (text ++ [c]) iv inn pr _ from ⟨_, _, _, p1⟩) ((k1.alloc (by omega) (.cells #[.int .u8 n] 5)).trans k2))
  clear hrun p1 k2 k1 h1 h2 hown hg hb2 HC hi hz0 hz1 hz2
  go_wp2_with (at_builtin; refine wpList_append_run rfl _ _ _ _ rfl _ _ _ _ rfl rfl HR.out ?_)
  go_ret
  exact ⟨rfl, by simpa using X.out⟩

/-- the last byte that has been written -/
def lastOf (last : Int) (o : List UInt8) : Int := match o.getLast? with
  | some c => c.toNat
  | none => last

theorem lastOf_size (last : Int) (s : ByteArray) (h : 0 < s.size) : lastOf last s.data.toList = (s[s.size - 1].toNat : Int) := by
  have hl : s.data.toList.length = s.size := by rw [Array.length_toList]; rfl
  have e : s.data.toList.getLast? = some (s[s.size - 1]) := by
    rw [List.getLast?_eq_getElem?, hl, List.getElem?_eq_getElem (by omega)]
    rfl
  simp only [lastOf, e]

theorem PS.setLast {b : Nat} {sc last : Int} {text : List UInt8} {iv : Value} {inn pr : List Value} {w : World} {ad : Option Addr} {buf pv : Value} (h : PS b sc last text iv inn pr w ad buf pv) (n : Int) :
    PS b sc n text iv inn pr (w.setCell ⟨b, 7, none⟩ (.int .u8 n)) ad buf pv :=
  ⟨heap_setCell_same h.block, h.adOk, h.put _ _ h.bufOwn (by decide), h.put _ _ h.ivOwn (by decide), h.put _ _ h.pvOwn (by decide), h.apart⟩

set_option maxRecDepth 100000 in
set_option maxHeartbeats 1000000 in
theorem writeByte_any {b : Nat} {sc last : Int} {text : List UInt8} {iv : Value} {inn pr : List Value} {w : World} (h : PSt b sc last text iv inn pr w) (c : UInt8) (hlen : text.length + 1 ≤ 140737488355328) :
    Calls Tryz.prog 40 #[.pointer (some ⟨b, 0, none⟩), .int .u8 c.toNat] w fun e w' => e = .returned (.tuple #[]) ∧ PSt b sc c.toNat (text ++ [c]) iv inn pr w' ∧ Kept b w w' := by
  obtain ⟨ad, buf, pv, h⟩ := h
  have HC := Lib.hid (bWriteByte (h.setLast c.toNat) c hlen)
  have HK := Lib.hid ((Kept.refl b w).setOwn 7 (.int .u8 c.toNat))
  have c7 := h.cells.2.2.2.2.2.2.2.1
  have f7 : w.frozen? ⟨b, 7, none⟩ = false := free_at h.block
  clear h
  generalize hc : (c.toNat : Int) = n at *
  have HCN := Lib.hid hc
  clear hc
  go_enter Tryz.func40, Tryz.ntmps40
  go_wp2_with fail
  refine (HC.out).mono ?_
  rintro e w1 ⟨rfl, h1, k1⟩
  have X := Lib.hid (And.intro h1 (HK.out.trans k1))
  clear h1 k1
  go_wp2_with fail
  go_end0
  exact ⟨rfl, X.out⟩

set_option maxRecDepth 100000 in
set_option maxHeartbeats 1000000 in
theorem writeString_any {b : Nat} {sc last : Int} {text : List UInt8} {iv : Value} {inn pr : List Value} {w : World} (h : PSt b sc last text iv inn pr w) (s : ByteArray) (hlen : text.length + s.size ≤ 140737488355328) :
    Calls Tryz.prog 53 #[.pointer (some ⟨b, 0, none⟩), .string s] w fun e w' => e = .returned (.tuple #[]) ∧ PSt b sc (lastOf last s.data.toList) (text ++ s.data.toList) iv inn pr w' ∧ Kept b w w' := by
  obtain ⟨ad, buf, pv, h⟩ := h
  by_cases h0 : 0 < s.size
  · have c7 := h.cells.2.2.2.2.2.2.2.1
    have f7 : w.frozen? ⟨b, 7, none⟩ = false := free_at h.block
    have HC := Lib.hid (bWriteString (h.setLast (s[s.size - 1].toNat)) s hlen)
    have HK := Lib.hid ((Kept.refl b w).setOwn 7 (.int .u8 (s[s.size - 1].toNat)))
    have HL := Lib.hid (lastOf_size last s h0)
    clear h
    go_enter Tryz.func53, Tryz.ntmps53
    go_wp2_with fail
    refine (HC.out).mono ?_
    rintro e w1 ⟨rfl, h1, k1⟩
    have X := Lib.hid (And.intro h1 (HK.out.trans k1))
    clear h1 k1 HK
    go_wp2_with fail
    go_end0
    exact ⟨rfl, by rw [HL.out]; exact X.out⟩
  · have HC := Lib.hid (bWriteString h s hlen)
    have hl : lastOf last s.data.toList = last := by
      have : s.data.toList = [] := List.eq_nil_of_length_eq_zero (by rw [Array.length_toList]; show s.size = 0; omega)
      rw [this]; rfl
    have HL := Lib.hid hl
    clear h hl
    go_enter Tryz.func53, Tryz.ntmps53
    go_wp2_with fail
    refine (HC.out).mono ?_
    rintro e w1 ⟨rfl, h1, k1⟩
    have X := Lib.hid (And.intro h1 k1)
    clear h1 k1
    go_wp2_with fail
    go_end0
    exact ⟨rfl, by rw [HL.out]; exact X.out⟩

end Go.Proofs.YtcobcgkeojeagaaGreat
