/- The printer's state, and strings.Builder's methods on the Builder that lies in its field. -/
import Derived.Test.YtcobcgkeojeagaaGreatFits
import Derived.Lib.Builder
import Derived.Lib.UnsafeStr
import Derived.Laws.Externs
namespace Go.Proofs.YtcobcgkeojeagaaGreat
open Go.RowKit

/-- the block of a printState -/
def psCells (sc : Int) (ad : Option Addr) (buf : Value) (last : Int) (iv pv : Value) : Array Value :=
  #[.bool true, .bool true, .bool false, .int .i64 0, .int .i64 sc, .pointer ad, buf, .int .u8 last, iv, pv]

/-- what the calls may have written below the state's rows: its own block and rows of bytes and of elements -/
structure Kept (b : Nat) (w w' : World) : Prop where
  os : w'.os = w.os
  tape : w'.tape = w.tape
  output : w'.output = w.output
  size : w.heap.size ≤ w'.heap.size
  low : ∀ i, i < b → w'.heap[i]? = w.heap[i]?
  high : ∀ (i : Nat) (cs : Array Value) (t : TypeId) (fz : Nat × Nat), w.heap[i]? = some (Obj.cells cs t fz) → i ≠ b → t ≠ 5 → t ≠ 35 → w'.heap[i]? = some (Obj.cells cs t fz)

theorem Kept.refl (b : Nat) (w : World) : Kept b w w := ⟨rfl, rfl, rfl, Nat.le_refl _, fun _ _ => rfl, fun _ _ _ _ h _ _ _ => h⟩
theorem Kept.trans {b : Nat} {u v w : World} (h : Kept b u v) (k : Kept b v w) : Kept b u w :=
  ⟨k.os.trans h.os, k.tape.trans h.tape, k.output.trans h.output, Nat.le_trans h.size k.size, fun i hi => (k.low i hi).trans (h.low i hi),
    fun i cs t fz hc h1 h2 h3 => k.high i cs t fz (h.high i cs t fz hc h1 h2 h3) h1 h2 h3⟩
theorem Kept.below {b : Nat} {w w' : World} (h : Kept b w w') : Below b w w' := ⟨h.os, h.tape, h.output, h.size, h.low⟩
theorem Kept.alloc {b : Nat} {u w : World} (h : Kept b u w) (hb : b ≤ w.heap.size) (o : Obj) : Kept b u (w.alloc o) :=
  h.trans ⟨rfl, rfl, rfl, by simp, fun i hi => Below.heap_alloc _ _ _ (by omega), fun i cs t fz hc _ _ _ => by rw [Below.heap_alloc _ _ _ (lt_of_block hc)]; exact hc⟩
theorem Kept.drew {b : Nat} {u w : World} (h : Kept b u w) : Kept b u w.drew := ⟨h.os, h.tape, h.output, h.size, h.low, h.high⟩
theorem Kept.setOwn {b : Nat} {u w : World} (h : Kept b u w) (k : Nat) (v : Value) : Kept b u (w.setCell ⟨b, k, none⟩ v) :=
  h.trans ⟨rfl, rfl, rfl, by simp [World.setCell], fun i hi => Below.heap_setCell _ _ _ _ (by show i ≠ b; omega), fun i cs t fz hc h1 _ _ => by rw [Below.heap_setCell _ _ _ _ (by exact h1)]; exact hc⟩
/-- behind an append to a row of the state's own -/
theorem Kept.grown {b : Nat} {u w w' : World} {e : TypeId} {v : Value} {n : Nat} {xs : List Value} (h : Kept b u w) (hg : w.grownBy w' v.ownBlock) (hbw : b ≤ w.heap.size) (hown : w.ownsRow b e 1 v n xs) (he : e = 5 ∨ e = 35) : Kept b u w' := by
  refine h.trans ⟨hg.os, hg.tape, hg.output, hg.size, fun i hi => hg.block i (by omega) (fun k => by have := (hown.lt i k.symm).1; omega), fun i cs t fz hc _ h2 h3 => ?_⟩
  have hlt := lt_of_block hc
  rw [hg.block i hlt (fun k => ?_)]
  · exact hc
  · rcases hown.2 with ⟨rfl, _⟩ | ⟨g, cap, cur, rfl, _, hgg, _⟩
    · simp [Value.ownBlock] at k
    · simp only [Value.ownBlock, Option.some.injEq] at k
      subst k
      rw [hc] at hgg
      simp at hgg
      rcases he with rfl | rfl
      · exact h2 hgg.2.1
      · exact h3 hgg.2.1

/-- a store into a block that is known whole -/
theorem heap_setCell_same {w : World} {b k : Nat} {cs : Array Value} {t : TypeId} {fz : Nat × Nat} {v : Value} (h : w.heap[b]? = some (Obj.cells cs t fz)) : (w.setCell ⟨b, k, none⟩ v).heap[b]? = some (Obj.cells (cs.setIfInBounds k v) t fz) := by
  have hlt := lt_of_block h
  have h' : w.heap[b] = .cells cs t fz := by simpa [Array.getElem?_eq_getElem hlt] using h
  show (w.heap.modify b _)[b]? = _
  rw [Array.getElem?_eq_getElem (by simpa using hlt), Array.getElem_modify_self, h']
  rfl

theorem cell_at {w : World} {b k : Nat} {cs : Array Value} {t : TypeId} {fz : Nat × Nat} {v : Value} (h : w.heap[b]? = some (Obj.cells cs t fz)) (hk : cs[k]? = some v) : w.cell? ⟨b, k, none⟩ = some v := by
  simp [World.cell?, h, hk]
theorem free_at {w : World} {b k : Nat} {cs : Array Value} {t : TypeId} (h : w.heap[b]? = some (Obj.cells cs t (0, 0))) : w.frozen? ⟨b, k, none⟩ = false := by
  simp [World.frozen?, h]

/-- the state: the bytes written, the elements still to be printed around, the elements being printed -/
structure PS (b : Nat) (sc last : Int) (text : List UInt8) (iv : Value) (inn pr : List Value) (w : World) (ad : Option Addr) (buf pv : Value) : Prop where
  block : w.heap[b]? = some (Obj.cells (psCells sc ad buf last iv pv) 54 (0, 0))
  adOk : ad = none ∨ ad = some ⟨b, 5, none⟩
  bufOwn : w.ownsRow b 5 1 buf text.length (Lib.byteCells text)
  ivOwn : w.ownsRow b 35 1 iv inn.length inn
  pvOwn : w.ownsRow b 35 1 pv pr.length pr
  apart : iv.ownBlock = none ∨ iv.ownBlock ≠ pv.ownBlock

/-- .. its hidden parts left open -/
def PSt (b : Nat) (sc last : Int) (text : List UInt8) (iv : Value) (inn pr : List Value) (w : World) : Prop := ∃ ad buf pv, PS b sc last text iv inn pr w ad buf pv

theorem sizeBuilder : (Tryz.prog.info? 51).map (·.size) = some 2 := by kernel_rfl
theorem liesBuilder : liesAt Tryz.prog Tryz.prog.depth 54 (10 / Tryz.prog.cellsOf 54) 5 51 1 = true := by kernel_rfl

set_option maxRecDepth 100000 in
set_option maxHeartbeats 1000000 in
theorem copyCheck_used (b : Nat) (w : World) (h0 : w.cell? ⟨b, 5, none⟩ = some (.pointer (some ⟨b, 5, none⟩))) :
    Calls Tryz.prog 43 #[.pointer (some ⟨b, 5, none⟩)] w fun e w' => e = .returned (.tuple #[]) ∧ w' = w := by
  obtain ⟨j, hj, _⟩ := Option.map_eq_some_iff.1 sizeBuilder
  go_enter Tryz.func43, Tryz.ntmps43
  go_wp2
  rw [Lib.run_neq_ptr_same w _ Tryz.underlying48 hj]
  go_wp2
  go_end0
  exact ⟨rfl, rfl⟩

set_option maxRecDepth 100000 in
set_option maxHeartbeats 1000000 in
theorem copyCheck_fresh (b : Nat) (w : World) (h0 : w.cell? ⟨b, 5, none⟩ = some (.pointer none)) (hsh : w.shape? b = some (54, 10)) (hfz : w.frozen? ⟨b, 5, none⟩ = false) :
    Calls Tryz.prog 43 #[.pointer (some ⟨b, 5, none⟩)] w fun e w' => e = .returned (.tuple #[]) ∧ w' = w.setCell ⟨b, 5, none⟩ (.pointer (some ⟨b, 5, none⟩)) := by
  obtain ⟨j, hj, hjs⟩ := Option.map_eq_some_iff.1 sizeBuilder
  go_enter Tryz.func43, Tryz.ntmps43
  go_wp2
  rw [Lib.run_to_unsafe w ⟨b, 5, none⟩ Tryz.underlying48 Tryz.underlying88 hj (by rw [hjs]; decide) hsh (show 5 < 10 by decide)]
  simp only [Result.andThen]
  rw [Oper.upon_value]
  go_wp2
  rw [run_callFunc_extern Tryz.func44 (by kernel_rfl) (by kernel_rfl) (by kernel_rfl) (e := Extern.AbiNoEscape.same) (by kernel_rfl)]
  rw [Lib.run_noEscape]
  simp only [Result.andThen]
  rw [Oper.upon_value]
  go_wp2
  rw [Lib.run_from_unsafe w ⟨b, 5, none⟩ Tryz.underlying88 Tryz.underlying48 hj hsh liesBuilder]
  simp only [Result.andThen]
  rw [Oper.upon_value]
  go_wp2
  go_end0
  exact ⟨rfl, rfl⟩

theorem PS.cells {b : Nat} {sc last : Int} {text : List UInt8} {iv : Value} {inn pr : List Value} {w : World} {ad : Option Addr} {buf pv : Value} (h : PS b sc last text iv inn pr w ad buf pv) :
    w.cell? ⟨b, 0, none⟩ = some (.bool true) ∧ w.cell? ⟨b, 1, none⟩ = some (.bool true) ∧ w.cell? ⟨b, 2, none⟩ = some (.bool false) ∧ w.cell? ⟨b, 3, none⟩ = some (.int .i64 0) ∧ w.cell? ⟨b, 4, none⟩ = some (.int .i64 sc) ∧
    w.cell? ⟨b, 5, none⟩ = some (.pointer ad) ∧ w.cell? ⟨b, 6, none⟩ = some buf ∧ w.cell? ⟨b, 7, none⟩ = some (.int .u8 last) ∧ w.cell? ⟨b, 8, none⟩ = some iv ∧ w.cell? ⟨b, 9, none⟩ = some pv :=
  ⟨cell_at h.block rfl, cell_at h.block rfl, cell_at h.block rfl, cell_at h.block rfl, cell_at h.block rfl, cell_at h.block rfl, cell_at h.block rfl, cell_at h.block rfl, cell_at h.block rfl, cell_at h.block rfl⟩

/-- the state's rows stay while a cell of its own block is written -/
theorem PS.put {b : Nat} {sc last : Int} {text : List UInt8} {iv : Value} {inn pr : List Value} {w : World} {ad : Option Addr} {buf pv : Value} (h : PS b sc last text iv inn pr w ad buf pv) (k : Nat) (u : Value) {e : TypeId} {v : Value} {n : Nat} {xs : List Value}
    (ho : w.ownsRow b e 1 v n xs) (he : 54 ≠ e) : (w.setCell ⟨b, k, none⟩ u).ownsRow b e 1 v n xs :=
  ownsRow_setCell_other ho (a := ⟨b, k, none⟩) (Ne.symm (ne_ownBlock ho h.block he)) u

/-- copyCheck: behind it the builder is used -/
theorem copyCheck_any {b : Nat} {sc last : Int} {text : List UInt8} {iv : Value} {inn pr : List Value} {w : World} {ad : Option Addr} {buf pv : Value} (h : PS b sc last text iv inn pr w ad buf pv) :
    Calls Tryz.prog 43 #[.pointer (some ⟨b, 5, none⟩)] w fun e w' => e = .returned (.tuple #[]) ∧ PS b sc last text iv inn pr w' (some ⟨b, 5, none⟩) buf pv ∧ Kept b w w' := by
  have hc := h.cells
  rcases h.adOk with rfl | rfl
  · refine (copyCheck_fresh b w hc.2.2.2.2.2.1 (by simp [World.shape?, h.block, psCells]) (free_at h.block)).mono ?_
    rintro e w' ⟨rfl, rfl⟩
    exact ⟨rfl, ⟨heap_setCell_same h.block, .inr rfl, h.put _ _ h.bufOwn (by decide), h.put _ _ h.ivOwn (by decide), h.put _ _ h.pvOwn (by decide), h.apart⟩, (Kept.refl b w).setOwn _ _⟩
  · refine (copyCheck_used b w hc.2.2.2.2.2.1).mono ?_
    rintro e w' ⟨rfl, rfl⟩
    exact ⟨rfl, h, Kept.refl b _⟩

end Go.Proofs.YtcobcgkeojeagaaGreat
