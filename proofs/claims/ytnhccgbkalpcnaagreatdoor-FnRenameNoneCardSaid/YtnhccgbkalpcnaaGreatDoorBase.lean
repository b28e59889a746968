/- Words that the seat's walks share: slices that read as lists, appending to a slice of the call's own. No program in sight. -/
import Derived.Below
import Derived.Lib.Hide
import Derived.Lib.AppendStr
import Derived.Deep.LoopGhost
import Derived.OneCell
import Derived.WalkKit
import Derived.WalkSpells
import Derived.WalkLawsBesides
import Derived.Deep.RegionLaw
namespace Go.Proofs.YtnhccgbkalpcnaaGreatDoor
open Go.RowKit

/-- The value v is a slice whose elements are the one-cell values vs, in a block out of I. -/
def SliceOf (w : World) (I : Nat → Prop) (v : Value) (vs : List Value) : Prop :=
  (v = .slice none 0 0 ∧ vs = []) ∨
  ∃ a cap, v = .slice (some a) vs.length cap ∧ vs.length ≤ cap ∧ cap ≤ maxLen ∧ (vs ≠ [] → I a.block) ∧ ∀ i u, vs[i]? = some u → w.cell? (a.add i) = some u

/-- the blocks out of I read alike in both worlds -/
def Same (I : Nat → Prop) (w w' : World) : Prop := ∀ i, I i → w'.heap[i]? = w.heap[i]?

theorem Same.refl (I : Nat → Prop) (w : World) : Same I w w := fun _ _ => rfl
theorem Same.trans {I : Nat → Prop} {a b c : World} (h : Same I a b) (k : Same I b c) : Same I a c := fun i hi => (k i hi).trans (h i hi)
theorem Same.mono {I J : Nat → Prop} {w w' : World} (h : Same J w w') (hI : ∀ i, I i → J i) : Same I w w' := fun i hi => h i (hI i hi)
theorem Same.below {I : Nat → Prop} {B : Nat} {w w' : World} (h : Below B w w') (hI : ∀ i, I i → i < B) : Same I w w' := fun i hi => h.block i (hI i hi)

def strv (ss : List ByteArray) : List Value := ss.map Value.string

theorem addr_add_block (a : Addr) (i : Nat) : (a.add i).block = a.block := by unfold Addr.add; split <;> rfl

theorem SliceOf.same {w w' : World} {I : Nat → Prop} {v : Value} {vs : List Value} (h : SliceOf w I v vs) (hb : Same I w w') : SliceOf w' I v vs := by
  rcases h with h | ⟨a, cap, hv, hl, hc, hI, h⟩
  · exact .inl h
  · refine .inr ⟨a, cap, hv, hl, hc, hI, fun i u hu => ?_⟩
    rw [World.cell?_of_block (w := w) (by rw [addr_add_block]; exact hb _ (hI (fun e => by rw [e] at hu; simp at hu)))]
    exact h i u hu

theorem SliceOf.mono {w : World} {I J : Nat → Prop} {v : Value} {vs : List Value} (h : SliceOf w I v vs) (hI : ∀ i, I i → J i) : SliceOf w J v vs := by
  rcases h with h | ⟨a, cap, hv, hl, hc, hi, h⟩
  · exact .inl h
  · exact .inr ⟨a, cap, hv, hl, hc, fun e => hI _ (hi e), h⟩

theorem SliceOf.nil (w : World) (I : Nat → Prop) : SliceOf w I (.slice none 0 0) [] := .inl ⟨rfl, rfl⟩

/-- what a walk wants of a slice, laid open -/
theorem SliceOf.lay {w : World} {I : Nat → Prop} {v : Value} {vs : List Value} (h : SliceOf w I v vs) :
    ∃ a cap, v = .slice a vs.length cap ∧ vs.length ≤ cap ∧ cap ≤ 9223372036854775807 ∧
      (vs = [] ∨ ∃ b off, a = some ⟨b, off, none⟩ ∧ I b ∧ ∀ i u, vs[i]? = some u → w.cell? ⟨b, off + i, none⟩ = some u) := by
  rcases h with ⟨rfl, rfl⟩ | ⟨a, cap, rfl, hl, hc, hlt, h⟩
  · exact ⟨none, 0, rfl, Nat.le_refl _, by omega, .inl rfl⟩
  · refine ⟨some a, cap, rfl, hl, by unfold maxLen at hc; omega, ?_⟩
    match vs, h with
    | [], _ => exact .inl rfl
    | x :: r, h =>
      obtain ⟨b, off, spot⟩ := a
      have h0 := h 0 x rfl
      have hs : spot = none := by simpa [Addr.add] using World.cell?_spot h0
      subst hs
      refine .inr ⟨b, off, rfl, hlt (by simp), fun i u hu => ?_⟩
      have h1 := h i u hu
      have e : (⟨b, off, none⟩ : Addr).add i = ⟨b, off + i, none⟩ := by unfold Addr.add; split <;> simp_all
      rw [e] at h1
      exact h1

theorem strv_length (ss : List ByteArray) : (strv ss).length = ss.length := by simp [strv]
theorem strv_get {ss : List ByteArray} {i : Nat} (h : i < ss.length) : (strv ss)[i]? = some (.string ss[i]) := by simp [strv, h]
theorem strv_append (a b : List ByteArray) : strv (a ++ b) = strv a ++ strv b := by simp [strv]
theorem strv_one (ss : List ByteArray) : ∀ u ∈ strv ss, u.oneCell' = true := by
  intro u hu
  simp only [strv, List.mem_map] at hu
  obtain ⟨s, _, rfl⟩ := hu
  rfl

theorem SliceOf.strs {w : World} {I : Nat → Prop} {v : Value} {ss : List ByteArray} (h : SliceOf w I v (strv ss)) :
    ∃ a cap, v = .slice a ss.length cap ∧ ss.length ≤ cap ∧ cap ≤ 9223372036854775807 ∧
      (ss = [] ∨ ∃ b off, a = some ⟨b, off, none⟩ ∧ I b ∧ ∀ i (h : i < ss.length), w.cell? ⟨b, off + i, none⟩ = some (.string ss[i])) := by
  obtain ⟨a, cap, rfl, hl, hc, hr⟩ := h.lay
  rw [strv_length] at hl
  refine ⟨a, cap, by rw [strv_length], hl, hc, ?_⟩
  rcases hr with hr | ⟨b, off, ha, hlt, hcell⟩
  · exact .inl (by simpa [strv] using hr)
  · exact .inr ⟨b, off, ha, hlt, fun i hi => hcell i _ (strv_get hi)⟩

/-- what the call owns reads as a slice -/
theorem SliceOf.owned {w : World} {I : Nat → Prop} {base : Nat} {e : TypeId} {v : Value} {n : Nat} {xs : List Value} (h : w.ownsRow base e 1 v n xs) (hI : ∀ i, base ≤ i → i < w.heap.size → I i) : SliceOf w I v xs := by
  obtain ⟨hl, h⟩ := h
  have hl : xs.length = n := by simpa using hl
  rcases h with ⟨rfl, rfl⟩ | ⟨g, cap, cur, rfl, hb, hg, hn, hc, hcs, htake⟩
  · exact .inl ⟨rfl, List.eq_nil_of_length_eq_zero hl⟩
  · refine .inr ⟨⟨g, 0, none⟩, cap, by rw [hl], by omega, hc, fun _ => hI _ hb (lt_of_block hg), fun i u hu => ?_⟩
    have hadd : (⟨g, 0, none⟩ : Addr).add i = ⟨g, i, none⟩ := by unfold Addr.add; split <;> simp_all
    rw [hadd, cell_of_row w g i cur e (0, 0) hg]
    rw [← htake, List.getElem?_take] at hu
    split at hu
    · simpa using hu
    · cases hu

/-- a new block of one cell, as a slice -/
theorem SliceOf.one (w : World) (I : Nat → Prop) (u : Value) (t : TypeId) {b : Nat} (hb : b = w.heap.size) (hI : I b) : SliceOf (w.alloc (.cells #[u] t)) I (.slice (some ⟨b, 0, none⟩) 1 1) [u] := by
  subst hb
  refine .inr ⟨_, 1, rfl, Nat.le_refl _, by unfold maxLen; omega, fun _ => hI, fun i x hx => ?_⟩
  cases i with
  | zero =>
    simp at hx
    subst hx
    show (w.alloc (.cells #[u] t)).cell? ⟨w.heap.size, 0, none⟩ = some u
    exact cell_of_one (heap_alloc_new w _)
  | succ i => simp at hx

/-- appending a slice to a slice of the call's own -/
theorem run_append_row {P : Program} (w : World) (base : Nat) (t ty e : TypeId) (i : TypeInfo) (z : Value) (bytes : Nat) (ht : P.underlying t = some (.slice e)) (hi : P.info? e = some i) (hz : i.zero = some z)
    (hsize : i.size = 1) (hby : i.bytes = bytes) (hzs : z.cells.size = 1)
    (v : Value) (n : Nat) (xs : List Value) (hown : w.ownsRow base e 1 v n xs)
    (sv : Value) (news : List Value) {I : Nat → Prop} (hs : SliceOf w I sv news) (h1 : ∀ u ∈ news, u.oneCell' = true)
    (h63 : n + news.length ≤ maxLen) (hbytes : (n + news.length) * bytes ≤ 140737488355328) (hbase : base ≤ w.heap.size) :
    ∃ v' w', (Builtin.append_ #[t, t] ty #[v, sv]).run P w = .ok v' w' ∧ w'.ownsRow base e 1 v' (n + news.length) (xs ++ news) ∧ w.grownBy w' v.ownBlock := by
  rcases hs with ⟨rfl, rfl⟩ | ⟨a, cap, rfl, hl, hc, hlt, h⟩
  · exact ⟨v, w, run_append_owned_none (P := P) w base t ty e i 1 ht hi v n xs hown, by simpa using hown, ⟨rfl, rfl, rfl, Nat.le_refl _, fun _ _ _ => rfl⟩⟩
  · obtain ⟨v', w', h2, h3, h4, _⟩ := run_append_own (P := P) w base t ty e i z 1 bytes ht hi hz hsize hby hzs (by decide) v n xs hown a news.length cap news (by omega) h h1 h63 hbytes hbase
    exact ⟨v', w', h2, h3, h4⟩

theorem wpList_append_row {P : Program} {w : World} {ops : Array Oper} {rest : List Oper} {o : Oper} {a : Act} {Q : Exit → Act → World → Prop} (hgd : o.guard = none) (s x : Operand) (t : TypeId)
    (ho : o.op = .call { callee := .builtin .append, args := #[s, x], argTypes := #[t, t] })
    (base : Nat) (e : TypeId) (i : TypeInfo) (z : Value) (bytes : Nat) (ht : P.underlying t = some (.slice e)) (hi : P.info? e = some i) (hz : i.zero = some z)
    (hsize : i.size = 1) (hby : i.bytes = bytes) (hzs : z.cells.size = 1)
    (v : Value) (n : Nat) (xs : List Value) (hs : a.eval s = v) (hown : w.ownsRow base e 1 v n xs)
    (sv : Value) (news : List Value) (hx : a.eval x = sv) {I : Nat → Prop} (hsv : SliceOf w I sv news) (h1 : ∀ u ∈ news, u.oneCell' = true)
    (h63 : n + news.length ≤ maxLen) (hbytes : (n + news.length) * bytes ≤ 140737488355328) (hbase : base ≤ w.heap.size)
    (h : ∀ v' w', w'.ownsRow base e 1 v' (n + news.length) (xs ++ news) → w.grownBy w' v.ownBlock → wpList P ops Q rest (a.put o.dst v') w') : wpList P ops Q (o :: rest) a w := by
  refine wpList_plain hgd fun K hK => ?_
  obtain ⟨v', w', hr, h2, h3⟩ := run_append_row (P := P) w base t o.type e i z bytes ht hi hz hsize hby hzs v n xs hown sv news hsv h1 h63 hbytes hbase
  unfold Oper.wp execOp
  simp only [ho, resolve, invoke, builtin, Sem.run_bind, Sem.run_pure, Result.andThen_ok, List.map_toArray, List.map_cons, List.map_nil, hs, hx, hr]
  exact hK _ _ (h v' w' h2 h3)

/-- a block of another element type is none of the call's own row -/
theorem ne_ownBlock {w : World} {base : Nat} {e t : TypeId} {size : Nat} {v : Value} {n : Nat} {xs : List Value} (h : w.ownsRow base e size v n xs) {b : Nat} {cs : Array Value} {fz : Nat × Nat} (hc : w.heap[b]? = some (.cells cs t fz)) (hne : t ≠ e) :
    some b ≠ v.ownBlock := by
  intro k
  rcases h.2 with ⟨rfl, _⟩ | ⟨g, cap, cur, rfl, _, hgg, _⟩
  · simp [Value.ownBlock] at k
  · simp only [Value.ownBlock, Option.some.injEq] at k
    subst k
    rw [hc] at hgg
    simp at hgg
    exact hne hgg.2.1

/-- append, its run known ahead: at the list of a plain region, and as one step of a region that draws -/
theorem wpList_append_run {P : Program} {w : World} {ops : Array Oper} {rest : List Oper} {o : Oper} {a : Act} {Q : Exit → Act → World → Prop} (hgd : o.guard = none) (s x : Operand) (t tx : TypeId)
    (ho : o.op = .call { callee := .builtin .append, args := #[s, x], argTypes := #[t, tx] }) (v sv v' : Value) (w' : World) (hs : a.eval s = v) (hx : a.eval x = sv)
    (hrun : (Builtin.append_ #[t, tx] o.type #[v, sv]).run P w = .ok v' w') (h : wpList P ops Q rest (a.put o.dst v') w') : wpList P ops Q (o :: rest) a w := by
  refine wpList_plain hgd fun K hK => ?_
  unfold Oper.wp execOp
  simp only [ho, resolve, invoke, builtin, Sem.run_bind, Sem.run_pure, Result.andThen_ok, List.map_toArray, List.map_cons, List.map_nil, hs, hx, hrun]
  exact hK _ _ h

theorem step_append_run {P : Program} {ops : Array Oper} {o : Oper} {a : Act} {w : World} {K : Act → World → Prop} {Q : Exit → Act → World → Prop} {E : Prop} (hgd : o.guard = none) (s x : Operand) (t tx : TypeId)
    (ho : o.op = .call { callee := .builtin .append, args := #[s, x], argTypes := #[t, tx] }) (v sv v' : Value) (w' : World) (hs : a.eval s = v) (hx : a.eval x = sv)
    (hrun : (Builtin.append_ #[t, tx] o.type #[v, sv]).run P w = .ok v' w') (hK : K (a.put o.dst v') w') : if Region.wanted o (yielded ops a.tmps) = true then Oper.wp P o a w K Q else E := by
  have hw : Region.wanted o (yielded ops a.tmps) = true := by simp [Region.wanted, hgd]
  rw [if_pos hw]
  unfold Oper.wp execOp
  simp only [ho, resolve, invoke, builtin, Sem.run_bind, Sem.run_pure, Result.andThen_ok, List.map_toArray, List.map_cons, List.map_nil, hs, hx, hrun]
  exact hK

def fitsB (ss : List ByteArray) : Bool := decide (ss.length ≤ 2147483647) && ss.all fun s => decide (s.size ≤ 2147483647)
def fitsTo (ss : List ByteArray) (k : Nat) : Prop := ∀ i (h : i < ss.length), i < k → ss[i].size ≤ 2147483647

theorem fitsB_true {ss : List ByteArray} (h1 : ss.length ≤ 2147483647) (h : fitsTo ss ss.length) : fitsB ss = true := by
  simp only [fitsB, Bool.and_eq_true, decide_eq_true_eq, List.all_eq_true]
  refine ⟨h1, fun s hs => ?_⟩
  obtain ⟨i, hi, rfl⟩ := List.mem_iff_getElem.1 hs
  exact h i hi hi

theorem fitsB_false {ss : List ByteArray} {i : Nat} (hi : i < ss.length) (h : 2147483647 < ss[i].size) : fitsB ss = false := by
  simp only [fitsB, Bool.and_eq_false_iff, List.all_eq_false]
  exact .inr ⟨_, List.getElem_mem hi, by simpa using h⟩

theorem ret_bool {a b : Bool} (h : a = b) : Ending.returned (.bool a) = .returned (.bool b) := by rw [h]
theorem ret_int {k : IntKind} {a b : Int} (h : a = b) : Ending.returned (.int k a) = .returned (.int k b) := by rw [h]

end Go.Proofs.YtnhccgbkalpcnaaGreatDoor
