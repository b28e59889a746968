/- The arguments opened: a node is a tree; the two tables; the tied card's frame. -/
import Derived.Test.YtnhccgbkalpcnaaGreatDoorRows
import Derived.Test.YtnhccgbkalpcnaaGreatDoorCodes
import Derived.ProofKit
import Derived.OpenShut
import Derived.ShutString
import Derived.ChangeOld
import Derived.LaidMore
import Derived.LaidOnce
import Derived.OpenVars
import Derived.Deep.Slices
import Derived.Lib.SmallJoins
import Derived.Stop.Joined
namespace Go.Proofs.YtnhccgbkalpcnaaGreatDoor
open Go Go.ChangeShapes Go.WideShapes Go.ChangeAt Go.RowKit
open Go.ChangeMaps (open_string shut_string)

theorem own : ownKnob Tryz.prog.godebug = none := by kernel_rfl
theorem laidOut : laidOutB Tryz.prog = true := by kernel_rfl
theorem gB : Tryz.prog.globalNamed "loop.example/pub-g01448/spec.builtins" = some 0 := by kernel_rfl
theorem gO : Tryz.prog.globalNamed "loop.example/pub-g01448/spec.operators" = some 1 := by kernel_rfl
theorem tB : (Tryz.prog.globals[0]?).map (·.type) = some 165 := by kernel_rfl
theorem tO : (Tryz.prog.globals[1]?).map (·.type) = some 167 := by kernel_rfl
theorem c9 : Tryz.prog.cellsOf 9 = 1 := by kernel_rfl
theorem cN : Tryz.prog.cellsOf 24 = 4 := by kernel_rfl
theorem cI : Tryz.prog.cellsOf 3 = 1 := by kernel_rfl
theorem cS : Tryz.prog.cellsOf 22 = 1 := by kernel_rfl
def laid2 : List (String × DataW Unit) := [("loop.example/pub-g01448/spec.builtins", Rows.laid_loop_example_pub_g01448_spec_builtins), ("loop.example/pub-g01448/spec.operators", Rows.laid_loop_example_pub_g01448_spec_operators)]

theorem take_one {α : Type} {l : List α} {i : Nat} {x : α} (h : (l.drop i).take 1 = [x]) : l[i]? = some x := by
  have := congrArg (fun m : List α => m[0]?) h
  simpa using this

theorem strings_of {H : Type} {enc : TypeId × Value → H} {W : World} {base : Nat} {sp : Nat → Bool} {held : Bool} {fuel : Nat} {T : TypeId} {n : Nat} (hT : Tryz.prog.underlying T = some (.array n 9)) {cs : Array Value} {x : DataW H × List MemPlace}
    (h : DataW.trod enc Tryz.prog W base sp held fuel T cs.toList = some x) : ∀ i, i < n → ∃ s, cs[i]? = some (.string s) := by
  obtain ⟨xs, m, _, _, hl, hn, hel⟩ := DataW.trod_array hT h
  intro i hi
  have h1 := hel i hi
  rw [c9, Nat.mul_one, List.getElem?_eq_getElem (by omega)] at h1
  obtain ⟨s, e, _, _⟩ := DataW.trod_string Tryz.underlying9 h1
  have h2 := take_one e
  exact ⟨s, by simpa using h2⟩

/-- what the condition gives the walks: the two tables hold texts -/
theorem tables_of {W : World} (h : laidMetH Tryz.prog laid2 W) : Tables W := by
  rw [MakeChecks.laidMetH_plain _ _ _ (by kernel_rfl)] at h
  obtain ⟨ps, ⟨g0, t0, cs0, f0, p0, q0, hg0, ht0, hv0, hd0, ⟨g1, t1, cs1, f1, p1, q1, hg1, ht1, hv1, hd1, _, _⟩, _⟩, _, _⟩ := h
  obtain rfl := Option.some.inj (gB.symm.trans hg0)
  obtain rfl := Option.some.inj (gO.symm.trans hg1)
  obtain rfl := Option.some.inj (tB.symm.trans ht0)
  obtain rfl := Option.some.inj (tO.symm.trans ht1)
  have s0 := strings_of Tryz.underlying165 hd0
  have s1 := strings_of Tryz.underlying167 hd1
  have e0 : ∀ i, i < 56 → ∃ s, W.cell? ⟨0, i, none⟩ = some (.string s) := fun i hi => by
    obtain ⟨s, e⟩ := s0 i hi
    exact ⟨s, by rw [World.var?_cell gB hv0 i]; exact e⟩
  have e1 : ∀ i, i < 84 → ∃ s, W.cell? ⟨1, i, none⟩ = some (.string s) := fun i hi => by
    obtain ⟨s, e⟩ := s1 i hi
    exact ⟨s, by rw [World.var?_cell gO hv1 i]; exact e⟩
  refine ⟨?_, e0, e1⟩
  obtain ⟨s, e⟩ := e1 0 (by omega)
  exact World.block_lt_of_cell? W _ e

theorem add_none (b off i : Nat) : (⟨b, off, none⟩ : Addr).add i = ⟨b, off + i, none⟩ := by unfold Addr.add; split <;> simp_all
theorem four {l : List Value} (h : l.length = 4) : ∃ a b c d, l = [a, b, c, d] := by
  match l, h with
  | [a, b, c, d], _ => exact ⟨a, b, c, d, rfl⟩

/-- a node that came in is a tree -/
theorem node_open {H : Type} {enc : TypeId × Value → H} {W : World} {sp : Nat → Bool} {held : Bool} : ∀ (fuel : Nat) (cs : List Value) (x : DataW H × List MemPlace), DataW.trod enc Tryz.prog W 0 sp held fuel 24 cs = some x →
    ∃ (t : Tree) (a : Option Addr) (c : Nat), cs = [.string t.kind, .string t.text, .int .i64 t.num, .slice a t.kids.length c] ∧ At W t (.agg #[.string t.kind, .string t.text, .int .i64 t.num, .slice a t.kids.length c]) := by
  intro fuel
  induction fuel using Nat.strongRecOn with
  | ind fuel ih =>
  intro cs x h
  obtain ⟨xs, n, rfl, _, hl, hlen, hf⟩ := DataW.trod_struct Tryz.underlying24 h
  rw [cN] at hl
  obtain ⟨v0, v1, v2, v3, rfl⟩ := four hl
  have l0 : xs.length = 4 := by simpa using hlen
  have r0 := hf 0 _ rfl
  have r1 := hf 1 _ rfl
  have r2 := hf 2 _ rfl
  have r3 := hf 3 _ rfl
  simp only [List.getElem_toArray, List.getElem_cons_zero, List.getElem_cons_succ, c9, cI, cS, List.drop_zero, List.drop_succ_cons, List.take_succ_cons, List.take_zero] at r0 r1 r2 r3
  rw [List.getElem?_eq_getElem (by omega)] at r0 r1 r2 r3
  obtain ⟨s0, e0, _, _⟩ := DataW.trod_string Tryz.underlying9 r0
  obtain ⟨s1, e1, _, _⟩ := DataW.trod_string Tryz.underlying9 r1
  obtain ⟨m2, e2, _, _⟩ := DataW.trod_int Tryz.underlying3 r2
  simp only [List.cons.injEq, and_true] at e0 e1 e2
  subst e0 e1 e2
  rcases DataW.trod_slice Tryz.underlying22 r3 with ⟨e3, _⟩ | ⟨a, len, cap, elems, rest, m, rfl, e3, _, hb, hlc, hcm, hel, hk, _, _⟩
  · simp only [List.cons.injEq, and_true] at e3
    subst e3
    exact ⟨.node s0 s1 m2 [], none, 0, rfl, .mk s0 s1 m2 [] none 0 0 0 (fun _ => .nilFunc) (by simp) (by omega) (.inl rfl) (fun i h => by simp at h) (fun i h => by simp at h)⟩
  · simp only [List.cons.injEq, and_true] at e3
    subst e3
    rw [cN] at hk
    have K : ∀ i, i < len → ∃ (t : Tree) (ka : Option Addr) (kc : Nat), W.cells? 0 (a.add (i * 4)) 4 = some [.string t.kind, .string t.text, .int .i64 t.num, .slice ka t.kids.length kc] ∧ At W t (.agg #[.string t.kind, .string t.text, .int .i64 t.num, .slice ka t.kids.length kc]) := fun i hi => by
      have h1 := hk i hi
      rw [List.getElem?_eq_getElem (by omega)] at h1
      obtain ⟨cs', h2, h3⟩ := Option.bind_eq_some_iff.1 h1
      obtain ⟨t, ka, kc, rfl, hat⟩ := ih m (by omega) cs' _ h3
      exact ⟨t, ka, kc, h2, hat⟩
    let T : Fin len → Tree := fun i => (K i.1 i.2).choose
    have hT : ∀ i (hi : i < len), ∃ (ka : Option Addr) (kc : Nat), W.cells? 0 (a.add (i * 4)) 4 = some [.string (T ⟨i, hi⟩).kind, .string (T ⟨i, hi⟩).text, .int .i64 (T ⟨i, hi⟩).num, .slice ka (T ⟨i, hi⟩).kids.length kc] ∧ At W (T ⟨i, hi⟩) (.agg #[.string (T ⟨i, hi⟩).kind, .string (T ⟨i, hi⟩).text, .int .i64 (T ⟨i, hi⟩).num, .slice ka (T ⟨i, hi⟩).kids.length kc]) := fun i hi => (K i hi).choose_spec
    clear_value T
    let KV : Nat → Value := fun i => if hi : i < len then .slice (hT i hi).choose (T ⟨i, hi⟩).kids.length (hT i hi).choose_spec.choose else .nilFunc
    have hKV : ∀ i (hi : i < len), W.cells? 0 (a.add (i * 4)) 4 = some [.string (T ⟨i, hi⟩).kind, .string (T ⟨i, hi⟩).text, .int .i64 (T ⟨i, hi⟩).num, KV i] ∧ At W (T ⟨i, hi⟩) (.agg #[.string (T ⟨i, hi⟩).kind, .string (T ⟨i, hi⟩).text, .int .i64 (T ⟨i, hi⟩).num, KV i]) := fun i hi => by
      have e : KV i = .slice (hT i hi).choose (T ⟨i, hi⟩).kids.length (hT i hi).choose_spec.choose := dif_pos hi
      rw [e]
      exact (hT i hi).choose_spec.choose_spec
    clear_value KV
    have hn : (List.ofFn T).length = len := List.length_ofFn
    have hg : ∀ i (hi : i < (List.ofFn T).length), (List.ofFn T)[i] = T ⟨i, by rw [hn] at hi; exact hi⟩ := fun i hi => by simp
    have hsz : maxLen = 9223372036854775807 := rfl
    refine ⟨.node s0 s1 m2 (List.ofFn T), some a, cap, by simp [Tree.kind, Tree.text, Tree.num, Tree.kids], ?_⟩
    obtain ⟨b, off, spot⟩ := a
    have hspot : 0 < len → spot = none := fun h0 => by
      obtain ⟨h1, _⟩ := hKV 0 h0
      obtain ⟨_, _, h2⟩ := World.cells?_some h1
      have h3 := h2 0 (by omega)
      simp only [List.getElem?_cons_zero] at h3
      simpa [Addr.add] using World.cell?_spot h3
    refine .mk s0 s1 m2 (List.ofFn T) _ cap b off KV (by rw [hn]; exact hlc) (by omega) ?_ ?_ ?_
    · rcases Nat.eq_zero_or_pos len with h0 | h0
      · exact .inl (List.eq_nil_of_length_eq_zero (by rw [hn]; exact h0))
      · refine .inr ⟨by rw [hspot h0], ?_⟩
        obtain ⟨h1, _⟩ := hKV 0 h0
        have := World.cells?_block h1 (by omega)
        rwa [addr_add_block] at this
    · intro i hi
      have hi' : i < len := by rw [hn] at hi; exact hi
      have hs := hspot (by omega)
      subst hs
      obtain ⟨h1, _⟩ := hKV i hi'
      obtain ⟨_, _, h2⟩ := World.cells?_some h1
      have e : ∀ o j, ((⟨b, off, none⟩ : Addr).add o).add j = ⟨b, off + o + j, none⟩ := fun o j => by rw [add_none, add_none]
      rw [hg i hi]
      have g0 := h2 0 (by omega)
      have g1 := h2 1 (by omega)
      have g2 := h2 2 (by omega)
      have g3 := h2 3 (by omega)
      rw [e] at g0 g1 g2 g3
      simpa using And.intro g0 (And.intro g1 (And.intro g2 g3))
    · intro i hi
      rw [hg i hi]
      exact (hKV i (by rw [hn] at hi; exact hi)).2

theorem cells_agg {v : Value} {l : List Value} (h : v.cells.toList = l) (hl : l.length = 4) : v = .agg l.toArray := by
  cases v with
  | agg a =>
    simp [Value.cells] at h
    subst h
    simp
  | _ => simp [Value.cells] at h; subst h; simp at hl

/-- a node that came in -/
theorem open_node {H : Type} {enc : TypeId × Value → H} {W : World} {v : Value} {d : DataW H} {p : List MemPlace} (h : DataW.Trod enc Tryz.prog W 0 (fun _ => true) true 24 v d p) : ∃ t, At W t v := by
  obtain ⟨m, hm⟩ := h
  obtain ⟨t, a, c, e, hat⟩ := node_open m _ _ hm
  have := cells_agg e rfl
  exact ⟨t, by rw [this]; exact hat⟩

theorem later_refl {W : World} (h : Tables W) : Later W W := ⟨Below.refl _ _, h⟩

/-- the door's own heap meets the condition -/
theorem door_met (os : Os) (args : Array Value) : laidMetH Tryz.prog laid2 ((World.doorLaid Tryz.prog 400 os).forCall (fun _ _ => 0) ⟨#[], args, []⟩).memory :=
  laidMetH_of_parts3 (fuel := 8) (laidMet_of_run' 8 (by kernel_rfl) (by kernel_rfl)) (by kernel_rfl) (by kernel_rfl)

end Go.Proofs.YtnhccgbkalpcnaaGreatDoor
