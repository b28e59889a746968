/- Trees of impl.Node: what a Go value of that type reads as. -/
import Derived.Test.YtnhccgbkalpcnaaGreatDoorBase
import Derived.Test.YtnhccgbkalpcnaaGreatDoorProg
namespace Go.Proofs.YtnhccgbkalpcnaaGreatDoor
open Go.RowKit

inductive Tree where
  | node (kind text : ByteArray) (num : Int) (kids : List Tree)

namespace Tree
def kind : Tree → ByteArray | node k _ _ _ => k
def text : Tree → ByteArray | node _ t _ _ => t
def num : Tree → Int | node _ _ n _ => n
def kids : Tree → List Tree | node _ _ _ ks => ks
theorem eta (t : Tree) : t = node t.kind t.text t.num t.kids := by cases t; rfl
mutual
/-- how many nodes -/
def sz : Tree → Nat
  | node _ _ _ ks => 1 + szs ks
def szs : List Tree → Nat
  | [] => 0
  | k :: r => sz k + szs r
end
theorem sz_le_szs {k : Tree} : ∀ {l : List Tree}, k ∈ l → k.sz ≤ szs l
  | [], h => by cases h
  | x :: r, h => by
    rw [szs]
    rcases List.mem_cons.1 h with rfl | h
    · omega
    · have := sz_le_szs h
      omega
theorem sz_lt {t k : Tree} (h : k ∈ t.kids) : k.sz < t.sz := by
  cases t with
  | node a b c ks =>
    have := sz_le_szs (show k ∈ ks from h)
    rw [sz]
    omega
end Tree

/-- the Go value v is the tree, its rows lie in blocks out of I -/
inductive IsT (w : World) (I : Nat → Prop) : Tree → Value → Prop
  | mk (k t : ByteArray) (n : Int) (ks : List Tree) (a : Option Addr) (cap b off : Nat) (kv : Nat → Value) (h1 : ks.length ≤ cap) (h2 : cap ≤ 9223372036854775807) (h3 : ks = [] ∨ a = some ⟨b, off, none⟩ ∧ I b)
      (hc : ∀ i (h : i < ks.length), w.cell? ⟨b, off + i * 4, none⟩ = some (.string ks[i].kind) ∧ w.cell? ⟨b, off + i * 4 + 1, none⟩ = some (.string ks[i].text) ∧ w.cell? ⟨b, off + i * 4 + 2, none⟩ = some (.int .i64 ks[i].num) ∧ w.cell? ⟨b, off + i * 4 + 3, none⟩ = some (kv i))
      (hk : ∀ i (h : i < ks.length), IsT w I ks[i] (.agg #[.string ks[i].kind, .string ks[i].text, .int .i64 ks[i].num, kv i])) :
      IsT w I (.node k t n ks) (.agg #[.string k, .string t, .int .i64 n, .slice a ks.length cap])

theorem IsT.same {w w' : World} {I : Nat → Prop} (hs : Same I w w') {t : Tree} {v : Value} (h : IsT w I t v) : IsT w' I t v := by
  induction h with
  | mk k t n ks a cap b off kv h1 h2 h3 hc hk ih =>
    refine .mk k t n ks a cap b off kv h1 h2 h3 (fun i hi => ?_) ih
    have hb : I b := by
      rcases h3 with rfl | h3
      · simp at hi
      · exact h3.2
    have hcell : ∀ o, w'.cell? ⟨b, o, none⟩ = w.cell? ⟨b, o, none⟩ := fun o => World.cell?_of_block (w := w) (hs b hb)
    rw [hcell, hcell, hcell, hcell]
    exact hc i hi

theorem IsT.mono {w : World} {I J : Nat → Prop} (hIJ : ∀ i, I i → J i) {t : Tree} {v : Value} (h : IsT w I t v) : IsT w J t v := by
  induction h with
  | mk k t n ks a cap b off kv h1 h2 h3 hc hk ih => exact .mk k t n ks a cap b off kv h1 h2 (h3.imp id fun ⟨h, h'⟩ => ⟨h, hIJ _ h'⟩) hc ih

/-- laid open -/
theorem IsT.lay {w : World} {I : Nat → Prop} {t : Tree} {v : Value} (h : IsT w I t v) : ∃ a cap, v = .agg #[.string t.kind, .string t.text, .int .i64 t.num, .slice a t.kids.length cap] ∧ t.kids.length ≤ cap ∧ cap ≤ 9223372036854775807 ∧
    (t.kids = [] ∨ ∃ b off, a = some ⟨b, off, none⟩ ∧ I b ∧ ∀ i (h : i < t.kids.length), ∃ ka kc, w.cell? ⟨b, off + i * 4, none⟩ = some (.string t.kids[i].kind) ∧ w.cell? ⟨b, off + i * 4 + 1, none⟩ = some (.string t.kids[i].text) ∧
      w.cell? ⟨b, off + i * 4 + 2, none⟩ = some (.int .i64 t.kids[i].num) ∧ w.cell? ⟨b, off + i * 4 + 3, none⟩ = some (.slice ka t.kids[i].kids.length kc) ∧
      IsT w I t.kids[i] (.agg #[.string t.kids[i].kind, .string t.kids[i].text, .int .i64 t.kids[i].num, .slice ka t.kids[i].kids.length kc])) := by
  cases h with
  | mk k t n ks a cap b off kv h1 h2 h3 hc hk =>
    refine ⟨a, cap, rfl, h1, h2, ?_⟩
    rcases h3 with h3 | ⟨ha, hb⟩
    · exact .inl h3
    · refine .inr ⟨b, off, ha, hb, fun i hi => ?_⟩
      have h5 := hk i hi
      have h6 := hc i hi
      change i < ks.length at hi
      change ∃ ka kc, w.cell? ⟨b, off + i * 4, none⟩ = some (.string ks[i].kind) ∧ w.cell? ⟨b, off + i * 4 + 1, none⟩ = some (.string ks[i].text) ∧
        w.cell? ⟨b, off + i * 4 + 2, none⟩ = some (.int .i64 ks[i].num) ∧ w.cell? ⟨b, off + i * 4 + 3, none⟩ = some (.slice ka ks[i].kids.length kc) ∧
        IsT w I ks[i] (.agg #[.string ks[i].kind, .string ks[i].text, .int .i64 ks[i].num, .slice ka ks[i].kids.length kc])
      generalize ks[i] = t at *
      generalize kv i = kvi at *
      cases h5 with
      | mk k' t' n' ks' a' cap' b' off' kv' e1 e2 e3 e4 e5 => exact ⟨a', cap', h6.1, h6.2.1, h6.2.2.1, h6.2.2.2, .mk k' t' n' ks' a' cap' b' off' kv' e1 e2 e3 e4 e5⟩

/-- some truth value, true only if P -/
def Says (P : Prop) (e : Ending) : Prop := ∃ r : Bool, e = .returned (.bool r) ∧ (r = true → P)

theorem isEmpty_eq {s : ByteArray} (h : s.toList = []) : s = ⟨#[]⟩ := by
  cases s with
  | mk d =>
    rw [ByteArray.toList_eq] at h
    have : d = #[] := by
      apply Array.ext'
      simpa using h
    rw [this]

theorem says_any {r : Bool} {e : Ending} (h : e = .returned (.bool r)) : Says True e := ⟨r, h, fun _ => trivial⟩
theorem says_no {P : Prop} {e : Ending} (h : e = .returned (.bool false)) : Says P e := ⟨false, h, fun h => by cases h⟩
theorem box_below (w : World) (o : Obj) : Below w.heap.size w (w.alloc o) := (Below.refl _ _).alloc (Nat.le_refl _) _
theorem str_of {k : ByteArray} {l : List UInt8} (h : k.toList = l) : k = ⟨l.toArray⟩ := by
  cases k with
  | mk d =>
    rw [ByteArray.toList_eq] at h
    subst h
    simp

set_option maxHeartbeats 400000 in
theorem plain_any (w : World) (k x : ByteArray) (n : Int) (l : Nat) (a : Option Addr) (cap : Nat) (m : Int) :
    Calls Tryz.prog 29 #[.agg #[.string k, .string x, .int .i64 n, .slice a l cap], .int .i64 m] w fun e w' => Says (x = ⟨#[]⟩ ∧ n = 0 ∧ (l : Int) = m) e ∧ Below w.heap.size w w' := by
  go_enter Tryz.func29, Tryz.ntmps29
  go_wp2
  all_goals go_ret
  · rename_i h1 h2
    exact ⟨⟨_, rfl, fun h => ⟨isEmpty_eq h1, h2, by simpa using h⟩⟩, box_below _ _⟩
  · exact ⟨⟨_, rfl, fun h => by simp_all⟩, box_below _ _⟩
  · exact ⟨⟨_, rfl, fun h => by simp_all⟩, box_below _ _⟩

end Go.Proofs.YtnhccgbkalpcnaaGreatDoor
