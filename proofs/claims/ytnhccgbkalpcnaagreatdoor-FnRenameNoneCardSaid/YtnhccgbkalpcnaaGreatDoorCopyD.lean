/- Copy: what a call leaves; the functions that Rename hands on. -/
import Derived.Test.YtnhccgbkalpcnaaGreatDoorKindOf
import Derived.BigQuiet
import Derived.Deep.QuietTactic
import Derived.Deep.RegionWith
namespace Go.Proofs.YtnhccgbkalpcnaaGreatDoor
open Go.RowKit

theorem cells1 {w : World} {p : Nat} {x : Value} {t : TypeId} (h : w.heap[p]? = some (.cells #[x] t (0, 0))) : w.cell? ⟨p, 0, none⟩ = some x := by simp [World.cell?, h]
theorem cells2 {w : World} {p : Nat} {x y : Value} {t : TypeId} (h : w.heap[p]? = some (.cells #[x, y] t (0, 0))) : w.cell? ⟨p, 0, none⟩ = some x ∧ w.cell? ⟨p, 1, none⟩ = some y := by simp [World.cell?, h]
theorem cells3 {w : World} {p : Nat} {x y z : Value} {t : TypeId} (h : w.heap[p]? = some (.cells #[x, y, z] t (0, 0))) : w.cell? ⟨p, 0, none⟩ = some x ∧ w.cell? ⟨p, 1, none⟩ = some y ∧ w.cell? ⟨p, 2, none⟩ = some z := by simp [World.cell?, h]
theorem cells5 {w : World} {p : Nat} {x y z u v : Value} {t : TypeId} (h : w.heap[p]? = some (.cells #[x, y, z, u, v] t (0, 0))) : w.cell? ⟨p, 0, none⟩ = some x ∧ w.cell? ⟨p, 1, none⟩ = some y ∧ w.cell? ⟨p, 2, none⟩ = some z ∧ w.cell? ⟨p, 3, none⟩ = some u ∧ w.cell? ⟨p, 4, none⟩ = some v := by simp [World.cell?, h]

mutual
/-- the tree with other texts of its names, but for the elements of a kind -/
def renT (f t s : ByteArray) : Tree → Tree
  | .node k x n ks => if (k.toList == s.toList) = true then .node k x n ks else if (k.toList == [78, 97, 109, 101] && x.toList == f.toList) = true then .node ⟨#[78, 97, 109, 101]⟩ t 0 [] else .node k x n (renL f t s ks)
def renL (f t s : ByteArray) : List Tree → List Tree
  | [] => []
  | a :: r => renT f t s a :: renL f t s r
end
mutual
/-- is there a name to be replaced? -/
def hitT (f s : ByteArray) : Tree → Bool
  | .node k x _ ks => !(k.toList == s.toList) && ((k.toList == [78, 97, 109, 101] && x.toList == f.toList) || hitL f s ks)
def hitL (f s : ByteArray) : List Tree → Bool
  | [] => false
  | a :: r => hitT f s a || hitL f s r
end
mutual
theorem ren_same (f t s : ByteArray) : ∀ (a : Tree), hitT f s a = false → renT f t s a = a
  | .node k x n ks, h => by
    rw [hitT] at h
    rw [renT]
    split
    · rfl
    · rename_i h1
      have h1' : (k.toList == s.toList) = false := by simpa using h1
      rw [h1'] at h
      simp only [Bool.not_false, Bool.true_and, Bool.or_eq_false_iff] at h
      rw [if_neg (by rw [h.1]; simp), renL_same f t s ks h.2]
theorem renL_same (f t s : ByteArray) : ∀ (l : List Tree), hitL f s l = false → renL f t s l = l
  | [], _ => by rw [renL]
  | a :: r, h => by
    rw [hitL, Bool.or_eq_false_iff] at h
    rw [renL, ren_same f t s a h.1, renL_same f t s r h.2]
end
theorem renL_length (f t s : ByteArray) : ∀ (l : List Tree), (renL f t s l).length = l.length
  | [] => by rw [renL]
  | a :: r => by rw [renL, List.length_cons, List.length_cons, renL_length f t s r]
theorem renL_get (f t s : ByteArray) : ∀ (l : List Tree) (i : Nat) (h : i < l.length) (h2 : i < (renL f t s l).length), (renL f t s l)[i] = renT f t s l[i]
  | a :: r, 0, _, _ => by simp [renL]
  | a :: r, i + 1, h, h2 => by
    simp only [renL, List.getElem_cons_succ]
    exact renL_get f t s r i (by simpa using h) (by simpa [renL] using h2)
theorem hitL_take (f s : ByteArray) (l : List Tree) {j : Nat} (h : j < l.length) : hitL f s (l.take (j + 1)) = (hitL f s (l.take j) || hitT f s l[j]) := by
  induction l generalizing j with
  | nil => simp at h
  | cons a r ih =>
    cases j with
    | zero => simp [hitL]
    | succ j =>
      simp only [List.take_succ_cons, hitL, List.getElem_cons_succ]
      rw [ih (by simpa using h), Bool.or_assoc]
theorem hit_node {f s k x : ByteArray} {n : Int} {ks : List Tree} (h1 : (k.toList == [78, 97, 109, 101]) = false) (h2 : (k.toList == s.toList) = false) : hitT f s (.node k x n ks) = hitL f s ks := by
  rw [hitT, h1, h2]
  simp
theorem hit_skip {f s k x : ByteArray} {n : Int} {ks : List Tree} (h2 : (k.toList == s.toList) = true) : hitT f s (.node k x n ks) = false := by
  rw [hitT, h2]
  simp
theorem ren_node {f t s k x : ByteArray} {n : Int} {ks : List Tree} (h1 : (k.toList == [78, 97, 109, 101]) = false) (h2 : (k.toList == s.toList) = false) : renT f t s (.node k x n ks) = .node k x n (renL f t s ks) := by
  rw [renT, h1, h2]
  simp

/-- what the two functions hold -/
structure Env (w : World) (fb tb sb : Nat) (f t s : ByteArray) : Prop where
  f : w.heap[fb]? = some (.cells #[.string f] 9 (0, 0))
  t : w.heap[tb]? = some (.cells #[.string t] 9 (0, 0))
  s : w.heap[sb]? = some (.cells #[.string s] 9 (0, 0))
theorem blk_later {w w' : World} {b : Nat} {o : Obj} (h : w.heap[b]? = some o) (hb : Below w.heap.size w w') : w'.heap[b]? = some o := by
  rw [hb.block b (lt_of_block h)]
  exact h
theorem Env.on {w w' : World} {fb tb sb : Nat} {f t s : ByteArray} (h : Env w fb tb sb f t s) (hb : Below w.heap.size w w') : Env w' fb tb sb f t s := ⟨blk_later h.f hb, blk_later h.t hb, blk_later h.s hb⟩

/-- old blocks, and those made from B on -/
def NI (I : Nat → Prop) (B : Nat) (w : World) (i : Nat) : Prop := (I i ∨ B ≤ i) ∧ i < w.heap.size
def RepN (I : Nat → Prop) (B : Nat) (w : World) (t : Tree) (v : Value) : Prop := Rep w (NI I B w) t v
def RepQN (I : Nat → Prop) (B : Nat) (w : World) (t : Tree) (v : Value) : Prop := RepQ w (NI I B w) t v
def RepNL (I : Nat → Prop) (B : Nat) (w : World) (l : List Tree) (sv : Value) : Prop := ∃ kv, SliceOf w (NI I B w) sv kv ∧ kv.length = l.length ∧ ∀ i (h : i < l.length) (h2 : i < kv.length), RepN I B w l[i] kv[i]
theorem NI.on {I : Nat → Prop} {B : Nat} {w w' : World} (hb : Below w.heap.size w w') {i : Nat} (h : NI I B w i) : NI I B w' i := ⟨h.1, Nat.lt_of_lt_of_le h.2 hb.size⟩
theorem RepN.on {I : Nat → Prop} {B : Nat} {w w' : World} {t : Tree} {v : Value} (h : RepN I B w t v) (hb : Below w.heap.size w w') : RepN I B w' t v := Rep.move (fun i hi => hb.block i hi.2) (fun _ hi => NI.on hb hi) h
theorem RepQN.on {I : Nat → Prop} {B : Nat} {w w' : World} {t : Tree} {v : Value} (h : RepQN I B w t v) (hb : Below w.heap.size w w') : RepQN I B w' t v := RepQ.move (fun i hi => hb.block i hi.2) (fun _ hi => NI.on hb hi) h
theorem RepN.from {I : Nat → Prop} {B B' : Nat} {w : World} {t : Tree} {v : Value} (h : RepN I B w t v) (hb : B' ≤ B) : RepN I B' w t v := Rep.move (fun _ _ => rfl) (fun _ hi => ⟨hi.1.imp id (Nat.le_trans hb), hi.2⟩) h
theorem SliceOf.onN {I : Nat → Prop} {B : Nat} {w w' : World} {v : Value} {vs : List Value} (h : SliceOf w (NI I B w) v vs) (hb : Below w.heap.size w w') : SliceOf w' (NI I B w') v vs :=
  (h.same (fun i hi => hb.block i hi.2)).mono (fun _ hi => NI.on hb hi)
theorem RepNL.on {I : Nat → Prop} {B : Nat} {w w' : World} {l : List Tree} {v : Value} (h : RepNL I B w l v) (hb : Below w.heap.size w w') : RepNL I B w' l v := by
  obtain ⟨kv, hs, hm, hl⟩ := h
  exact ⟨kv, hs.onN hb, hm, fun i h h2 => (hl i h h2).on hb⟩
theorem madeN_name {I : Nat → Prop} {B : Nat} {w : World} (hB : B ≤ w.heap.size) (s : ByteArray) : RepN I B (w.alloc (.cells #[.string s] 48)) (.node ⟨#[78, 97, 109, 101]⟩ s 0 []) (.iface 45 (.pointer (some ⟨w.heap.size, 0, none⟩))) := by
  exact .name s w.heap.size ⟨.inr hB, by simp⟩ (heap_alloc_new w _)
theorem madeN_builtinType {I : Nat → Prop} {B : Nat} {w : World} (hB : B ≤ w.heap.size) (s : ByteArray) : RepN I B (w.alloc (.cells #[.string s] 54)) (.node ⟨#[66, 117, 105, 108, 116, 105, 110, 84, 121, 112, 101]⟩ s 0 []) (.iface 53 (.pointer (some ⟨w.heap.size, 0, none⟩))) := by
  exact .builtinType s w.heap.size ⟨.inr hB, by simp⟩ (heap_alloc_new w _)
theorem madeN_operator {I : Nat → Prop} {B : Nat} {w : World} (hB : B ≤ w.heap.size) (s : ByteArray) : RepN I B (w.alloc (.cells #[.string s, .int .i64 0] 58)) (.node ⟨#[79, 112, 101, 114, 97, 116, 111, 114]⟩ s 0 []) (.iface 55 (.pointer (some ⟨w.heap.size, 0, none⟩))) := by
  exact .operator s w.heap.size ⟨.inr hB, by simp⟩ (heap_alloc_new w _)
theorem madeN_constructor {I : Nat → Prop} {B : Nat} {w : World} (hB : B ≤ w.heap.size) {a : Tree} {u : Value} (ha : RepN I B w a u) : RepN I B (w.alloc (.cells #[u, .nilIface] 62)) (.node ⟨#[67, 111, 110, 115, 116, 114, 117, 99, 116, 111, 114]⟩ ⟨#[]⟩ 0 [a]) (.iface 59 (.pointer (some ⟨w.heap.size, 0, none⟩))) := by
  exact .constructor w.heap.size ⟨.inr hB, by simp⟩ (heap_alloc_new w _) (ha.on (box_below _ _))
theorem madeN_destructor {I : Nat → Prop} {B : Nat} {w : World} (hB : B ≤ w.heap.size) {a : Tree} {u : Value} (ha : RepN I B w a u) : RepN I B (w.alloc (.cells #[u] 65)) (.node ⟨#[68, 101, 115, 116, 114, 117, 99, 116, 111, 114]⟩ ⟨#[]⟩ 0 [a]) (.iface 63 (.pointer (some ⟨w.heap.size, 0, none⟩))) := by
  exact .destructor w.heap.size ⟨.inr hB, by simp⟩ (heap_alloc_new w _) (ha.on (box_below _ _))
theorem madeN_qualified {I : Nat → Prop} {B : Nat} {w : World} (hB : B ≤ w.heap.size) {a : Tree} {u : Value} {c : Tree} {y : Value} (ha : RepN I B w a u) (hc : RepN I B w c y) : RepN I B (w.alloc (.cells #[u, y, .bool false] 68)) (.node ⟨#[81, 117, 97, 108, 105, 102, 105, 101, 100]⟩ ⟨#[]⟩ 0 [a, c]) (.iface 66 (.pointer (some ⟨w.heap.size, 0, none⟩))) := by
  exact .qualified w.heap.size ⟨.inr hB, by simp⟩ (heap_alloc_new w _) (ha.on (box_below _ _)) (hc.on (box_below _ _))
theorem madeN_template {I : Nat → Prop} {B : Nat} {w : World} (hB : B ≤ w.heap.size) {a : Tree} {u : Value} {l : List Tree} {sv : Value} (ha : RepN I B w a u) (hl : RepNL I B w l sv) : RepN I B (w.alloc (.cells #[u, sv] 73)) (.node ⟨#[84, 101, 109, 112, 108, 97, 116, 101]⟩ ⟨#[]⟩ 0 (a :: l)) (.iface 69 (.pointer (some ⟨w.heap.size, 0, none⟩))) := by
  obtain ⟨kv, hs, hm, hl⟩ := hl.on (box_below w (.cells #[u, sv] 73))
  exact .template w.heap.size ⟨.inr hB, by simp⟩ (heap_alloc_new w _) (ha.on (box_below _ _)) hs hm hl
theorem madeN_typed {I : Nat → Prop} {B : Nat} {w : World} (hB : B ≤ w.heap.size) {a : Tree} {u : Value} {c : Tree} {y : Value} (ha : RepN I B w a u) (hc : RepN I B w c y) : RepN I B (w.alloc (.cells #[u, y] 76)) (.node ⟨#[84, 121, 112, 101, 100]⟩ ⟨#[]⟩ 0 [a, c]) (.iface 74 (.pointer (some ⟨w.heap.size, 0, none⟩))) := by
  exact .typed w.heap.size ⟨.inr hB, by simp⟩ (heap_alloc_new w _) (ha.on (box_below _ _)) (hc.on (box_below _ _))
theorem madeN_functionType {I : Nat → Prop} {B : Nat} {w : World} (hB : B ≤ w.heap.size) {a : Tree} {u : Value} {l : List Tree} {sv : Value} (ha : RepN I B w a u) (hl : RepNL I B w l sv) : RepN I B (w.alloc (.cells #[u, sv, .bool false] 79)) (.node ⟨#[70, 117, 110, 99, 116, 105, 111, 110, 84, 121, 112, 101]⟩ ⟨#[]⟩ 0 (a :: l)) (.iface 77 (.pointer (some ⟨w.heap.size, 0, none⟩))) := by
  obtain ⟨kv, hs, hm, hl⟩ := hl.on (box_below w (.cells #[u, sv, .bool false] 79))
  exact .functionType w.heap.size ⟨.inr hB, by simp⟩ (heap_alloc_new w _) (ha.on (box_below _ _)) hs hm hl
theorem madeN_functionNil {I : Nat → Prop} {B : Nat} {w : World} (hB : B ≤ w.heap.size) {l : List Tree} {sv : Value} (hl : RepNL I B w l sv) : RepN I B (w.alloc (.cells #[.nilIface, sv, .bool false] 79)) (.node ⟨#[70, 117, 110, 99, 116, 105, 111, 110, 84, 121, 112, 101]⟩ ⟨#[]⟩ 0 (nilT :: l)) (.iface 77 (.pointer (some ⟨w.heap.size, 0, none⟩))) := by
  obtain ⟨kv, hs, hm, hl⟩ := hl.on (box_below w (.cells #[.nilIface, sv, .bool false] 79))
  exact .functionNil w.heap.size ⟨.inr hB, by simp⟩ (heap_alloc_new w _) hs hm hl
theorem madeN_pointerType {I : Nat → Prop} {B : Nat} {w : World} (hB : B ≤ w.heap.size) {a : Tree} {u : Value} (ha : RepN I B w a u) : RepN I B (w.alloc (.cells #[u] 82)) (.node ⟨#[80, 111, 105, 110, 116, 101, 114, 84, 121, 112, 101]⟩ ⟨#[]⟩ 0 [a]) (.iface 80 (.pointer (some ⟨w.heap.size, 0, none⟩))) := by
  exact .pointerType w.heap.size ⟨.inr hB, by simp⟩ (heap_alloc_new w _) (ha.on (box_below _ _))
theorem madeN_referenceType {I : Nat → Prop} {B : Nat} {w : World} (hB : B ≤ w.heap.size) {a : Tree} {u : Value} (ha : RepN I B w a u) : RepN I B (w.alloc (.cells #[u] 84)) (.node ⟨#[82, 101, 102, 101, 114, 101, 110, 99, 101, 84, 121, 112, 101]⟩ ⟨#[]⟩ 0 [a]) (.iface 83 (.pointer (some ⟨w.heap.size, 0, none⟩))) := by
  exact .referenceType w.heap.size ⟨.inr hB, by simp⟩ (heap_alloc_new w _) (ha.on (box_below _ _))
theorem madeN_rvalueReferenceType {I : Nat → Prop} {B : Nat} {w : World} (hB : B ≤ w.heap.size) {a : Tree} {u : Value} (ha : RepN I B w a u) : RepN I B (w.alloc (.cells #[u] 86)) (.node ⟨#[82, 118, 97, 108, 117, 101, 82, 101, 102, 101, 114, 101, 110, 99, 101, 84, 121, 112, 101]⟩ ⟨#[]⟩ 0 [a]) (.iface 85 (.pointer (some ⟨w.heap.size, 0, none⟩))) := by
  exact .rvalueReferenceType w.heap.size ⟨.inr hB, by simp⟩ (heap_alloc_new w _) (ha.on (box_below _ _))
theorem madeN_complexType {I : Nat → Prop} {B : Nat} {w : World} (hB : B ≤ w.heap.size) {a : Tree} {u : Value} (ha : RepN I B w a u) : RepN I B (w.alloc (.cells #[u] 88)) (.node ⟨#[67, 111, 109, 112, 108, 101, 120, 84, 121, 112, 101]⟩ ⟨#[]⟩ 0 [a]) (.iface 87 (.pointer (some ⟨w.heap.size, 0, none⟩))) := by
  exact .complexType w.heap.size ⟨.inr hB, by simp⟩ (heap_alloc_new w _) (ha.on (box_below _ _))
theorem madeN_imaginaryType {I : Nat → Prop} {B : Nat} {w : World} (hB : B ≤ w.heap.size) {a : Tree} {u : Value} (ha : RepN I B w a u) : RepN I B (w.alloc (.cells #[u] 90)) (.node ⟨#[73, 109, 97, 103, 105, 110, 97, 114, 121, 84, 121, 112, 101]⟩ ⟨#[]⟩ 0 [a]) (.iface 89 (.pointer (some ⟨w.heap.size, 0, none⟩))) := by
  exact .imaginaryType w.heap.size ⟨.inr hB, by simp⟩ (heap_alloc_new w _) (ha.on (box_below _ _))
theorem madeN_typeWithQualifiers {I : Nat → Prop} {B : Nat} {w : World} (hB : B ≤ w.heap.size) {a : Tree} {u : Value} {q : Tree} {y : Value} (ha : RepN I B w a u) (hq : RepQN I B w q y) : RepN I B (w.alloc (.cells #[u, y] 93)) (.node ⟨#[84, 121, 112, 101, 87, 105, 116, 104, 81, 117, 97, 108, 105, 102, 105, 101, 114, 115]⟩ ⟨#[]⟩ 0 [a, q]) (.iface 91 (.pointer (some ⟨w.heap.size, 0, none⟩))) := by
  exact .typeWithQualifiers w.heap.size ⟨.inr hB, by simp⟩ (heap_alloc_new w _) (ha.on (box_below _ _)) (hq.on (box_below _ _))
theorem madeN_methodWithQualifiers {I : Nat → Prop} {B : Nat} {w : World} (hB : B ≤ w.heap.size) {a : Tree} {u : Value} {q : Tree} {y : Value} (s : ByteArray) (ha : RepN I B w a u) (hq : RepQN I B w q y) : RepN I B (w.alloc (.cells #[u, y, .string s] 102)) (.node ⟨#[77, 101, 116, 104, 111, 100, 87, 105, 116, 104, 81, 117, 97, 108, 105, 102, 105, 101, 114, 115]⟩ s 0 [a, q]) (.iface 100 (.pointer (some ⟨w.heap.size, 0, none⟩))) := by
  exact .methodWithQualifiers s w.heap.size ⟨.inr hB, by simp⟩ (heap_alloc_new w _) (ha.on (box_below _ _)) (hq.on (box_below _ _))
theorem madeN_methodNil {I : Nat → Prop} {B : Nat} {w : World} (hB : B ≤ w.heap.size) {a : Tree} {u : Value} (s : ByteArray) (ha : RepN I B w a u) : RepN I B (w.alloc (.cells #[u, .nilIface, .string s] 102)) (.node ⟨#[77, 101, 116, 104, 111, 100, 87, 105, 116, 104, 81, 117, 97, 108, 105, 102, 105, 101, 114, 115]⟩ s 0 [a, nilT]) (.iface 100 (.pointer (some ⟨w.heap.size, 0, none⟩))) := by
  exact .methodNil s w.heap.size ⟨.inr hB, by simp⟩ (heap_alloc_new w _) (ha.on (box_below _ _))
theorem madeN_arrayType {I : Nat → Prop} {B : Nat} {w : World} (hB : B ≤ w.heap.size) {a : Tree} {u : Value} {c : Tree} {y : Value} (ha : RepN I B w a u) (hc : RepN I B w c y) : RepN I B (w.alloc (.cells #[u, y] 110)) (.node ⟨#[65, 114, 114, 97, 121, 84, 121, 112, 101]⟩ ⟨#[]⟩ 0 [a, c]) (.iface 108 (.pointer (some ⟨w.heap.size, 0, none⟩))) := by
  exact .arrayType w.heap.size ⟨.inr hB, by simp⟩ (heap_alloc_new w _) (ha.on (box_below _ _)) (hc.on (box_below _ _))
theorem madeN_vectorType {I : Nat → Prop} {B : Nat} {w : World} (hB : B ≤ w.heap.size) {a : Tree} {u : Value} {c : Tree} {y : Value} (ha : RepN I B w a u) (hc : RepN I B w c y) : RepN I B (w.alloc (.cells #[u, y] 113)) (.node ⟨#[86, 101, 99, 116, 111, 114, 84, 121, 112, 101]⟩ ⟨#[]⟩ 0 [a, c]) (.iface 111 (.pointer (some ⟨w.heap.size, 0, none⟩))) := by
  exact .vectorType w.heap.size ⟨.inr hB, by simp⟩ (heap_alloc_new w _) (ha.on (box_below _ _)) (hc.on (box_below _ _))
theorem madeN_ptrMem {I : Nat → Prop} {B : Nat} {w : World} (hB : B ≤ w.heap.size) {a : Tree} {u : Value} {c : Tree} {y : Value} (ha : RepN I B w a u) (hc : RepN I B w c y) : RepN I B (w.alloc (.cells #[u, y] 116)) (.node ⟨#[80, 116, 114, 77, 101, 109]⟩ ⟨#[]⟩ 0 [a, c]) (.iface 114 (.pointer (some ⟨w.heap.size, 0, none⟩))) := by
  exact .ptrMem w.heap.size ⟨.inr hB, by simp⟩ (heap_alloc_new w _) (ha.on (box_below _ _)) (hc.on (box_below _ _))
theorem madeN_vendorQualifier {I : Nat → Prop} {B : Nat} {w : World} (hB : B ≤ w.heap.size) {a : Tree} {u : Value} {c : Tree} {y : Value} (ha : RepN I B w a u) (hc : RepN I B w c y) : RepN I B (w.alloc (.cells #[u, y] 119)) (.node ⟨#[86, 101, 110, 100, 111, 114, 81, 117, 97, 108, 105, 102, 105, 101, 114]⟩ ⟨#[]⟩ 0 [a, c]) (.iface 117 (.pointer (some ⟨w.heap.size, 0, none⟩))) := by
  exact .vendorQualifier w.heap.size ⟨.inr hB, by simp⟩ (heap_alloc_new w _) (ha.on (box_below _ _)) (hc.on (box_below _ _))
theorem madeN_literal {I : Nat → Prop} {B : Nat} {w : World} (hB : B ≤ w.heap.size) {a : Tree} {u : Value} (s : ByteArray) (n : Int) (hn : n = 0 ∨ n = 1) (ha : RepN I B w a u) : RepN I B (w.alloc (.cells #[u, .string s, .bool (n == 1)] 128)) (.node ⟨#[76, 105, 116, 101, 114, 97, 108]⟩ s n [a]) (.iface 126 (.pointer (some ⟨w.heap.size, 0, none⟩))) := by
  exact .literal s n hn w.heap.size ⟨.inr hB, by simp⟩ (heap_alloc_new w _) (ha.on (box_below _ _))
theorem madeN_argumentPack {I : Nat → Prop} {B : Nat} {w : World} (hB : B ≤ w.heap.size) {l : List Tree} {sv : Value} (hl : RepNL I B w l sv) : RepN I B (w.alloc (.cells #[sv] 131)) (.node ⟨#[65, 114, 103, 117, 109, 101, 110, 116, 80, 97, 99, 107]⟩ ⟨#[]⟩ 0 l) (.iface 129 (.pointer (some ⟨w.heap.size, 0, none⟩))) := by
  obtain ⟨kv, hs, hm, hl⟩ := hl.on (box_below w (.cells #[sv] 131))
  exact .argumentPack w.heap.size ⟨.inr hB, by simp⟩ (heap_alloc_new w _) hs hm hl
theorem madeN_closure {I : Nat → Prop} {B : Nat} {w : World} (hB : B ≤ w.heap.size) {l : List Tree} {sv : Value} {ev : Value} (n : Int) (hl : RepNL I B w l sv) (he : SliceOf w (NI I B w) ev []) : RepN I B (w.alloc (.cells #[ev, .nilIface, sv, .int .i64 n, .nilIface] 138)) (.node ⟨#[67, 108, 111, 115, 117, 114, 101]⟩ ⟨#[]⟩ n l) (.iface 136 (.pointer (some ⟨w.heap.size, 0, none⟩))) := by
  obtain ⟨kv, hs, hm, hl⟩ := hl.on (box_below w (.cells #[ev, .nilIface, sv, .int .i64 n, .nilIface] 138))
  exact .closure n w.heap.size ⟨.inr hB, by simp⟩ (heap_alloc_new w _) hs hm hl (he.onN (box_below _ _))
theorem madeN_unnamedType {I : Nat → Prop} {B : Nat} {w : World} (hB : B ≤ w.heap.size) (n : Int) : RepN I B (w.alloc (.cells #[.int .i64 n] 141)) (.node ⟨#[85, 110, 110, 97, 109, 101, 100, 84, 121, 112, 101]⟩ ⟨#[]⟩ n []) (.iface 139 (.pointer (some ⟨w.heap.size, 0, none⟩))) := by
  exact .unnamedType n w.heap.size ⟨.inr hB, by simp⟩ (heap_alloc_new w _)
theorem madeN_taggedName {I : Nat → Prop} {B : Nat} {w : World} (hB : B ≤ w.heap.size) {a : Tree} {u : Value} {c : Tree} {y : Value} (ha : RepN I B w a u) (hc : RepN I B w c y) : RepN I B (w.alloc (.cells #[u, y] 144)) (.node ⟨#[84, 97, 103, 103, 101, 100, 78, 97, 109, 101]⟩ ⟨#[]⟩ 0 [a, c]) (.iface 142 (.pointer (some ⟨w.heap.size, 0, none⟩))) := by
  exact .taggedName w.heap.size ⟨.inr hB, by simp⟩ (heap_alloc_new w _) (ha.on (box_below _ _)) (hc.on (box_below _ _))
theorem madeN_cast {I : Nat → Prop} {B : Nat} {w : World} (hB : B ≤ w.heap.size) {a : Tree} {u : Value} (ha : RepN I B w a u) : RepN I B (w.alloc (.cells #[u] 156)) (.node ⟨#[67, 97, 115, 116]⟩ ⟨#[]⟩ 0 [a]) (.iface 154 (.pointer (some ⟨w.heap.size, 0, none⟩))) := by
  exact .cast w.heap.size ⟨.inr hB, by simp⟩ (heap_alloc_new w _) (ha.on (box_below _ _))


/-- the copy of a tree, or none -/
def Res (f t s : ByteArray) (tr : Tree) (I : Nat → Prop) (B : Nat) (w : World) (v : Value) : Prop := (hitT f s tr = false ∧ v = .nilIface) ∨ (hitT f s tr = true ∧ RepN I B w (renT f t s tr) v)
def CopyR (I : Nat → Prop) (f t s : ByteArray) (tr : Tree) (w w' : World) (e : Ending) : Prop := Below w.heap.size w w' ∧ ∃ v, e = .returned v ∧ Res f t s tr I w.heap.size w' v
/-- none -/
def CopyN (w w' : World) (e : Ending) : Prop := Below w.heap.size w w' ∧ e = .returned .nilIface

/-- the world of a call of Copy, later -/
structure CS (w0 : World) (I : Nat → Prop) (fb tb sb : Nat) (f t s : ByteArray) (w wi : World) : Prop where
  same : Same I w0 wi
  lt : ∀ i, I i → i < wi.heap.size
  env : Env wi fb tb sb f t s
  below : Below w.heap.size w wi
theorem CS.on {w0 : World} {I : Nat → Prop} {fb tb sb : Nat} {f t s : ByteArray} {w wi w' : World} (h : CS w0 I fb tb sb f t s w wi) (hb : Below wi.heap.size wi w') : CS w0 I fb tb sb f t s w w' :=
  ⟨h.same.trans (Same.below hb h.lt), fun i hi => Nat.lt_of_lt_of_le (h.lt i hi) hb.size, h.env.on hb, h.below.trans (hb.mono h.below.size)⟩
theorem CS.oldQ {w0 : World} {I : Nat → Prop} {fb tb sb : Nat} {f t s : ByteArray} {w wi : World} (h : CS w0 I fb tb sb f t s w wi) {tr : Tree} {u : Value} (hr : RepQ w0 I tr u) : RepQN I w.heap.size wi tr u :=
  RepQ.move (fun i hi => h.same i hi) (fun i hi => ⟨.inl hi, h.lt i hi⟩) hr
theorem CS.keep {w0 : World} {I : Nat → Prop} {fb tb sb : Nat} {f t s : ByteArray} {w wi : World} (h : CS w0 I fb tb sb f t s w wi) {tr : Tree} {u : Value} (h0 : hitT f s tr = false) (hr : Rep w0 I tr u) : RepN I w.heap.size wi (renT f t s tr) u := by
  rw [ren_same f t s tr h0]
  exact Rep.move (fun i hi => h.same i hi) (fun i hi => ⟨.inl hi, h.lt i hi⟩) hr

/-- an element, and what Copy of it leaves -/
def CopyOK (fb tb sb : Nat) (f t s : ByteArray) (w0 : World) (I : Nat → Prop) (u : Value) (P : World → World → Ending → Prop) : Prop :=
  ∃ T g q, u = .iface T (.pointer (some ⟨q, 0, none⟩)) ∧ (∀ W, (method 294 T (.pointer (some ⟨q, 0, none⟩)) "Copy").run Tryz.prog W = .ok (g, .pointer (some ⟨q, 0, none⟩)) W) ∧
    (∀ args W, (callFunc g args).run Tryz.prog W = .ok (.enter g args) W) ∧
    ∀ (w : World), Same I w0 w → (∀ i, I i → i < w.heap.size) → Env w fb tb sb f t s →
      Calls Tryz.prog g #[.pointer (some ⟨q, 0, none⟩), (.func (.func 26) #[] #[.pointer (some ⟨fb, 0, none⟩), .pointer (some ⟨tb, 0, none⟩)]), (.func (.func 27) #[] #[.pointer (some ⟨sb, 0, none⟩)])] w fun e w' => P w w' e

set_option maxRecDepth 100000 in
set_option maxHeartbeats 2000000 in
theorem skipping {sb : Nat} {s K : ByteArray} {x : Value} (hx : ∀ W, Calls Tryz.prog 23 #[x] W fun e w' => e = .returned (.string K) ∧ W = w') (w : World) (hs : w.heap[sb]? = some (.cells #[.string s] 9 (0, 0))) :
    Calls Tryz.prog 27 #[x, .pointer (some ⟨sb, 0, none⟩)] w fun e w' => e = .returned (.bool (K.toList == s.toList)) ∧ Below w.heap.size w w' := by
  have r0 := cell_of_one hs
  have HX := Lib.hid hx
  clear hs hx
  go_enter Tryz.func27, Tryz.ntmps27
  go_wp2_with fail
  go_region_with (go_at_call 23; refine (HX.out _).mono ?_; rintro e w1 ⟨rfl, rfl⟩)
  all_goals
    go_wp2_with fail
    go_ret
    exact ⟨rfl, (Below.refl _ _).drew⟩

theorem below_drN {B : Nat} {a w : World} (h : Below B a w) (n : Nat) : Below B a (w.drewN n) := ⟨h.os, h.tape, h.output, h.size, h.block⟩
set_option maxRecDepth 100000 in
set_option maxHeartbeats 2000000 in
theorem fn_other {fb tb : Nat} (T : TypeId) (q : Nat) (ht : ∀ W, (Instr.typeAssert (.iface T (.pointer (some ⟨q, 0, none⟩))) 38 45 true).run Tryz.prog W = .ok (.tuple #[.pointer none, .bool false]) W) (w : World) :
    Calls Tryz.prog 26 #[.iface T (.pointer (some ⟨q, 0, none⟩)), .pointer (some ⟨fb, 0, none⟩), .pointer (some ⟨tb, 0, none⟩)] w fun e w' => e = .returned .nilIface ∧ Below w.heap.size w w' := by
  have HX := Lib.hid (show ∀ n, Below w.heap.size w (w.drewN n) from fun n => below_drN (Below.refl _ _) n)
  go_enter Tryz.func26, Tryz.ntmps26
  go_wp2_with fail
  go_quiet (fail)
  go_wp2_with fail
  go_ret
  exact ⟨rfl, HX.out nq⟩

theorem tn_name (a : Addr) (w : World) : (Instr.typeAssert (.iface 45 (.pointer (some a))) 38 45 true).run Tryz.prog w = .ok (.tuple #[.pointer (some a), .bool true]) w := by kernel_rfl
set_option maxRecDepth 100000 in
set_option maxHeartbeats 2000000 in
theorem fn_name {I : Nat → Prop} {fb tb sb : Nat} {f t s x : ByteArray} {w : World} {b : Nat} (hb : w.heap[b]? = some (.cells #[.string x] 48 (0, 0))) (hE : Env w fb tb sb f t s) :
    Calls Tryz.prog 26 #[.iface 45 (.pointer (some ⟨b, 0, none⟩)), .pointer (some ⟨fb, 0, none⟩), .pointer (some ⟨tb, 0, none⟩)] w fun e w' => Below w.heap.size w w' ∧
      ∃ v, e = .returned v ∧ (((x.toList == f.toList) = false ∧ v = .nilIface) ∨ ((x.toList == f.toList) = true ∧ ∃ q, v = .iface 45 (.pointer (some ⟨q, 0, none⟩)) ∧ RepN I w.heap.size w' (.node ⟨#[78, 97, 109, 101]⟩ t 0 []) v)) := by
  have r0 := cell_of_one hb
  have r1 := cell_of_one hE.f
  have r2 := cell_of_one hE.t
  have ht := fun W => tn_name ⟨b, 0, none⟩ W
  cases hh : (x.toList == f.toList) with
  | true =>
    have HX := Lib.hid (show ∀ n, Below w.heap.size w ((w.drewN n).alloc (.cells #[.string t] 48)) ∧ RepN I w.heap.size ((w.drewN n).alloc (.cells #[.string t] 48)) (.node ⟨#[78, 97, 109, 101]⟩ t 0 []) (.iface 45 (.pointer (some ⟨w.heap.size, 0, none⟩))) from fun n =>
      ⟨(below_drN (Below.refl _ _) n).alloc (Nat.le_refl _) _, madeN_name (w := w.drewN n) (Nat.le_refl _) t⟩)
    clear hb hE
    go_enter Tryz.func26, Tryz.ntmps26
    go_wp2_with fail
    go_quiet (fail)
    go_wp2_with fail
    go_ret
    exact ⟨(HX.out nq).1, _, rfl, .inr ⟨by trivial, _, rfl, (HX.out nq).2⟩⟩
  | false =>
    have HX := Lib.hid (show ∀ n, Below w.heap.size w (w.drewN n) from fun n => below_drN (Below.refl _ _) n)
    clear hb hE
    go_enter Tryz.func26, Tryz.ntmps26
    go_wp2_with fail
    go_quiet (fail)
    go_wp2_with fail
    go_ret
    exact ⟨HX.out nq, _, rfl, .inl ⟨by trivial, rfl⟩⟩

theorem mc_builtinType (a : Addr) (w : World) : (method 294 53 (.pointer (some a)) "Copy").run Tryz.prog w = .ok (97, .pointer (some a)) w := by kernel_rfl
theorem ta_builtinType (a : Addr) (w : World) : (Instr.typeAssert (.iface 53 (.pointer (some a))) 38 45 true).run Tryz.prog w = .ok (.tuple #[.pointer none, .bool false]) w := by kernel_rfl
theorem mc_operator (a : Addr) (w : World) : (method 294 55 (.pointer (some a)) "Copy").run Tryz.prog w = .ok (100, .pointer (some a)) w := by kernel_rfl
theorem ta_operator (a : Addr) (w : World) : (Instr.typeAssert (.iface 55 (.pointer (some a))) 38 45 true).run Tryz.prog w = .ok (.tuple #[.pointer none, .bool false]) w := by kernel_rfl
theorem mc_constructor (a : Addr) (w : World) : (method 294 59 (.pointer (some a)) "Copy").run Tryz.prog w = .ok (103, .pointer (some a)) w := by kernel_rfl
theorem ta_constructor (a : Addr) (w : World) : (Instr.typeAssert (.iface 59 (.pointer (some a))) 38 45 true).run Tryz.prog w = .ok (.tuple #[.pointer none, .bool false]) w := by kernel_rfl
theorem mc_destructor (a : Addr) (w : World) : (method 294 63 (.pointer (some a)) "Copy").run Tryz.prog w = .ok (106, .pointer (some a)) w := by kernel_rfl
theorem ta_destructor (a : Addr) (w : World) : (Instr.typeAssert (.iface 63 (.pointer (some a))) 38 45 true).run Tryz.prog w = .ok (.tuple #[.pointer none, .bool false]) w := by kernel_rfl
theorem mc_qualified (a : Addr) (w : World) : (method 294 66 (.pointer (some a)) "Copy").run Tryz.prog w = .ok (109, .pointer (some a)) w := by kernel_rfl
theorem ta_qualified (a : Addr) (w : World) : (Instr.typeAssert (.iface 66 (.pointer (some a))) 38 45 true).run Tryz.prog w = .ok (.tuple #[.pointer none, .bool false]) w := by kernel_rfl
theorem mc_template (a : Addr) (w : World) : (method 294 69 (.pointer (some a)) "Copy").run Tryz.prog w = .ok (112, .pointer (some a)) w := by kernel_rfl
theorem ta_template (a : Addr) (w : World) : (Instr.typeAssert (.iface 69 (.pointer (some a))) 38 45 true).run Tryz.prog w = .ok (.tuple #[.pointer none, .bool false]) w := by kernel_rfl
theorem mc_typed (a : Addr) (w : World) : (method 294 74 (.pointer (some a)) "Copy").run Tryz.prog w = .ok (115, .pointer (some a)) w := by kernel_rfl
theorem ta_typed (a : Addr) (w : World) : (Instr.typeAssert (.iface 74 (.pointer (some a))) 38 45 true).run Tryz.prog w = .ok (.tuple #[.pointer none, .bool false]) w := by kernel_rfl
theorem mc_functionType (a : Addr) (w : World) : (method 294 77 (.pointer (some a)) "Copy").run Tryz.prog w = .ok (118, .pointer (some a)) w := by kernel_rfl
theorem ta_functionType (a : Addr) (w : World) : (Instr.typeAssert (.iface 77 (.pointer (some a))) 38 45 true).run Tryz.prog w = .ok (.tuple #[.pointer none, .bool false]) w := by kernel_rfl
theorem mc_pointerType (a : Addr) (w : World) : (method 294 80 (.pointer (some a)) "Copy").run Tryz.prog w = .ok (121, .pointer (some a)) w := by kernel_rfl
theorem ta_pointerType (a : Addr) (w : World) : (Instr.typeAssert (.iface 80 (.pointer (some a))) 38 45 true).run Tryz.prog w = .ok (.tuple #[.pointer none, .bool false]) w := by kernel_rfl
theorem mc_referenceType (a : Addr) (w : World) : (method 294 83 (.pointer (some a)) "Copy").run Tryz.prog w = .ok (124, .pointer (some a)) w := by kernel_rfl
theorem ta_referenceType (a : Addr) (w : World) : (Instr.typeAssert (.iface 83 (.pointer (some a))) 38 45 true).run Tryz.prog w = .ok (.tuple #[.pointer none, .bool false]) w := by kernel_rfl
theorem mc_rvalueReferenceType (a : Addr) (w : World) : (method 294 85 (.pointer (some a)) "Copy").run Tryz.prog w = .ok (127, .pointer (some a)) w := by kernel_rfl
theorem ta_rvalueReferenceType (a : Addr) (w : World) : (Instr.typeAssert (.iface 85 (.pointer (some a))) 38 45 true).run Tryz.prog w = .ok (.tuple #[.pointer none, .bool false]) w := by kernel_rfl
theorem mc_complexType (a : Addr) (w : World) : (method 294 87 (.pointer (some a)) "Copy").run Tryz.prog w = .ok (130, .pointer (some a)) w := by kernel_rfl
theorem ta_complexType (a : Addr) (w : World) : (Instr.typeAssert (.iface 87 (.pointer (some a))) 38 45 true).run Tryz.prog w = .ok (.tuple #[.pointer none, .bool false]) w := by kernel_rfl
theorem mc_imaginaryType (a : Addr) (w : World) : (method 294 89 (.pointer (some a)) "Copy").run Tryz.prog w = .ok (133, .pointer (some a)) w := by kernel_rfl
theorem ta_imaginaryType (a : Addr) (w : World) : (Instr.typeAssert (.iface 89 (.pointer (some a))) 38 45 true).run Tryz.prog w = .ok (.tuple #[.pointer none, .bool false]) w := by kernel_rfl
theorem mc_typeWithQualifiers (a : Addr) (w : World) : (method 294 91 (.pointer (some a)) "Copy").run Tryz.prog w = .ok (136, .pointer (some a)) w := by kernel_rfl
theorem ta_typeWithQualifiers (a : Addr) (w : World) : (Instr.typeAssert (.iface 91 (.pointer (some a))) 38 45 true).run Tryz.prog w = .ok (.tuple #[.pointer none, .bool false]) w := by kernel_rfl
theorem mc_methodWithQualifiers (a : Addr) (w : World) : (method 294 100 (.pointer (some a)) "Copy").run Tryz.prog w = .ok (145, .pointer (some a)) w := by kernel_rfl
theorem ta_methodWithQualifiers (a : Addr) (w : World) : (Instr.typeAssert (.iface 100 (.pointer (some a))) 38 45 true).run Tryz.prog w = .ok (.tuple #[.pointer none, .bool false]) w := by kernel_rfl
theorem mc_arrayType (a : Addr) (w : World) : (method 294 108 (.pointer (some a)) "Copy").run Tryz.prog w = .ok (148, .pointer (some a)) w := by kernel_rfl
theorem ta_arrayType (a : Addr) (w : World) : (Instr.typeAssert (.iface 108 (.pointer (some a))) 38 45 true).run Tryz.prog w = .ok (.tuple #[.pointer none, .bool false]) w := by kernel_rfl
theorem mc_vectorType (a : Addr) (w : World) : (method 294 111 (.pointer (some a)) "Copy").run Tryz.prog w = .ok (151, .pointer (some a)) w := by kernel_rfl
theorem ta_vectorType (a : Addr) (w : World) : (Instr.typeAssert (.iface 111 (.pointer (some a))) 38 45 true).run Tryz.prog w = .ok (.tuple #[.pointer none, .bool false]) w := by kernel_rfl
theorem mc_ptrMem (a : Addr) (w : World) : (method 294 114 (.pointer (some a)) "Copy").run Tryz.prog w = .ok (154, .pointer (some a)) w := by kernel_rfl
theorem ta_ptrMem (a : Addr) (w : World) : (Instr.typeAssert (.iface 114 (.pointer (some a))) 38 45 true).run Tryz.prog w = .ok (.tuple #[.pointer none, .bool false]) w := by kernel_rfl
theorem mc_literal (a : Addr) (w : World) : (method 294 126 (.pointer (some a)) "Copy").run Tryz.prog w = .ok (166, .pointer (some a)) w := by kernel_rfl
theorem ta_literal (a : Addr) (w : World) : (Instr.typeAssert (.iface 126 (.pointer (some a))) 38 45 true).run Tryz.prog w = .ok (.tuple #[.pointer none, .bool false]) w := by kernel_rfl
theorem mc_argumentPack (a : Addr) (w : World) : (method 294 129 (.pointer (some a)) "Copy").run Tryz.prog w = .ok (169, .pointer (some a)) w := by kernel_rfl
theorem ta_argumentPack (a : Addr) (w : World) : (Instr.typeAssert (.iface 129 (.pointer (some a))) 38 45 true).run Tryz.prog w = .ok (.tuple #[.pointer none, .bool false]) w := by kernel_rfl
theorem mc_closure (a : Addr) (w : World) : (method 294 136 (.pointer (some a)) "Copy").run Tryz.prog w = .ok (175, .pointer (some a)) w := by kernel_rfl
theorem ta_closure (a : Addr) (w : World) : (Instr.typeAssert (.iface 136 (.pointer (some a))) 38 45 true).run Tryz.prog w = .ok (.tuple #[.pointer none, .bool false]) w := by kernel_rfl
theorem mc_unnamedType (a : Addr) (w : World) : (method 294 139 (.pointer (some a)) "Copy").run Tryz.prog w = .ok (178, .pointer (some a)) w := by kernel_rfl
theorem ta_unnamedType (a : Addr) (w : World) : (Instr.typeAssert (.iface 139 (.pointer (some a))) 38 45 true).run Tryz.prog w = .ok (.tuple #[.pointer none, .bool false]) w := by kernel_rfl
theorem mc_taggedName (a : Addr) (w : World) : (method 294 142 (.pointer (some a)) "Copy").run Tryz.prog w = .ok (181, .pointer (some a)) w := by kernel_rfl
theorem ta_taggedName (a : Addr) (w : World) : (Instr.typeAssert (.iface 142 (.pointer (some a))) 38 45 true).run Tryz.prog w = .ok (.tuple #[.pointer none, .bool false]) w := by kernel_rfl
theorem mc_cast (a : Addr) (w : World) : (method 294 154 (.pointer (some a)) "Copy").run Tryz.prog w = .ok (193, .pointer (some a)) w := by kernel_rfl
theorem ta_cast (a : Addr) (w : World) : (Instr.typeAssert (.iface 154 (.pointer (some a))) 38 45 true).run Tryz.prog w = .ok (.tuple #[.pointer none, .bool false]) w := by kernel_rfl
theorem mc_qualifiers (a : Addr) (w : World) : (method 294 94 (.pointer (some a)) "Copy").run Tryz.prog w = .ok (139, .pointer (some a)) w := by kernel_rfl
theorem ta_qualifiers (a : Addr) (w : World) : (Instr.typeAssert (.iface 94 (.pointer (some a))) 38 45 true).run Tryz.prog w = .ok (.tuple #[.pointer none, .bool false]) w := by kernel_rfl
theorem mc_qualifier (a : Addr) (w : World) : (method 294 97 (.pointer (some a)) "Copy").run Tryz.prog w = .ok (142, .pointer (some a)) w := by kernel_rfl
theorem ta_qualifier (a : Addr) (w : World) : (Instr.typeAssert (.iface 97 (.pointer (some a))) 38 45 true).run Tryz.prog w = .ok (.tuple #[.pointer none, .bool false]) w := by kernel_rfl
theorem mc_name (a : Addr) (w : World) : (method 294 45 (.pointer (some a)) "Copy").run Tryz.prog w = .ok (94, .pointer (some a)) w := by kernel_rfl

theorem hit_nil (f s : ByteArray) : hitT f s nilT = false := by
  rw [nilT, hitT, show ((⟨#[]⟩ : ByteArray).toList == [78, 97, 109, 101]) = false by kernel_rfl]
  simp [hitL]
theorem hit_q1 (f s x : ByteArray) : hitT f s (.node ⟨#[81, 117, 97, 108, 105, 102, 105, 101, 114]⟩ x 0 []) = false := by
  rw [hitT, show ((⟨#[81, 117, 97, 108, 105, 102, 105, 101, 114]⟩ : ByteArray).toList == [78, 97, 109, 101]) = false by kernel_rfl]
  simp [hitL]
theorem hitL_q {f s : ByteArray} : ∀ (qs : List Tree), (∀ q ∈ qs, ∃ x, q = .node ⟨#[81, 117, 97, 108, 105, 102, 105, 101, 114]⟩ x 0 []) → hitL f s qs = false
  | [], _ => by rw [hitL]
  | q :: r, h => by
    obtain ⟨x, rfl⟩ := h q (by simp)
    rw [hitL, hit_q1, hitL_q r (fun q hq => h q (List.mem_cons_of_mem _ hq))]
    rfl
theorem hit_quals (f s : ByteArray) {w : World} {I : Nat → Prop} {q : Tree} {v : Value} (h : RepQ w I q v) : hitT f s q = false := by
  obtain ⟨qs, b, sv, kv, rfl, _, _, _, _, hm, hl⟩ := h
  rw [hitT, show ((⟨#[81, 117, 97, 108, 105, 102, 105, 101, 114, 115]⟩ : ByteArray).toList == [78, 97, 109, 101]) = false by kernel_rfl]
  have : hitL f s qs = false := hitL_q qs fun q hq => by
    obtain ⟨i, hi, rfl⟩ := List.mem_iff_getElem.1 hq
    obtain ⟨x, _, _, e, _⟩ := hl i hi (by omega)
    exact ⟨x, e⟩
  rw [this]
  simp

end Go.Proofs.YtnhccgbkalpcnaaGreatDoor
