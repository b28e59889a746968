/- What an element of a tree is in memory. -/
import Derived.Test.YtnhccgbkalpcnaaGreatDoorGood
namespace Go.Proofs.YtnhccgbkalpcnaaGreatDoor
open Go.RowKit

/-- one Qualifier in memory -/
def RepQ1 (w : World) (I : Nat → Prop) (t : Tree) (v : Value) : Prop :=
  ∃ s b ev, t = .node ⟨#[81, 117, 97, 108, 105, 102, 105, 101, 114]⟩ s 0 [] ∧ v = .iface 97 (.pointer (some ⟨b, 0, none⟩)) ∧ I b ∧ w.heap[b]? = some (.cells #[.string s, ev] 99 (0, 0)) ∧ SliceOf w I ev []
/-- Qualifiers in memory -/
def RepQ (w : World) (I : Nat → Prop) (q : Tree) (v : Value) : Prop :=
  ∃ (qs : List Tree) (b : Nat) (sv : Value) (kv : List Value), q = .node ⟨#[81, 117, 97, 108, 105, 102, 105, 101, 114, 115]⟩ ⟨#[]⟩ 0 qs ∧ v = .iface 94 (.pointer (some ⟨b, 0, none⟩)) ∧ I b ∧ w.heap[b]? = some (.cells #[sv] 96 (0, 0)) ∧
    SliceOf w I sv kv ∧ kv.length = qs.length ∧ ∀ i (h : i < qs.length) (h2 : i < kv.length), RepQ1 w I qs[i] kv[i]

/-- an element of a tree in memory, its blocks out of I -/
inductive Rep (w : World) (I : Nat → Prop) : Tree → Value → Prop
  | name (s : ByteArray) (b : Nat) (hI : I b) (hb : w.heap[b]? = some (.cells #[.string s] 48 (0, 0))) : Rep w I (.node ⟨#[78, 97, 109, 101]⟩ s 0 []) (.iface 45 (.pointer (some ⟨b, 0, none⟩)))
  | builtinType (s : ByteArray) (b : Nat) (hI : I b) (hb : w.heap[b]? = some (.cells #[.string s] 54 (0, 0))) : Rep w I (.node ⟨#[66, 117, 105, 108, 116, 105, 110, 84, 121, 112, 101]⟩ s 0 []) (.iface 53 (.pointer (some ⟨b, 0, none⟩)))
  | operator (s : ByteArray) (b : Nat) (hI : I b) (hb : w.heap[b]? = some (.cells #[.string s, .int .i64 0] 58 (0, 0))) : Rep w I (.node ⟨#[79, 112, 101, 114, 97, 116, 111, 114]⟩ s 0 []) (.iface 55 (.pointer (some ⟨b, 0, none⟩)))
  | constructor {a : Tree} {u : Value} (b : Nat) (hI : I b) (hb : w.heap[b]? = some (.cells #[u, .nilIface] 62 (0, 0))) (ha : Rep w I a u) : Rep w I (.node ⟨#[67, 111, 110, 115, 116, 114, 117, 99, 116, 111, 114]⟩ ⟨#[]⟩ 0 [a]) (.iface 59 (.pointer (some ⟨b, 0, none⟩)))
  | destructor {a : Tree} {u : Value} (b : Nat) (hI : I b) (hb : w.heap[b]? = some (.cells #[u] 65 (0, 0))) (ha : Rep w I a u) : Rep w I (.node ⟨#[68, 101, 115, 116, 114, 117, 99, 116, 111, 114]⟩ ⟨#[]⟩ 0 [a]) (.iface 63 (.pointer (some ⟨b, 0, none⟩)))
  | qualified {a : Tree} {u : Value} {c : Tree} {y : Value} (b : Nat) (hI : I b) (hb : w.heap[b]? = some (.cells #[u, y, .bool false] 68 (0, 0))) (ha : Rep w I a u) (hc : Rep w I c y) : Rep w I (.node ⟨#[81, 117, 97, 108, 105, 102, 105, 101, 100]⟩ ⟨#[]⟩ 0 [a, c]) (.iface 66 (.pointer (some ⟨b, 0, none⟩)))
  | template {a : Tree} {u : Value} {l : List Tree} {sv : Value} {kv : List Value} (b : Nat) (hI : I b) (hb : w.heap[b]? = some (.cells #[u, sv] 73 (0, 0))) (ha : Rep w I a u) (hs : SliceOf w I sv kv) (hm : kv.length = l.length) (hl : ∀ i (h : i < l.length) (h2 : i < kv.length), Rep w I l[i] kv[i]) : Rep w I (.node ⟨#[84, 101, 109, 112, 108, 97, 116, 101]⟩ ⟨#[]⟩ 0 (a :: l)) (.iface 69 (.pointer (some ⟨b, 0, none⟩)))
  | typed {a : Tree} {u : Value} {c : Tree} {y : Value} (b : Nat) (hI : I b) (hb : w.heap[b]? = some (.cells #[u, y] 76 (0, 0))) (ha : Rep w I a u) (hc : Rep w I c y) : Rep w I (.node ⟨#[84, 121, 112, 101, 100]⟩ ⟨#[]⟩ 0 [a, c]) (.iface 74 (.pointer (some ⟨b, 0, none⟩)))
  | functionType {a : Tree} {u : Value} {l : List Tree} {sv : Value} {kv : List Value} (b : Nat) (hI : I b) (hb : w.heap[b]? = some (.cells #[u, sv, .bool false] 79 (0, 0))) (ha : Rep w I a u) (hs : SliceOf w I sv kv) (hm : kv.length = l.length) (hl : ∀ i (h : i < l.length) (h2 : i < kv.length), Rep w I l[i] kv[i]) : Rep w I (.node ⟨#[70, 117, 110, 99, 116, 105, 111, 110, 84, 121, 112, 101]⟩ ⟨#[]⟩ 0 (a :: l)) (.iface 77 (.pointer (some ⟨b, 0, none⟩)))
  | functionNil {l : List Tree} {sv : Value} {kv : List Value} (b : Nat) (hI : I b) (hb : w.heap[b]? = some (.cells #[.nilIface, sv, .bool false] 79 (0, 0))) (hs : SliceOf w I sv kv) (hm : kv.length = l.length) (hl : ∀ i (h : i < l.length) (h2 : i < kv.length), Rep w I l[i] kv[i]) : Rep w I (.node ⟨#[70, 117, 110, 99, 116, 105, 111, 110, 84, 121, 112, 101]⟩ ⟨#[]⟩ 0 (nilT :: l)) (.iface 77 (.pointer (some ⟨b, 0, none⟩)))
  | pointerType {a : Tree} {u : Value} (b : Nat) (hI : I b) (hb : w.heap[b]? = some (.cells #[u] 82 (0, 0))) (ha : Rep w I a u) : Rep w I (.node ⟨#[80, 111, 105, 110, 116, 101, 114, 84, 121, 112, 101]⟩ ⟨#[]⟩ 0 [a]) (.iface 80 (.pointer (some ⟨b, 0, none⟩)))
  | referenceType {a : Tree} {u : Value} (b : Nat) (hI : I b) (hb : w.heap[b]? = some (.cells #[u] 84 (0, 0))) (ha : Rep w I a u) : Rep w I (.node ⟨#[82, 101, 102, 101, 114, 101, 110, 99, 101, 84, 121, 112, 101]⟩ ⟨#[]⟩ 0 [a]) (.iface 83 (.pointer (some ⟨b, 0, none⟩)))
  | rvalueReferenceType {a : Tree} {u : Value} (b : Nat) (hI : I b) (hb : w.heap[b]? = some (.cells #[u] 86 (0, 0))) (ha : Rep w I a u) : Rep w I (.node ⟨#[82, 118, 97, 108, 117, 101, 82, 101, 102, 101, 114, 101, 110, 99, 101, 84, 121, 112, 101]⟩ ⟨#[]⟩ 0 [a]) (.iface 85 (.pointer (some ⟨b, 0, none⟩)))
  | complexType {a : Tree} {u : Value} (b : Nat) (hI : I b) (hb : w.heap[b]? = some (.cells #[u] 88 (0, 0))) (ha : Rep w I a u) : Rep w I (.node ⟨#[67, 111, 109, 112, 108, 101, 120, 84, 121, 112, 101]⟩ ⟨#[]⟩ 0 [a]) (.iface 87 (.pointer (some ⟨b, 0, none⟩)))
  | imaginaryType {a : Tree} {u : Value} (b : Nat) (hI : I b) (hb : w.heap[b]? = some (.cells #[u] 90 (0, 0))) (ha : Rep w I a u) : Rep w I (.node ⟨#[73, 109, 97, 103, 105, 110, 97, 114, 121, 84, 121, 112, 101]⟩ ⟨#[]⟩ 0 [a]) (.iface 89 (.pointer (some ⟨b, 0, none⟩)))
  | typeWithQualifiers {a : Tree} {u : Value} {q : Tree} {y : Value} (b : Nat) (hI : I b) (hb : w.heap[b]? = some (.cells #[u, y] 93 (0, 0))) (ha : Rep w I a u) (hq : RepQ w I q y) : Rep w I (.node ⟨#[84, 121, 112, 101, 87, 105, 116, 104, 81, 117, 97, 108, 105, 102, 105, 101, 114, 115]⟩ ⟨#[]⟩ 0 [a, q]) (.iface 91 (.pointer (some ⟨b, 0, none⟩)))
  | methodWithQualifiers (s : ByteArray) {a : Tree} {u : Value} {q : Tree} {y : Value} (b : Nat) (hI : I b) (hb : w.heap[b]? = some (.cells #[u, y, .string s] 102 (0, 0))) (ha : Rep w I a u) (hq : RepQ w I q y) : Rep w I (.node ⟨#[77, 101, 116, 104, 111, 100, 87, 105, 116, 104, 81, 117, 97, 108, 105, 102, 105, 101, 114, 115]⟩ s 0 [a, q]) (.iface 100 (.pointer (some ⟨b, 0, none⟩)))
  | methodNil (s : ByteArray) {a : Tree} {u : Value} (b : Nat) (hI : I b) (hb : w.heap[b]? = some (.cells #[u, .nilIface, .string s] 102 (0, 0))) (ha : Rep w I a u) : Rep w I (.node ⟨#[77, 101, 116, 104, 111, 100, 87, 105, 116, 104, 81, 117, 97, 108, 105, 102, 105, 101, 114, 115]⟩ s 0 [a, nilT]) (.iface 100 (.pointer (some ⟨b, 0, none⟩)))
  | arrayType {a : Tree} {u : Value} {c : Tree} {y : Value} (b : Nat) (hI : I b) (hb : w.heap[b]? = some (.cells #[u, y] 110 (0, 0))) (ha : Rep w I a u) (hc : Rep w I c y) : Rep w I (.node ⟨#[65, 114, 114, 97, 121, 84, 121, 112, 101]⟩ ⟨#[]⟩ 0 [a, c]) (.iface 108 (.pointer (some ⟨b, 0, none⟩)))
  | vectorType {a : Tree} {u : Value} {c : Tree} {y : Value} (b : Nat) (hI : I b) (hb : w.heap[b]? = some (.cells #[u, y] 113 (0, 0))) (ha : Rep w I a u) (hc : Rep w I c y) : Rep w I (.node ⟨#[86, 101, 99, 116, 111, 114, 84, 121, 112, 101]⟩ ⟨#[]⟩ 0 [a, c]) (.iface 111 (.pointer (some ⟨b, 0, none⟩)))
  | ptrMem {a : Tree} {u : Value} {c : Tree} {y : Value} (b : Nat) (hI : I b) (hb : w.heap[b]? = some (.cells #[u, y] 116 (0, 0))) (ha : Rep w I a u) (hc : Rep w I c y) : Rep w I (.node ⟨#[80, 116, 114, 77, 101, 109]⟩ ⟨#[]⟩ 0 [a, c]) (.iface 114 (.pointer (some ⟨b, 0, none⟩)))
  | vendorQualifier {a : Tree} {u : Value} {c : Tree} {y : Value} (b : Nat) (hI : I b) (hb : w.heap[b]? = some (.cells #[u, y] 119 (0, 0))) (ha : Rep w I a u) (hc : Rep w I c y) : Rep w I (.node ⟨#[86, 101, 110, 100, 111, 114, 81, 117, 97, 108, 105, 102, 105, 101, 114]⟩ ⟨#[]⟩ 0 [a, c]) (.iface 117 (.pointer (some ⟨b, 0, none⟩)))
  | literal (s : ByteArray) (n : Int) (hn : n = 0 ∨ n = 1) {a : Tree} {u : Value} (b : Nat) (hI : I b) (hb : w.heap[b]? = some (.cells #[u, .string s, .bool (n == 1)] 128 (0, 0))) (ha : Rep w I a u) : Rep w I (.node ⟨#[76, 105, 116, 101, 114, 97, 108]⟩ s n [a]) (.iface 126 (.pointer (some ⟨b, 0, none⟩)))
  | argumentPack {l : List Tree} {sv : Value} {kv : List Value} (b : Nat) (hI : I b) (hb : w.heap[b]? = some (.cells #[sv] 131 (0, 0))) (hs : SliceOf w I sv kv) (hm : kv.length = l.length) (hl : ∀ i (h : i < l.length) (h2 : i < kv.length), Rep w I l[i] kv[i]) : Rep w I (.node ⟨#[65, 114, 103, 117, 109, 101, 110, 116, 80, 97, 99, 107]⟩ ⟨#[]⟩ 0 l) (.iface 129 (.pointer (some ⟨b, 0, none⟩)))
  | closure (n : Int) {l : List Tree} {sv : Value} {kv : List Value} {ev : Value} (b : Nat) (hI : I b) (hb : w.heap[b]? = some (.cells #[ev, .nilIface, sv, .int .i64 n, .nilIface] 138 (0, 0))) (hs : SliceOf w I sv kv) (hm : kv.length = l.length) (hl : ∀ i (h : i < l.length) (h2 : i < kv.length), Rep w I l[i] kv[i]) (he : SliceOf w I ev []) : Rep w I (.node ⟨#[67, 108, 111, 115, 117, 114, 101]⟩ ⟨#[]⟩ n l) (.iface 136 (.pointer (some ⟨b, 0, none⟩)))
  | unnamedType (n : Int) (b : Nat) (hI : I b) (hb : w.heap[b]? = some (.cells #[.int .i64 n] 141 (0, 0))) : Rep w I (.node ⟨#[85, 110, 110, 97, 109, 101, 100, 84, 121, 112, 101]⟩ ⟨#[]⟩ n []) (.iface 139 (.pointer (some ⟨b, 0, none⟩)))
  | taggedName {a : Tree} {u : Value} {c : Tree} {y : Value} (b : Nat) (hI : I b) (hb : w.heap[b]? = some (.cells #[u, y] 144 (0, 0))) (ha : Rep w I a u) (hc : Rep w I c y) : Rep w I (.node ⟨#[84, 97, 103, 103, 101, 100, 78, 97, 109, 101]⟩ ⟨#[]⟩ 0 [a, c]) (.iface 142 (.pointer (some ⟨b, 0, none⟩)))
  | cast {a : Tree} {u : Value} (b : Nat) (hI : I b) (hb : w.heap[b]? = some (.cells #[u] 156 (0, 0))) (ha : Rep w I a u) : Rep w I (.node ⟨#[67, 97, 115, 116]⟩ ⟨#[]⟩ 0 [a]) (.iface 154 (.pointer (some ⟨b, 0, none⟩)))

theorem RepQ1.move {w w' : World} {I J : Nat → Prop} (hS : ∀ i, I i → w'.heap[i]? = w.heap[i]?) (hJ : ∀ i, I i → J i) {q : Tree} {v : Value} (h : RepQ1 w I q v) : RepQ1 w' J q v := by
  obtain ⟨s, b, ev, h1, h2, h3, h4, h5⟩ := h
  exact ⟨s, b, ev, h1, h2, hJ _ h3, by rw [hS b h3]; exact h4, (h5.same hS).mono hJ⟩
theorem RepQ1.form {w : World} {I : Nat → Prop} {t : Tree} {v : Value} (h : RepQ1 w I t v) : ∃ T b, v = .iface T (.pointer (some ⟨b, 0, none⟩)) ∧ I b := by
  obtain ⟨s, b, ev, _, rfl, h3, _⟩ := h
  exact ⟨_, b, rfl, h3⟩
theorem RepQ.move {w w' : World} {I J : Nat → Prop} (hS : ∀ i, I i → w'.heap[i]? = w.heap[i]?) (hJ : ∀ i, I i → J i) {q : Tree} {v : Value} (h : RepQ w I q v) : RepQ w' J q v := by
  obtain ⟨qs, b, sv, kv, hq, hv, hI, hb, hs, hm, hl⟩ := h
  refine ⟨qs, b, sv, kv, hq, hv, hJ _ hI, by rw [hS b hI]; exact hb, (hs.same hS).mono hJ, hm, fun i h h2 => (hl i h h2).move hS hJ⟩

theorem Rep.move {w w' : World} {I J : Nat → Prop} (hS : ∀ i, I i → w'.heap[i]? = w.heap[i]?) (hJ : ∀ i, I i → J i) {t : Tree} {v : Value} (h : Rep w I t v) : Rep w' J t v := by
  induction h with
  | name s b hI hb => exact .name s b (hJ _ hI) (by rw [hS b hI]; exact hb)
  | builtinType s b hI hb => exact .builtinType s b (hJ _ hI) (by rw [hS b hI]; exact hb)
  | operator s b hI hb => exact .operator s b (hJ _ hI) (by rw [hS b hI]; exact hb)
  | constructor b hI hb ha iha => exact .constructor b (hJ _ hI) (by rw [hS b hI]; exact hb) iha
  | destructor b hI hb ha iha => exact .destructor b (hJ _ hI) (by rw [hS b hI]; exact hb) iha
  | qualified b hI hb ha hc iha ihc => exact .qualified b (hJ _ hI) (by rw [hS b hI]; exact hb) iha ihc
  | template b hI hb ha hs hm hl iha ihl => exact .template b (hJ _ hI) (by rw [hS b hI]; exact hb) iha ((hs.same hS).mono hJ) hm ihl
  | typed b hI hb ha hc iha ihc => exact .typed b (hJ _ hI) (by rw [hS b hI]; exact hb) iha ihc
  | functionType b hI hb ha hs hm hl iha ihl => exact .functionType b (hJ _ hI) (by rw [hS b hI]; exact hb) iha ((hs.same hS).mono hJ) hm ihl
  | functionNil b hI hb hs hm hl ihl => exact .functionNil b (hJ _ hI) (by rw [hS b hI]; exact hb) ((hs.same hS).mono hJ) hm ihl
  | pointerType b hI hb ha iha => exact .pointerType b (hJ _ hI) (by rw [hS b hI]; exact hb) iha
  | referenceType b hI hb ha iha => exact .referenceType b (hJ _ hI) (by rw [hS b hI]; exact hb) iha
  | rvalueReferenceType b hI hb ha iha => exact .rvalueReferenceType b (hJ _ hI) (by rw [hS b hI]; exact hb) iha
  | complexType b hI hb ha iha => exact .complexType b (hJ _ hI) (by rw [hS b hI]; exact hb) iha
  | imaginaryType b hI hb ha iha => exact .imaginaryType b (hJ _ hI) (by rw [hS b hI]; exact hb) iha
  | typeWithQualifiers b hI hb ha hq iha => exact .typeWithQualifiers b (hJ _ hI) (by rw [hS b hI]; exact hb) iha (hq.move hS hJ)
  | methodWithQualifiers s b hI hb ha hq iha => exact .methodWithQualifiers s b (hJ _ hI) (by rw [hS b hI]; exact hb) iha (hq.move hS hJ)
  | methodNil s b hI hb ha iha => exact .methodNil s b (hJ _ hI) (by rw [hS b hI]; exact hb) iha
  | arrayType b hI hb ha hc iha ihc => exact .arrayType b (hJ _ hI) (by rw [hS b hI]; exact hb) iha ihc
  | vectorType b hI hb ha hc iha ihc => exact .vectorType b (hJ _ hI) (by rw [hS b hI]; exact hb) iha ihc
  | ptrMem b hI hb ha hc iha ihc => exact .ptrMem b (hJ _ hI) (by rw [hS b hI]; exact hb) iha ihc
  | vendorQualifier b hI hb ha hc iha ihc => exact .vendorQualifier b (hJ _ hI) (by rw [hS b hI]; exact hb) iha ihc
  | literal s n hn b hI hb ha iha => exact .literal s n hn b (hJ _ hI) (by rw [hS b hI]; exact hb) iha
  | argumentPack b hI hb hs hm hl ihl => exact .argumentPack b (hJ _ hI) (by rw [hS b hI]; exact hb) ((hs.same hS).mono hJ) hm ihl
  | closure n b hI hb hs hm hl he ihl => exact .closure n b (hJ _ hI) (by rw [hS b hI]; exact hb) ((hs.same hS).mono hJ) hm ihl ((he.same hS).mono hJ)
  | unnamedType n b hI hb => exact .unnamedType n b (hJ _ hI) (by rw [hS b hI]; exact hb)
  | taggedName b hI hb ha hc iha ihc => exact .taggedName b (hJ _ hI) (by rw [hS b hI]; exact hb) iha ihc
  | cast b hI hb ha iha => exact .cast b (hJ _ hI) (by rw [hS b hI]; exact hb) iha

/-- an element whose blocks were made from B on -/
def RepM (B : Nat) (w : World) (t : Tree) (v : Value) : Prop := Rep w (fun i => B ≤ i ∧ i < w.heap.size) t v
def RepQM (B : Nat) (w : World) (t : Tree) (v : Value) : Prop := RepQ w (fun i => B ≤ i ∧ i < w.heap.size) t v
/-- a slice of elements -/
def RepL (B : Nat) (w : World) (l : List Tree) (sv : Value) : Prop := ∃ kv, SliceOf w (fun i => B ≤ i ∧ i < w.heap.size) sv kv ∧ kv.length = l.length ∧ ∀ i (h : i < l.length) (h2 : i < kv.length), RepM B w l[i] kv[i]

theorem RepM.on {B : Nat} {w w' : World} {t : Tree} {v : Value} (h : RepM B w t v) (hb : Below w.heap.size w w') : RepM B w' t v := Rep.move (fun i hi => hb.block i hi.2) (fun _ hi => ⟨hi.1, Nat.lt_of_lt_of_le hi.2 hb.size⟩) h
theorem RepQM.on {B : Nat} {w w' : World} {t : Tree} {v : Value} (h : RepQM B w t v) (hb : Below w.heap.size w w') : RepQM B w' t v := RepQ.move (fun i hi => hb.block i hi.2) (fun _ hi => ⟨hi.1, Nat.lt_of_lt_of_le hi.2 hb.size⟩) h
theorem RepM.from {B B' : Nat} {w : World} {t : Tree} {v : Value} (h : RepM B w t v) (hb : B' ≤ B) : RepM B' w t v := Rep.move (fun _ _ => rfl) (fun _ hi => ⟨Nat.le_trans hb hi.1, hi.2⟩) h
theorem RepQM.from {B B' : Nat} {w : World} {t : Tree} {v : Value} (h : RepQM B w t v) (hb : B' ≤ B) : RepQM B' w t v := RepQ.move (fun _ _ => rfl) (fun _ hi => ⟨Nat.le_trans hb hi.1, hi.2⟩) h
theorem RepL.on {B : Nat} {w w' : World} {l : List Tree} {v : Value} (h : RepL B w l v) (hb : Below w.heap.size w w') : RepL B w' l v := by
  obtain ⟨kv, hs, hm, hl⟩ := h
  exact ⟨kv, (hs.same (fun i hi => hb.block i hi.2)).mono (fun _ hi => ⟨hi.1, Nat.lt_of_lt_of_le hi.2 hb.size⟩), hm, fun i h h2 => (hl i h h2).on hb⟩
theorem RepL.from {B B' : Nat} {w : World} {l : List Tree} {v : Value} (h : RepL B w l v) (hb : B' ≤ B) : RepL B' w l v := by
  obtain ⟨kv, hs, hm, hl⟩ := h
  exact ⟨kv, hs.mono (fun _ hi => ⟨Nat.le_trans hb hi.1, hi.2⟩), hm, fun i h h2 => (hl i h h2).from hb⟩
theorem SliceOf.onM {B : Nat} {w w' : World} {v : Value} {vs : List Value} (h : SliceOf w (fun i => B ≤ i ∧ i < w.heap.size) v vs) (hb : Below w.heap.size w w') : SliceOf w' (fun i => B ≤ i ∧ i < w'.heap.size) v vs :=
  (h.same (fun i hi => hb.block i hi.2)).mono (fun _ hi => ⟨hi.1, Nat.lt_of_lt_of_le hi.2 hb.size⟩)

/-- every element is an interface value that leads to a block -/
theorem Rep.form {w : World} {I : Nat → Prop} {t : Tree} {v : Value} (h : Rep w I t v) : ∃ T b, v = .iface T (.pointer (some ⟨b, 0, none⟩)) ∧ I b := by
  cases h
  all_goals exact ⟨_, _, rfl, by assumption⟩

/-- one Qualifier, from B on; a slice of them -/
def RepQ1M (B : Nat) (w : World) (t : Tree) (v : Value) : Prop := RepQ1 w (fun i => B ≤ i ∧ i < w.heap.size) t v
def RepQL (B : Nat) (w : World) (l : List Tree) (sv : Value) : Prop := ∃ kv, SliceOf w (fun i => B ≤ i ∧ i < w.heap.size) sv kv ∧ kv.length = l.length ∧ ∀ i (h : i < l.length) (h2 : i < kv.length), RepQ1M B w l[i] kv[i]
theorem RepQ1M.from {B B' : Nat} {w : World} {t : Tree} {v : Value} (h : RepQ1M B w t v) (hb : B' ≤ B) : RepQ1M B' w t v := RepQ1.move (fun _ _ => rfl) (fun _ hi => ⟨Nat.le_trans hb hi.1, hi.2⟩) h
theorem RepQ1M.on {B : Nat} {w w' : World} {t : Tree} {v : Value} (h : RepQ1M B w t v) (hb : Below w.heap.size w w') : RepQ1M B w' t v := RepQ1.move (fun i hi => hb.block i hi.2) (fun _ hi => ⟨hi.1, Nat.lt_of_lt_of_le hi.2 hb.size⟩) h
theorem RepQL.on {B : Nat} {w w' : World} {l : List Tree} {v : Value} (h : RepQL B w l v) (hb : Below w.heap.size w w') : RepQL B w' l v := by
  obtain ⟨kv, hs, hm, hl⟩ := h
  exact ⟨kv, (hs.same (fun i hi => hb.block i hi.2)).mono (fun _ hi => ⟨hi.1, Nat.lt_of_lt_of_le hi.2 hb.size⟩), hm, fun i h h2 => (hl i h h2).on hb⟩
theorem RepQL.from {B B' : Nat} {w : World} {l : List Tree} {v : Value} (h : RepQL B w l v) (hb : B' ≤ B) : RepQL B' w l v := by
  obtain ⟨kv, hs, hm, hl⟩ := h
  exact ⟨kv, hs.mono (fun _ hi => ⟨Nat.le_trans hb hi.1, hi.2⟩), hm, fun i h h2 => (hl i h h2).from hb⟩
theorem RepQL.form {B : Nat} {w : World} {l : List Tree} {v : Value} (h : RepQL B w l v) : ∃ a n c, v = .slice a n c := by
  obtain ⟨kv, h, _⟩ := h
  obtain ⟨a, c, rfl, _⟩ := h.lay
  exact ⟨a, _, c, rfl⟩

theorem RepQM.form {B : Nat} {w : World} {t : Tree} {v : Value} (h : RepQM B w t v) : ∃ b, v = .iface 94 (.pointer (some ⟨b, 0, none⟩)) := by
  obtain ⟨qs, b, sv, kv, _, rfl, _⟩ := h
  exact ⟨b, rfl⟩
theorem RepL.form {B : Nat} {w : World} {l : List Tree} {v : Value} (h : RepL B w l v) : ∃ a n c, v = .slice a n c := by
  obtain ⟨kv, h, _⟩ := h
  obtain ⟨a, c, rfl, _⟩ := h.lay
  exact ⟨a, _, c, rfl⟩

theorem made_name {B : Nat} {w : World} (hB : B ≤ w.heap.size) (s : ByteArray) : RepM B (w.alloc (.cells #[.string s] 48)) (.node ⟨#[78, 97, 109, 101]⟩ s 0 []) (.iface 45 (.pointer (some ⟨w.heap.size, 0, none⟩))) := by
  exact .name s w.heap.size ⟨hB, by simp⟩ (heap_alloc_new w _)
theorem made_builtinType {B : Nat} {w : World} (hB : B ≤ w.heap.size) (s : ByteArray) : RepM B (w.alloc (.cells #[.string s] 54)) (.node ⟨#[66, 117, 105, 108, 116, 105, 110, 84, 121, 112, 101]⟩ s 0 []) (.iface 53 (.pointer (some ⟨w.heap.size, 0, none⟩))) := by
  exact .builtinType s w.heap.size ⟨hB, by simp⟩ (heap_alloc_new w _)
theorem made_operator {B : Nat} {w : World} (hB : B ≤ w.heap.size) (s : ByteArray) : RepM B (w.alloc (.cells #[.string s, .int .i64 0] 58)) (.node ⟨#[79, 112, 101, 114, 97, 116, 111, 114]⟩ s 0 []) (.iface 55 (.pointer (some ⟨w.heap.size, 0, none⟩))) := by
  exact .operator s w.heap.size ⟨hB, by simp⟩ (heap_alloc_new w _)
theorem made_constructor {B : Nat} {w : World} (hB : B ≤ w.heap.size) {a : Tree} {u : Value} (ha : RepM B w a u) : RepM B (w.alloc (.cells #[u, .nilIface] 62)) (.node ⟨#[67, 111, 110, 115, 116, 114, 117, 99, 116, 111, 114]⟩ ⟨#[]⟩ 0 [a]) (.iface 59 (.pointer (some ⟨w.heap.size, 0, none⟩))) := by
  exact .constructor w.heap.size ⟨hB, by simp⟩ (heap_alloc_new w _) (ha.on (box_below _ _))
theorem made_destructor {B : Nat} {w : World} (hB : B ≤ w.heap.size) {a : Tree} {u : Value} (ha : RepM B w a u) : RepM B (w.alloc (.cells #[u] 65)) (.node ⟨#[68, 101, 115, 116, 114, 117, 99, 116, 111, 114]⟩ ⟨#[]⟩ 0 [a]) (.iface 63 (.pointer (some ⟨w.heap.size, 0, none⟩))) := by
  exact .destructor w.heap.size ⟨hB, by simp⟩ (heap_alloc_new w _) (ha.on (box_below _ _))
theorem made_qualified {B : Nat} {w : World} (hB : B ≤ w.heap.size) {a : Tree} {u : Value} {c : Tree} {y : Value} (ha : RepM B w a u) (hc : RepM B w c y) : RepM B (w.alloc (.cells #[u, y, .bool false] 68)) (.node ⟨#[81, 117, 97, 108, 105, 102, 105, 101, 100]⟩ ⟨#[]⟩ 0 [a, c]) (.iface 66 (.pointer (some ⟨w.heap.size, 0, none⟩))) := by
  exact .qualified w.heap.size ⟨hB, by simp⟩ (heap_alloc_new w _) (ha.on (box_below _ _)) (hc.on (box_below _ _))
theorem made_template {B : Nat} {w : World} (hB : B ≤ w.heap.size) {a : Tree} {u : Value} {l : List Tree} {sv : Value} (ha : RepM B w a u) (hl : RepL B w l sv) : RepM B (w.alloc (.cells #[u, sv] 73)) (.node ⟨#[84, 101, 109, 112, 108, 97, 116, 101]⟩ ⟨#[]⟩ 0 (a :: l)) (.iface 69 (.pointer (some ⟨w.heap.size, 0, none⟩))) := by
  obtain ⟨kv, hs, hm, hl⟩ := hl.on (box_below w (.cells #[u, sv] 73))
  exact .template w.heap.size ⟨hB, by simp⟩ (heap_alloc_new w _) (ha.on (box_below _ _)) hs hm hl
theorem made_typed {B : Nat} {w : World} (hB : B ≤ w.heap.size) {a : Tree} {u : Value} {c : Tree} {y : Value} (ha : RepM B w a u) (hc : RepM B w c y) : RepM B (w.alloc (.cells #[u, y] 76)) (.node ⟨#[84, 121, 112, 101, 100]⟩ ⟨#[]⟩ 0 [a, c]) (.iface 74 (.pointer (some ⟨w.heap.size, 0, none⟩))) := by
  exact .typed w.heap.size ⟨hB, by simp⟩ (heap_alloc_new w _) (ha.on (box_below _ _)) (hc.on (box_below _ _))
theorem made_functionType {B : Nat} {w : World} (hB : B ≤ w.heap.size) {a : Tree} {u : Value} {l : List Tree} {sv : Value} (ha : RepM B w a u) (hl : RepL B w l sv) : RepM B (w.alloc (.cells #[u, sv, .bool false] 79)) (.node ⟨#[70, 117, 110, 99, 116, 105, 111, 110, 84, 121, 112, 101]⟩ ⟨#[]⟩ 0 (a :: l)) (.iface 77 (.pointer (some ⟨w.heap.size, 0, none⟩))) := by
  obtain ⟨kv, hs, hm, hl⟩ := hl.on (box_below w (.cells #[u, sv, .bool false] 79))
  exact .functionType w.heap.size ⟨hB, by simp⟩ (heap_alloc_new w _) (ha.on (box_below _ _)) hs hm hl
theorem made_functionNil {B : Nat} {w : World} (hB : B ≤ w.heap.size) {l : List Tree} {sv : Value} (hl : RepL B w l sv) : RepM B (w.alloc (.cells #[.nilIface, sv, .bool false] 79)) (.node ⟨#[70, 117, 110, 99, 116, 105, 111, 110, 84, 121, 112, 101]⟩ ⟨#[]⟩ 0 (nilT :: l)) (.iface 77 (.pointer (some ⟨w.heap.size, 0, none⟩))) := by
  obtain ⟨kv, hs, hm, hl⟩ := hl.on (box_below w (.cells #[.nilIface, sv, .bool false] 79))
  exact .functionNil w.heap.size ⟨hB, by simp⟩ (heap_alloc_new w _) hs hm hl
theorem made_pointerType {B : Nat} {w : World} (hB : B ≤ w.heap.size) {a : Tree} {u : Value} (ha : RepM B w a u) : RepM B (w.alloc (.cells #[u] 82)) (.node ⟨#[80, 111, 105, 110, 116, 101, 114, 84, 121, 112, 101]⟩ ⟨#[]⟩ 0 [a]) (.iface 80 (.pointer (some ⟨w.heap.size, 0, none⟩))) := by
  exact .pointerType w.heap.size ⟨hB, by simp⟩ (heap_alloc_new w _) (ha.on (box_below _ _))
theorem made_referenceType {B : Nat} {w : World} (hB : B ≤ w.heap.size) {a : Tree} {u : Value} (ha : RepM B w a u) : RepM B (w.alloc (.cells #[u] 84)) (.node ⟨#[82, 101, 102, 101, 114, 101, 110, 99, 101, 84, 121, 112, 101]⟩ ⟨#[]⟩ 0 [a]) (.iface 83 (.pointer (some ⟨w.heap.size, 0, none⟩))) := by
  exact .referenceType w.heap.size ⟨hB, by simp⟩ (heap_alloc_new w _) (ha.on (box_below _ _))
theorem made_rvalueReferenceType {B : Nat} {w : World} (hB : B ≤ w.heap.size) {a : Tree} {u : Value} (ha : RepM B w a u) : RepM B (w.alloc (.cells #[u] 86)) (.node ⟨#[82, 118, 97, 108, 117, 101, 82, 101, 102, 101, 114, 101, 110, 99, 101, 84, 121, 112, 101]⟩ ⟨#[]⟩ 0 [a]) (.iface 85 (.pointer (some ⟨w.heap.size, 0, none⟩))) := by
  exact .rvalueReferenceType w.heap.size ⟨hB, by simp⟩ (heap_alloc_new w _) (ha.on (box_below _ _))
theorem made_complexType {B : Nat} {w : World} (hB : B ≤ w.heap.size) {a : Tree} {u : Value} (ha : RepM B w a u) : RepM B (w.alloc (.cells #[u] 88)) (.node ⟨#[67, 111, 109, 112, 108, 101, 120, 84, 121, 112, 101]⟩ ⟨#[]⟩ 0 [a]) (.iface 87 (.pointer (some ⟨w.heap.size, 0, none⟩))) := by
  exact .complexType w.heap.size ⟨hB, by simp⟩ (heap_alloc_new w _) (ha.on (box_below _ _))
theorem made_imaginaryType {B : Nat} {w : World} (hB : B ≤ w.heap.size) {a : Tree} {u : Value} (ha : RepM B w a u) : RepM B (w.alloc (.cells #[u] 90)) (.node ⟨#[73, 109, 97, 103, 105, 110, 97, 114, 121, 84, 121, 112, 101]⟩ ⟨#[]⟩ 0 [a]) (.iface 89 (.pointer (some ⟨w.heap.size, 0, none⟩))) := by
  exact .imaginaryType w.heap.size ⟨hB, by simp⟩ (heap_alloc_new w _) (ha.on (box_below _ _))
theorem made_typeWithQualifiers {B : Nat} {w : World} (hB : B ≤ w.heap.size) {a : Tree} {u : Value} {q : Tree} {y : Value} (ha : RepM B w a u) (hq : RepQM B w q y) : RepM B (w.alloc (.cells #[u, y] 93)) (.node ⟨#[84, 121, 112, 101, 87, 105, 116, 104, 81, 117, 97, 108, 105, 102, 105, 101, 114, 115]⟩ ⟨#[]⟩ 0 [a, q]) (.iface 91 (.pointer (some ⟨w.heap.size, 0, none⟩))) := by
  exact .typeWithQualifiers w.heap.size ⟨hB, by simp⟩ (heap_alloc_new w _) (ha.on (box_below _ _)) (hq.on (box_below _ _))
theorem made_methodWithQualifiers {B : Nat} {w : World} (hB : B ≤ w.heap.size) {a : Tree} {u : Value} {q : Tree} {y : Value} (s : ByteArray) (ha : RepM B w a u) (hq : RepQM B w q y) : RepM B (w.alloc (.cells #[u, y, .string s] 102)) (.node ⟨#[77, 101, 116, 104, 111, 100, 87, 105, 116, 104, 81, 117, 97, 108, 105, 102, 105, 101, 114, 115]⟩ s 0 [a, q]) (.iface 100 (.pointer (some ⟨w.heap.size, 0, none⟩))) := by
  exact .methodWithQualifiers s w.heap.size ⟨hB, by simp⟩ (heap_alloc_new w _) (ha.on (box_below _ _)) (hq.on (box_below _ _))
theorem made_methodNil {B : Nat} {w : World} (hB : B ≤ w.heap.size) {a : Tree} {u : Value} (s : ByteArray) (ha : RepM B w a u) : RepM B (w.alloc (.cells #[u, .nilIface, .string s] 102)) (.node ⟨#[77, 101, 116, 104, 111, 100, 87, 105, 116, 104, 81, 117, 97, 108, 105, 102, 105, 101, 114, 115]⟩ s 0 [a, nilT]) (.iface 100 (.pointer (some ⟨w.heap.size, 0, none⟩))) := by
  exact .methodNil s w.heap.size ⟨hB, by simp⟩ (heap_alloc_new w _) (ha.on (box_below _ _))
theorem made_arrayType {B : Nat} {w : World} (hB : B ≤ w.heap.size) {a : Tree} {u : Value} {c : Tree} {y : Value} (ha : RepM B w a u) (hc : RepM B w c y) : RepM B (w.alloc (.cells #[u, y] 110)) (.node ⟨#[65, 114, 114, 97, 121, 84, 121, 112, 101]⟩ ⟨#[]⟩ 0 [a, c]) (.iface 108 (.pointer (some ⟨w.heap.size, 0, none⟩))) := by
  exact .arrayType w.heap.size ⟨hB, by simp⟩ (heap_alloc_new w _) (ha.on (box_below _ _)) (hc.on (box_below _ _))
theorem made_vectorType {B : Nat} {w : World} (hB : B ≤ w.heap.size) {a : Tree} {u : Value} {c : Tree} {y : Value} (ha : RepM B w a u) (hc : RepM B w c y) : RepM B (w.alloc (.cells #[u, y] 113)) (.node ⟨#[86, 101, 99, 116, 111, 114, 84, 121, 112, 101]⟩ ⟨#[]⟩ 0 [a, c]) (.iface 111 (.pointer (some ⟨w.heap.size, 0, none⟩))) := by
  exact .vectorType w.heap.size ⟨hB, by simp⟩ (heap_alloc_new w _) (ha.on (box_below _ _)) (hc.on (box_below _ _))
theorem made_ptrMem {B : Nat} {w : World} (hB : B ≤ w.heap.size) {a : Tree} {u : Value} {c : Tree} {y : Value} (ha : RepM B w a u) (hc : RepM B w c y) : RepM B (w.alloc (.cells #[u, y] 116)) (.node ⟨#[80, 116, 114, 77, 101, 109]⟩ ⟨#[]⟩ 0 [a, c]) (.iface 114 (.pointer (some ⟨w.heap.size, 0, none⟩))) := by
  exact .ptrMem w.heap.size ⟨hB, by simp⟩ (heap_alloc_new w _) (ha.on (box_below _ _)) (hc.on (box_below _ _))
theorem made_vendorQualifier {B : Nat} {w : World} (hB : B ≤ w.heap.size) {a : Tree} {u : Value} {c : Tree} {y : Value} (ha : RepM B w a u) (hc : RepM B w c y) : RepM B (w.alloc (.cells #[u, y] 119)) (.node ⟨#[86, 101, 110, 100, 111, 114, 81, 117, 97, 108, 105, 102, 105, 101, 114]⟩ ⟨#[]⟩ 0 [a, c]) (.iface 117 (.pointer (some ⟨w.heap.size, 0, none⟩))) := by
  exact .vendorQualifier w.heap.size ⟨hB, by simp⟩ (heap_alloc_new w _) (ha.on (box_below _ _)) (hc.on (box_below _ _))
theorem made_literal {B : Nat} {w : World} (hB : B ≤ w.heap.size) {a : Tree} {u : Value} (s : ByteArray) (n : Int) (hn : n = 0 ∨ n = 1) (ha : RepM B w a u) : RepM B (w.alloc (.cells #[u, .string s, .bool (n == 1)] 128)) (.node ⟨#[76, 105, 116, 101, 114, 97, 108]⟩ s n [a]) (.iface 126 (.pointer (some ⟨w.heap.size, 0, none⟩))) := by
  exact .literal s n hn w.heap.size ⟨hB, by simp⟩ (heap_alloc_new w _) (ha.on (box_below _ _))
theorem made_argumentPack {B : Nat} {w : World} (hB : B ≤ w.heap.size) {l : List Tree} {sv : Value} (hl : RepL B w l sv) : RepM B (w.alloc (.cells #[sv] 131)) (.node ⟨#[65, 114, 103, 117, 109, 101, 110, 116, 80, 97, 99, 107]⟩ ⟨#[]⟩ 0 l) (.iface 129 (.pointer (some ⟨w.heap.size, 0, none⟩))) := by
  obtain ⟨kv, hs, hm, hl⟩ := hl.on (box_below w (.cells #[sv] 131))
  exact .argumentPack w.heap.size ⟨hB, by simp⟩ (heap_alloc_new w _) hs hm hl
theorem made_closure {B : Nat} {w : World} (hB : B ≤ w.heap.size) {l : List Tree} {sv : Value} {ev : Value} (n : Int) (hl : RepL B w l sv) (he : SliceOf w (fun i => B ≤ i ∧ i < w.heap.size) ev []) : RepM B (w.alloc (.cells #[ev, .nilIface, sv, .int .i64 n, .nilIface] 138)) (.node ⟨#[67, 108, 111, 115, 117, 114, 101]⟩ ⟨#[]⟩ n l) (.iface 136 (.pointer (some ⟨w.heap.size, 0, none⟩))) := by
  obtain ⟨kv, hs, hm, hl⟩ := hl.on (box_below w (.cells #[ev, .nilIface, sv, .int .i64 n, .nilIface] 138))
  exact .closure n w.heap.size ⟨hB, by simp⟩ (heap_alloc_new w _) hs hm hl (he.onM (box_below _ _))
theorem made_unnamedType {B : Nat} {w : World} (hB : B ≤ w.heap.size) (n : Int) : RepM B (w.alloc (.cells #[.int .i64 n] 141)) (.node ⟨#[85, 110, 110, 97, 109, 101, 100, 84, 121, 112, 101]⟩ ⟨#[]⟩ n []) (.iface 139 (.pointer (some ⟨w.heap.size, 0, none⟩))) := by
  exact .unnamedType n w.heap.size ⟨hB, by simp⟩ (heap_alloc_new w _)
theorem made_taggedName {B : Nat} {w : World} (hB : B ≤ w.heap.size) {a : Tree} {u : Value} {c : Tree} {y : Value} (ha : RepM B w a u) (hc : RepM B w c y) : RepM B (w.alloc (.cells #[u, y] 144)) (.node ⟨#[84, 97, 103, 103, 101, 100, 78, 97, 109, 101]⟩ ⟨#[]⟩ 0 [a, c]) (.iface 142 (.pointer (some ⟨w.heap.size, 0, none⟩))) := by
  exact .taggedName w.heap.size ⟨hB, by simp⟩ (heap_alloc_new w _) (ha.on (box_below _ _)) (hc.on (box_below _ _))
theorem made_cast {B : Nat} {w : World} (hB : B ≤ w.heap.size) {a : Tree} {u : Value} (ha : RepM B w a u) : RepM B (w.alloc (.cells #[u] 156)) (.node ⟨#[67, 97, 115, 116]⟩ ⟨#[]⟩ 0 [a]) (.iface 154 (.pointer (some ⟨w.heap.size, 0, none⟩))) := by
  exact .cast w.heap.size ⟨hB, by simp⟩ (heap_alloc_new w _) (ha.on (box_below _ _))

end Go.Proofs.YtnhccgbkalpcnaaGreatDoor
