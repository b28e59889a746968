/- Which trees have a form that impl.treeOf takes whole. -/
import Derived.Test.YtnhccgbkalpcnaaGreatDoorCodes
namespace Go.Proofs.YtnhccgbkalpcnaaGreatDoor
open Go.RowKit

def emptyT : ByteArray := ⟨#[]⟩
/-- no element -/
def nilT : Tree := .node ⟨#[]⟩ ⟨#[]⟩ 0 []

/-- Qualifiers of plain words -/
def Quals (q : Tree) : Prop := ∃ qs : List Tree, q = .node ⟨#[81, 117, 97, 108, 105, 102, 105, 101, 114, 115]⟩ ⟨#[]⟩ 0 qs ∧ ∀ k ∈ qs, ∃ s, k = .node ⟨#[81, 117, 97, 108, 105, 102, 105, 101, 114]⟩ s 0 []

inductive Good : Tree → Prop
  | name (s : ByteArray) : Good (.node ⟨#[78, 97, 109, 101]⟩ s 0 [])
  | builtinType (s : ByteArray) : Good (.node ⟨#[66, 117, 105, 108, 116, 105, 110, 84, 121, 112, 101]⟩ s 0 [])
  | operator (s : ByteArray) : Good (.node ⟨#[79, 112, 101, 114, 97, 116, 111, 114]⟩ s 0 [])
  | constructor {a : Tree} (ha : Good a) : Good (.node ⟨#[67, 111, 110, 115, 116, 114, 117, 99, 116, 111, 114]⟩ ⟨#[]⟩ 0 [a])
  | destructor {a : Tree} (ha : Good a) : Good (.node ⟨#[68, 101, 115, 116, 114, 117, 99, 116, 111, 114]⟩ ⟨#[]⟩ 0 [a])
  | pointerType {a : Tree} (ha : Good a) : Good (.node ⟨#[80, 111, 105, 110, 116, 101, 114, 84, 121, 112, 101]⟩ ⟨#[]⟩ 0 [a])
  | referenceType {a : Tree} (ha : Good a) : Good (.node ⟨#[82, 101, 102, 101, 114, 101, 110, 99, 101, 84, 121, 112, 101]⟩ ⟨#[]⟩ 0 [a])
  | rvalueReferenceType {a : Tree} (ha : Good a) : Good (.node ⟨#[82, 118, 97, 108, 117, 101, 82, 101, 102, 101, 114, 101, 110, 99, 101, 84, 121, 112, 101]⟩ ⟨#[]⟩ 0 [a])
  | complexType {a : Tree} (ha : Good a) : Good (.node ⟨#[67, 111, 109, 112, 108, 101, 120, 84, 121, 112, 101]⟩ ⟨#[]⟩ 0 [a])
  | imaginaryType {a : Tree} (ha : Good a) : Good (.node ⟨#[73, 109, 97, 103, 105, 110, 97, 114, 121, 84, 121, 112, 101]⟩ ⟨#[]⟩ 0 [a])
  | cast {a : Tree} (ha : Good a) : Good (.node ⟨#[67, 97, 115, 116]⟩ ⟨#[]⟩ 0 [a])
  | qualified {a b : Tree} (ha : Good a) (hb : Good b) : Good (.node ⟨#[81, 117, 97, 108, 105, 102, 105, 101, 100]⟩ ⟨#[]⟩ 0 [a, b])
  | typed {a b : Tree} (ha : Good a) (hb : Good b) : Good (.node ⟨#[84, 121, 112, 101, 100]⟩ ⟨#[]⟩ 0 [a, b])
  | arrayType {a b : Tree} (ha : Good a) (hb : Good b) : Good (.node ⟨#[65, 114, 114, 97, 121, 84, 121, 112, 101]⟩ ⟨#[]⟩ 0 [a, b])
  | vectorType {a b : Tree} (ha : Good a) (hb : Good b) : Good (.node ⟨#[86, 101, 99, 116, 111, 114, 84, 121, 112, 101]⟩ ⟨#[]⟩ 0 [a, b])
  | ptrMem {a b : Tree} (ha : Good a) (hb : Good b) : Good (.node ⟨#[80, 116, 114, 77, 101, 109]⟩ ⟨#[]⟩ 0 [a, b])
  | vendorQualifier {a b : Tree} (ha : Good a) (hb : Good b) : Good (.node ⟨#[86, 101, 110, 100, 111, 114, 81, 117, 97, 108, 105, 102, 105, 101, 114]⟩ ⟨#[]⟩ 0 [a, b])
  | taggedName {a b : Tree} (ha : Good a) (hb : Good b) : Good (.node ⟨#[84, 97, 103, 103, 101, 100, 78, 97, 109, 101]⟩ ⟨#[]⟩ 0 [a, b])
  | typeWithQualifiers {a q : Tree} (ha : Good a) (hq : Quals q) : Good (.node ⟨#[84, 121, 112, 101, 87, 105, 116, 104, 81, 117, 97, 108, 105, 102, 105, 101, 114, 115]⟩ ⟨#[]⟩ 0 [a, q])
  | methodWithQualifiers {a q : Tree} (x : ByteArray) (ha : Good a) (hq : Quals q ∨ q = nilT) : Good (.node ⟨#[77, 101, 116, 104, 111, 100, 87, 105, 116, 104, 81, 117, 97, 108, 105, 102, 105, 101, 114, 115]⟩ x 0 [a, q])
  | template {a : Tree} {l : List Tree} (ha : Good a) (hl : ∀ k ∈ l, Good k) : Good (.node ⟨#[84, 101, 109, 112, 108, 97, 116, 101]⟩ ⟨#[]⟩ 0 (a :: l))
  | functionType {r : Tree} {l : List Tree} (hr : Good r) (hl : ∀ k ∈ l, Good k) : Good (.node ⟨#[70, 117, 110, 99, 116, 105, 111, 110, 84, 121, 112, 101]⟩ ⟨#[]⟩ 0 (r :: l))
  | functionNil {l : List Tree} (hl : ∀ k ∈ l, Good k) : Good (.node ⟨#[70, 117, 110, 99, 116, 105, 111, 110, 84, 121, 112, 101]⟩ ⟨#[]⟩ 0 (nilT :: l))
  | literal {a : Tree} (s : ByteArray) {n : Int} (hn : n = 0 ∨ n = 1) (ha : Good a) : Good (.node ⟨#[76, 105, 116, 101, 114, 97, 108]⟩ s n [a])
  | argumentPack {l : List Tree} (hl : ∀ k ∈ l, Good k) : Good (.node ⟨#[65, 114, 103, 117, 109, 101, 110, 116, 80, 97, 99, 107]⟩ ⟨#[]⟩ 0 l)
  | closure {l : List Tree} (n : Int) (hl : ∀ k ∈ l, Good k) : Good (.node ⟨#[67, 108, 111, 115, 117, 114, 101]⟩ ⟨#[]⟩ n l)
  | unnamedType (n : Int) : Good (.node ⟨#[85, 110, 110, 97, 109, 101, 100, 84, 121, 112, 101]⟩ ⟨#[]⟩ n [])

/-- what a test of a tree answers -/
def Test (W0 : World) (f : FuncId) (t : Tree) (P : Prop) : Prop := ∀ (v : Value), At W0 t v → ∀ w, Later W0 w → Calls Tryz.prog f #[v] w fun e w' => Says P e ∧ Below w.heap.size w w'

theorem two_kids {ks : List Tree} (h : ks.length = 2) : ∃ a b, ks = [a, b] := by
  match ks, h with
  | [a, b], _ => exact ⟨a, b, rfl⟩
theorem one_kid {ks : List Tree} (h : ks.length = 1) : ∃ a, ks = [a] := by
  match ks, h with
  | [a], _ => exact ⟨a, rfl⟩

/-- two kids, laid open -/
theorem At.two {W0 : World} {k x : ByteArray} {n : Int} {p q : Tree} {v : Value} (h : At W0 (.node k x n [p, q]) v) :
    ∃ b off c pa pc qa qc, v = .agg #[.string k, .string x, .int .i64 n, .slice (some ⟨b, off, none⟩) 2 c] ∧ 2 ≤ c ∧ c ≤ 9223372036854775807 ∧
      (∀ w, Later W0 w → Kid w b off p pa pc ∧ Kid w b (off + 4) q qa qc) ∧ At W0 p (val p pa pc) ∧ At W0 q (val q qa qc) := by
  obtain ⟨a, c, rfl, h1, h2, h3⟩ := h.lay
  rcases h3 with h3 | ⟨b, off, rfl, hk⟩
  · cases h3
  obtain ⟨pa, pc, kp, hp⟩ := hk 0 (by show 0 < 2; omega)
  obtain ⟨qa, qc, kq, hq⟩ := hk 1 (by show 1 < 2; omega)
  refine ⟨b, off, c, pa, pc, qa, qc, rfl, h1, h2, fun w hw => ⟨?_, ?_⟩, hp, hq⟩
  · have := kp w hw
    simpa [Tree.kids] using this
  · have := kq w hw
    simpa [Tree.kids] using this

theorem At.one {W0 : World} {k x : ByteArray} {n : Int} {p : Tree} {v : Value} (h : At W0 (.node k x n [p]) v) :
    ∃ b off c pa pc, v = .agg #[.string k, .string x, .int .i64 n, .slice (some ⟨b, off, none⟩) 1 c] ∧ 1 ≤ c ∧ c ≤ 9223372036854775807 ∧
      (∀ w, Later W0 w → Kid w b off p pa pc) ∧ At W0 p (val p pa pc) := by
  obtain ⟨a, c, rfl, h1, h2, h3⟩ := h.lay
  rcases h3 with h3 | ⟨b, off, rfl, hk⟩
  · cases h3
  obtain ⟨pa, pc, kp, hp⟩ := hk 0 (by show 0 < 1; omega)
  refine ⟨b, off, c, pa, pc, rfl, h1, h2, fun w hw => ?_, hp⟩
  have := kp w hw
  simpa [Tree.kids] using this

/-- any tree, its value laid open -/
theorem At.shut {W0 : World} {k x : ByteArray} {n : Int} {ks : List Tree} {v : Value} (h : At W0 (.node k x n ks) v) : ∃ a c, v = .agg #[.string k, .string x, .int .i64 n, .slice a ks.length c] ∧ ks.length ≤ c ∧ c ≤ 9223372036854775807 := by
  obtain ⟨a, c, hv, h1, h2, _⟩ := h.lay
  exact ⟨a, c, hv, h1, h2⟩

/-- a world behind the boxing of a parameter -/
structure St (W0 w : World) (a b c d : Value) (wi : World) : Prop where
  later : Later W0 wi
  b : Below (w.heap.size + 1) (w.alloc (.cells #[a, b, c, d] 24)) wi
  sz : w.heap.size < wi.heap.size

theorem St.start {W0 w : World} (h : Later W0 w) (a b c d : Value) : St W0 w a b c d (w.alloc (.cells #[a, b, c, d] 24)) := ⟨h.box _, Below.refl _ _, by simp⟩
theorem St.on {W0 w wi w' : World} {a b c d : Value} (h : St W0 w a b c d wi) (hb : Below wi.heap.size wi w') : St W0 w a b c d w' := ⟨h.later.on hb, h.b.trans (hb.mono h.sz), Nat.lt_of_lt_of_le h.sz hb.size⟩
theorem St.below {W0 w wi : World} {a b c d : Value} (h : St W0 w a b c d wi) : Below w.heap.size w wi := (box_below w _).trans (h.b.mono (by omega))
theorem St.box {W0 w wi : World} {a b c d : Value} (h : St W0 w a b c d wi) :
    wi.cell? ⟨w.heap.size, 0, none⟩ = some a ∧ wi.cell? ⟨w.heap.size, 1, none⟩ = some b ∧ wi.cell? ⟨w.heap.size, 2, none⟩ = some c ∧ wi.cell? ⟨w.heap.size, 3, none⟩ = some d := box_at h.b

theorem sz_two {k x : ByteArray} {n : Int} {p q : Tree} : p.sz < (Tree.node k x n [p, q]).sz ∧ q.sz < (Tree.node k x n [p, q]).sz := ⟨Tree.sz_lt (by simp [Tree.kids]), Tree.sz_lt (by simp [Tree.kids])⟩

theorem good_name {t : Tree} (h : t.kind = ⟨#[78, 97, 109, 101]⟩ ∧ t.num = 0 ∧ t.kids.length = 0) : Good t := by
  obtain ⟨k, x, n, ks⟩ := t
  obtain ⟨h1, h2, h3⟩ := h
  have h4 := List.eq_nil_of_length_eq_zero h3
  change k = _ at h1
  change n = 0 at h2
  change ks = [] at h4
  subst h1 h2 h4
  exact .name x

theorem ne_of {k : ByteArray} {l : List UInt8} (h : k ≠ ⟨l.toArray⟩) : (k.toList == l) = false := by
  apply beq_eq_false_iff_ne.2
  intro e
  exact h (str_of e)

end Go.Proofs.YtnhccgbkalpcnaaGreatDoor
