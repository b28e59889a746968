/- Traverse: what each call leaves. -/
import Derived.Test.YtnhccgbkalpcnaaGreatDoorVisit
namespace Go.Proofs.YtnhccgbkalpcnaaGreatDoor
open Go.RowKit

/-- an element, and the kinds to which Traverse comes -/
def TravOK (w0 : World) (I : Nat → Prop) (u : Value) (ks : List ByteArray) : Prop :=
  ∃ T g q, u = .iface T (.pointer (some ⟨q, 0, none⟩)) ∧ (∀ W, (method 294 T (.pointer (some ⟨q, 0, none⟩)) "Traverse").run Tryz.prog W = .ok (g, .pointer (some ⟨q, 0, none⟩)) W) ∧
    (∀ args W, (callFunc g args).run Tryz.prog W = .ok (.enter g args) W) ∧
    ∀ (B ob kb : Nat) (_ : ob < B) (_ : kb < B) (_ : ∀ i, I i → i < B ∧ i ≠ ob) (out : List ByteArray) (w : World), Same I w0 w → Vs B ob kb out w → out.length + ks.length ≤ 1000000 →
      Calls Tryz.prog g #[.pointer (some ⟨q, 0, none⟩), .func (.func 22) #[] #[.pointer (some ⟨ob, 0, none⟩), .pointer (some ⟨kb, 0, none⟩)]] w fun e w' => e = .returned (.tuple #[]) ∧ Vs B ob kb (out ++ ks) w' ∧ Only B ob w w'

theorem cells1 {w : World} {p : Nat} {x : Value} {t : TypeId} (h : w.heap[p]? = some (.cells #[x] t (0, 0))) : w.cell? ⟨p, 0, none⟩ = some x := by simp [World.cell?, h]
theorem cells2 {w : World} {p : Nat} {x y : Value} {t : TypeId} (h : w.heap[p]? = some (.cells #[x, y] t (0, 0))) : w.cell? ⟨p, 0, none⟩ = some x ∧ w.cell? ⟨p, 1, none⟩ = some y := by simp [World.cell?, h]
theorem cells3 {w : World} {p : Nat} {x y z : Value} {t : TypeId} (h : w.heap[p]? = some (.cells #[x, y, z] t (0, 0))) : w.cell? ⟨p, 0, none⟩ = some x ∧ w.cell? ⟨p, 1, none⟩ = some y ∧ w.cell? ⟨p, 2, none⟩ = some z := by simp [World.cell?, h]
theorem cells5 {w : World} {p : Nat} {x y z u v : Value} {t : TypeId} (h : w.heap[p]? = some (.cells #[x, y, z, u, v] t (0, 0))) : w.cell? ⟨p, 0, none⟩ = some x ∧ w.cell? ⟨p, 1, none⟩ = some y ∧ w.cell? ⟨p, 2, none⟩ = some z ∧ w.cell? ⟨p, 3, none⟩ = some u ∧ w.cell? ⟨p, 4, none⟩ = some v := by simp [World.cell?, h]

/-- what the elements of a slice leave together -/
def TravL (w0 : World) (I : Nat → Prop) (kv : List Value) (kk : List (List ByteArray)) : Prop := kv.length = kk.length ∧ ∀ i (h : i < kv.length) (h2 : i < kk.length), TravOK w0 I kv[i] kk[i]

theorem flat_take (kk : List (List ByteArray)) {j : Nat} (h : j < kk.length) : (kk.take (j + 1)).flatten = (kk.take j).flatten ++ kk[j] := by
  rw [List.take_succ_eq_append_getElem h, List.flatten_append]
  simp
theorem flat_len (kk : List (List ByteArray)) {j : Nat} (h : j < kk.length) : (kk.take j).flatten.length + kk[j].length ≤ kk.flatten.length := by
  have h1 : kk.flatten = (kk.take (j + 1)).flatten ++ (kk.drop (j + 1)).flatten := by rw [← List.flatten_append, List.take_append_drop]
  rw [h1, flat_take kk h]
  simp only [List.length_append]
  omega

theorem mt_name (a : Addr) (w : World) : (method 294 45 (.pointer (some a)) "Traverse").run Tryz.prog w = .ok (95, .pointer (some a)) w := by kernel_rfl
theorem mt_builtinType (a : Addr) (w : World) : (method 294 53 (.pointer (some a)) "Traverse").run Tryz.prog w = .ok (98, .pointer (some a)) w := by kernel_rfl
theorem mt_operator (a : Addr) (w : World) : (method 294 55 (.pointer (some a)) "Traverse").run Tryz.prog w = .ok (101, .pointer (some a)) w := by kernel_rfl
theorem mt_constructor (a : Addr) (w : World) : (method 294 59 (.pointer (some a)) "Traverse").run Tryz.prog w = .ok (104, .pointer (some a)) w := by kernel_rfl
theorem mt_destructor (a : Addr) (w : World) : (method 294 63 (.pointer (some a)) "Traverse").run Tryz.prog w = .ok (107, .pointer (some a)) w := by kernel_rfl
theorem mt_qualified (a : Addr) (w : World) : (method 294 66 (.pointer (some a)) "Traverse").run Tryz.prog w = .ok (110, .pointer (some a)) w := by kernel_rfl
theorem mt_template (a : Addr) (w : World) : (method 294 69 (.pointer (some a)) "Traverse").run Tryz.prog w = .ok (113, .pointer (some a)) w := by kernel_rfl
theorem mt_typed (a : Addr) (w : World) : (method 294 74 (.pointer (some a)) "Traverse").run Tryz.prog w = .ok (116, .pointer (some a)) w := by kernel_rfl
theorem mt_functionType (a : Addr) (w : World) : (method 294 77 (.pointer (some a)) "Traverse").run Tryz.prog w = .ok (119, .pointer (some a)) w := by kernel_rfl
theorem mt_pointerType (a : Addr) (w : World) : (method 294 80 (.pointer (some a)) "Traverse").run Tryz.prog w = .ok (122, .pointer (some a)) w := by kernel_rfl
theorem mt_referenceType (a : Addr) (w : World) : (method 294 83 (.pointer (some a)) "Traverse").run Tryz.prog w = .ok (125, .pointer (some a)) w := by kernel_rfl
theorem mt_rvalueReferenceType (a : Addr) (w : World) : (method 294 85 (.pointer (some a)) "Traverse").run Tryz.prog w = .ok (128, .pointer (some a)) w := by kernel_rfl
theorem mt_complexType (a : Addr) (w : World) : (method 294 87 (.pointer (some a)) "Traverse").run Tryz.prog w = .ok (131, .pointer (some a)) w := by kernel_rfl
theorem mt_imaginaryType (a : Addr) (w : World) : (method 294 89 (.pointer (some a)) "Traverse").run Tryz.prog w = .ok (134, .pointer (some a)) w := by kernel_rfl
theorem mt_typeWithQualifiers (a : Addr) (w : World) : (method 294 91 (.pointer (some a)) "Traverse").run Tryz.prog w = .ok (137, .pointer (some a)) w := by kernel_rfl
theorem mt_methodWithQualifiers (a : Addr) (w : World) : (method 294 100 (.pointer (some a)) "Traverse").run Tryz.prog w = .ok (146, .pointer (some a)) w := by kernel_rfl
theorem mt_arrayType (a : Addr) (w : World) : (method 294 108 (.pointer (some a)) "Traverse").run Tryz.prog w = .ok (149, .pointer (some a)) w := by kernel_rfl
theorem mt_vectorType (a : Addr) (w : World) : (method 294 111 (.pointer (some a)) "Traverse").run Tryz.prog w = .ok (152, .pointer (some a)) w := by kernel_rfl
theorem mt_ptrMem (a : Addr) (w : World) : (method 294 114 (.pointer (some a)) "Traverse").run Tryz.prog w = .ok (155, .pointer (some a)) w := by kernel_rfl
theorem mt_vendorQualifier (a : Addr) (w : World) : (method 294 117 (.pointer (some a)) "Traverse").run Tryz.prog w = .ok (158, .pointer (some a)) w := by kernel_rfl
theorem mt_literal (a : Addr) (w : World) : (method 294 126 (.pointer (some a)) "Traverse").run Tryz.prog w = .ok (167, .pointer (some a)) w := by kernel_rfl
theorem mt_argumentPack (a : Addr) (w : World) : (method 294 129 (.pointer (some a)) "Traverse").run Tryz.prog w = .ok (170, .pointer (some a)) w := by kernel_rfl
theorem mt_closure (a : Addr) (w : World) : (method 294 136 (.pointer (some a)) "Traverse").run Tryz.prog w = .ok (176, .pointer (some a)) w := by kernel_rfl
theorem mt_unnamedType (a : Addr) (w : World) : (method 294 139 (.pointer (some a)) "Traverse").run Tryz.prog w = .ok (179, .pointer (some a)) w := by kernel_rfl
theorem mt_taggedName (a : Addr) (w : World) : (method 294 142 (.pointer (some a)) "Traverse").run Tryz.prog w = .ok (182, .pointer (some a)) w := by kernel_rfl
theorem mt_cast (a : Addr) (w : World) : (method 294 154 (.pointer (some a)) "Traverse").run Tryz.prog w = .ok (194, .pointer (some a)) w := by kernel_rfl

end Go.Proofs.YtnhccgbkalpcnaaGreatDoor
