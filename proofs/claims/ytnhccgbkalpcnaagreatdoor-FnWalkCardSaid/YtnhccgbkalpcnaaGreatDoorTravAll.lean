/- Traverse over every element. -/
import Derived.Test.YtnhccgbkalpcnaaGreatDoorTravA
import Derived.Test.YtnhccgbkalpcnaaGreatDoorTravB
import Derived.Test.YtnhccgbkalpcnaaGreatDoorKindsT
namespace Go.Proofs.YtnhccgbkalpcnaaGreatDoor
open Go.RowKit

theorem travL_of {w : World} {I : Nat → Prop} {l : List Tree} {kv : List Value} (hm : kv.length = l.length) (h : ∀ i (h : i < l.length) (h2 : i < kv.length), TravOK w I kv[i] (kindsT l[i])) : TravL w I kv (l.map kindsT) :=
  ⟨by simpa using hm, fun i h1 h2 => by
    have h3 : i < l.length := by simpa using h2
    rw [List.getElem_map]
    exact h i h3 h1⟩

theorem trav_all {w : World} {I : Nat → Prop} {t : Tree} {u : Value} (h : Rep w I t u) : TravOK w I u (kindsT t) := by
  induction h with
  | name s b hI hb =>
    have h := trav_name b hI hb
    rw [kindsT_rest (by kernel_rfl) (by kernel_rfl)]
    simpa [kindsL, kindsH, kindsL_flat, kinds_nil] using h
  | builtinType s b hI hb =>
    have h := trav_builtinType b hI hb
    rw [kindsT_rest (by kernel_rfl) (by kernel_rfl)]
    simpa [kindsL, kindsH, kindsL_flat, kinds_nil] using h
  | operator s b hI hb =>
    have h := trav_operator b hI hb
    rw [kindsT_rest (by kernel_rfl) (by kernel_rfl)]
    simpa [kindsL, kindsH, kindsL_flat, kinds_nil] using h
  | constructor b hI hb ha iha =>
    have h := trav_constructor b hI hb iha
    rw [kindsT_rest (by kernel_rfl) (by kernel_rfl)]
    simpa [kindsL, kindsH, kindsL_flat, kinds_nil] using h
  | destructor b hI hb ha iha =>
    have h := trav_destructor b hI hb iha
    rw [kindsT_rest (by kernel_rfl) (by kernel_rfl)]
    simpa [kindsL, kindsH, kindsL_flat, kinds_nil] using h
  | qualified b hI hb ha hc iha ihc =>
    have h := trav_qualified b hI hb iha ihc
    rw [kindsT_rest (by kernel_rfl) (by kernel_rfl)]
    simpa [kindsL, kindsH, kindsL_flat, kinds_nil] using h
  | template b hI hb ha hs hm hl iha ihl =>
    have h := trav_template b hI hb iha hs (travL_of hm ihl)
    rw [kindsT_rest (by kernel_rfl) (by kernel_rfl)]
    simpa [kindsL, kindsH, kindsL_flat, kinds_nil] using h
  | typed b hI hb ha hc iha ihc =>
    have h := trav_typed b hI hb iha ihc
    rw [kindsT_rest (by kernel_rfl) (by kernel_rfl)]
    simpa [kindsL, kindsH, kindsL_flat, kinds_nil] using h
  | functionType b hI hb ha hs hm hl iha ihl =>
    have h := trav_functionType b hI hb iha hs (travL_of hm ihl)
    rw [kindsT_rest (by kernel_rfl) (by kernel_rfl)]
    simpa [kindsL, kindsH, kindsL_flat, kinds_nil] using h
  | functionNil b hI hb hs hm hl ihl =>
    have h := trav_functionNil b hI hb hs (travL_of hm ihl)
    rw [kindsT_rest (by kernel_rfl) (by kernel_rfl)]
    simpa [kindsL, kindsH, kindsL_flat, kinds_nil] using h
  | pointerType b hI hb ha iha =>
    have h := trav_pointerType b hI hb iha
    rw [kindsT_rest (by kernel_rfl) (by kernel_rfl)]
    simpa [kindsL, kindsH, kindsL_flat, kinds_nil] using h
  | referenceType b hI hb ha iha =>
    have h := trav_referenceType b hI hb iha
    rw [kindsT_rest (by kernel_rfl) (by kernel_rfl)]
    simpa [kindsL, kindsH, kindsL_flat, kinds_nil] using h
  | rvalueReferenceType b hI hb ha iha =>
    have h := trav_rvalueReferenceType b hI hb iha
    rw [kindsT_rest (by kernel_rfl) (by kernel_rfl)]
    simpa [kindsL, kindsH, kindsL_flat, kinds_nil] using h
  | complexType b hI hb ha iha =>
    have h := trav_complexType b hI hb iha
    rw [kindsT_rest (by kernel_rfl) (by kernel_rfl)]
    simpa [kindsL, kindsH, kindsL_flat, kinds_nil] using h
  | imaginaryType b hI hb ha iha =>
    have h := trav_imaginaryType b hI hb iha
    rw [kindsT_rest (by kernel_rfl) (by kernel_rfl)]
    simpa [kindsL, kindsH, kindsL_flat, kinds_nil] using h
  | typeWithQualifiers b hI hb ha hq iha =>
    have h := trav_typeWithQualifiers b hI hb iha
    rw [kindsT_first (by kernel_rfl) (by kernel_rfl)]
    simpa [kindsL, kindsH, kindsL_flat, kinds_nil] using h
  | methodWithQualifiers s b hI hb ha hq iha =>
    have h := trav_methodWithQualifiers b hI hb iha
    rw [kindsT_first (by kernel_rfl) (by kernel_rfl)]
    simpa [kindsL, kindsH, kindsL_flat, kinds_nil] using h
  | methodNil s b hI hb ha iha =>
    have h := trav_methodNil b hI hb iha
    rw [kindsT_first (by kernel_rfl) (by kernel_rfl)]
    simpa [kindsL, kindsH, kindsL_flat, kinds_nil] using h
  | arrayType b hI hb ha hc iha ihc =>
    have h := trav_arrayType b hI hb iha ihc
    rw [kindsT_rest (by kernel_rfl) (by kernel_rfl)]
    simpa [kindsL, kindsH, kindsL_flat, kinds_nil] using h
  | vectorType b hI hb ha hc iha ihc =>
    have h := trav_vectorType b hI hb iha ihc
    rw [kindsT_rest (by kernel_rfl) (by kernel_rfl)]
    simpa [kindsL, kindsH, kindsL_flat, kinds_nil] using h
  | ptrMem b hI hb ha hc iha ihc =>
    have h := trav_ptrMem b hI hb iha ihc
    rw [kindsT_rest (by kernel_rfl) (by kernel_rfl)]
    simpa [kindsL, kindsH, kindsL_flat, kinds_nil] using h
  | vendorQualifier b hI hb ha hc iha ihc =>
    have h := trav_vendorQualifier b hI hb iha ihc
    rw [kindsT_rest (by kernel_rfl) (by kernel_rfl)]
    simpa [kindsL, kindsH, kindsL_flat, kinds_nil] using h
  | literal s n hn b hI hb ha iha =>
    have h := trav_literal b hI hb iha
    rw [kindsT_rest (by kernel_rfl) (by kernel_rfl)]
    simpa [kindsL, kindsH, kindsL_flat, kinds_nil] using h
  | argumentPack b hI hb hs hm hl ihl =>
    have h := trav_argumentPack b hI hb hs (travL_of hm ihl)
    rw [kindsT_rest (by kernel_rfl) (by kernel_rfl)]
    simpa [kindsL, kindsH, kindsL_flat, kinds_nil] using h
  | closure n b hI hb hs hm hl he ihl =>
    have h := trav_closure b hI hb hs (travL_of hm ihl) he
    rw [kindsT_rest (by kernel_rfl) (by kernel_rfl)]
    simpa [kindsL, kindsH, kindsL_flat, kinds_nil] using h
  | unnamedType n b hI hb =>
    have h := trav_unnamedType b hI hb
    rw [kindsT_rest (by kernel_rfl) (by kernel_rfl)]
    simpa [kindsL, kindsH, kindsL_flat, kinds_nil] using h
  | taggedName b hI hb ha hc iha ihc =>
    have h := trav_taggedName b hI hb iha ihc
    rw [kindsT_rest (by kernel_rfl) (by kernel_rfl)]
    simpa [kindsL, kindsH, kindsL_flat, kinds_nil] using h
  | cast b hI hb ha iha =>
    have h := trav_cast b hI hb iha
    rw [kindsT_rest (by kernel_rfl) (by kernel_rfl)]
    simpa [kindsL, kindsH, kindsL_flat, kinds_nil] using h

end Go.Proofs.YtnhccgbkalpcnaaGreatDoor
