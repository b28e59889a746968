/- treeOf of every good tree. -/
import Derived.Test.YtnhccgbkalpcnaaGreatDoorKidsQ
import Derived.Test.YtnhccgbkalpcnaaGreatDoorTreeUp
import Derived.Test.YtnhccgbkalpcnaaGreatDoorTreeOfA
import Derived.Test.YtnhccgbkalpcnaaGreatDoorTreeOfB
import Derived.Test.YtnhccgbkalpcnaaGreatDoorTreeOfC
import Derived.Test.YtnhccgbkalpcnaaGreatDoorTreeOfD
import Derived.Test.YtnhccgbkalpcnaaGreatDoorTreeOfE
import Derived.Test.YtnhccgbkalpcnaaGreatDoorTreeOfF
namespace Go.Proofs.YtnhccgbkalpcnaaGreatDoor
open Go.RowKit

theorem szs_mem {k : Tree} {l : List Tree} (h : k ∈ l) : k.sz ≤ Tree.szs l := Tree.sz_le_szs h
theorem len_szs : ∀ (l : List Tree), l.length ≤ Tree.szs l
  | [] => Nat.zero_le _
  | k :: r => by
    have := len_szs r
    have h : 1 ≤ k.sz := by cases k; simp only [Tree.sz]; omega
    simp only [List.length_cons, Tree.szs]
    omega
theorem sz_node {k x : ByteArray} {n : Int} {ks : List Tree} : (Tree.node k x n ks).sz = 1 + Tree.szs ks := by simp only [Tree.sz]

theorem treeOf_good (W0 : World) {t : Tree} (hg : Good t) (hs : t.sz ≤ 400) : MakesRep W0 21 t := by
  induction hg with
  | name s => exact treeOf_name W0 s
  | builtinType s => exact treeOf_builtinType W0 s
  | operator s => exact treeOf_operator W0 s
  | constructor _ ia => exact treeOf_constructor W0 (ia (by simp only [sz_node, Tree.szs] at hs; omega))
  | destructor _ ia => exact treeOf_destructor W0 (ia (by simp only [sz_node, Tree.szs] at hs; omega))
  | qualified _ _ ia ic => exact treeOf_qualified W0 (ia (by simp only [sz_node, Tree.szs] at hs; omega)) (ic (by simp only [sz_node, Tree.szs] at hs; omega))
  | template _ _ ia il => exact treeOf_template W0 (ia (by simp only [sz_node, Tree.szs] at hs; omega)) (fun p hp => il p hp (by have := szs_mem hp; simp only [sz_node, Tree.szs] at hs; omega)) (by simp only [sz_node, Tree.szs] at hs; have := len_szs ‹List Tree›; omega)
  | typed _ _ ia ic => exact treeOf_typed W0 (ia (by simp only [sz_node, Tree.szs] at hs; omega)) (ic (by simp only [sz_node, Tree.szs] at hs; omega))
  | functionType _ _ ia il => exact treeOf_functionType W0 (ia (by simp only [sz_node, Tree.szs] at hs; omega)) (fun p hp => il p hp (by have := szs_mem hp; simp only [sz_node, Tree.szs] at hs; omega)) (by simp only [sz_node, Tree.szs] at hs; have := len_szs ‹List Tree›; omega)
  | functionNil _ il => exact treeOf_functionNil W0 (treeOf_nil W0) (fun p hp => il p hp (by have := szs_mem hp; simp only [sz_node, Tree.szs] at hs; omega)) (by simp only [sz_node, Tree.szs] at hs; have := len_szs ‹List Tree›; omega)
  | pointerType _ ia => exact treeOf_pointerType W0 (ia (by simp only [sz_node, Tree.szs] at hs; omega))
  | referenceType _ ia => exact treeOf_referenceType W0 (ia (by simp only [sz_node, Tree.szs] at hs; omega))
  | rvalueReferenceType _ ia => exact treeOf_rvalueReferenceType W0 (ia (by simp only [sz_node, Tree.szs] at hs; omega))
  | complexType _ ia => exact treeOf_complexType W0 (ia (by simp only [sz_node, Tree.szs] at hs; omega))
  | imaginaryType _ ia => exact treeOf_imaginaryType W0 (ia (by simp only [sz_node, Tree.szs] at hs; omega))
  | typeWithQualifiers _ hq ia => exact treeOf_typeWithQualifiers W0 (ia (by simp only [sz_node, Tree.szs] at hs; omega)) (treeOf_qualifiers W0 _ hq (by obtain ⟨qs, rfl, _⟩ := hq; have := len_szs qs; simp only [sz_node, Tree.szs, Tree.kids] at hs ⊢; omega))
  | methodWithQualifiers s _ hq ia =>
    rcases hq with hq | rfl
    · exact treeOf_methodWithQualifiers W0 s (ia (by simp only [sz_node, Tree.szs] at hs; omega)) (treeOf_qualifiers W0 _ hq (by obtain ⟨qs, rfl, _⟩ := hq; have := len_szs qs; simp only [sz_node, Tree.szs, Tree.kids] at hs ⊢; omega))
    · exact treeOf_methodNil W0 s (ia (by simp only [sz_node, Tree.szs] at hs; omega)) (treeOf_nil W0)
  | arrayType _ _ ia ic => exact up_arrayType W0 _ _ _ (lowers_rep _) (treeOfMore_arrayType W0 (ia (by simp only [sz_node, Tree.szs] at hs; omega)) (ic (by simp only [sz_node, Tree.szs] at hs; omega)))
  | vectorType _ _ ia ic => exact up_vectorType W0 _ _ _ (lowers_rep _) (treeOfMore_vectorType W0 (ia (by simp only [sz_node, Tree.szs] at hs; omega)) (ic (by simp only [sz_node, Tree.szs] at hs; omega)))
  | ptrMem _ _ ia ic => exact up_ptrMem W0 _ _ _ (lowers_rep _) (treeOfMore_ptrMem W0 (ia (by simp only [sz_node, Tree.szs] at hs; omega)) (ic (by simp only [sz_node, Tree.szs] at hs; omega)))
  | vendorQualifier _ _ ia ic => exact up_vendorQualifier W0 _ _ _ (lowers_rep _) (treeOfMore_vendorQualifier W0 (ia (by simp only [sz_node, Tree.szs] at hs; omega)) (ic (by simp only [sz_node, Tree.szs] at hs; omega)))
  | literal s hn _ ia => exact up_literal W0 _ _ _ (lowers_rep _) (treeOfMore_literal W0 s _ hn (ia (by simp only [sz_node, Tree.szs] at hs; omega)))
  | argumentPack _ il => exact up_argumentPack W0 _ _ _ (lowers_rep _) (treeOfMore_argumentPack W0 (fun p hp => il p hp (by have := szs_mem hp; simp only [sz_node] at hs; omega)) (by simp only [sz_node] at hs; have := len_szs ‹List Tree›; omega))
  | closure n _ il => exact up_closure W0 _ _ _ (lowers_rep _) (treeOfMore_closure W0 n (fun p hp => il p hp (by have := szs_mem hp; simp only [sz_node] at hs; omega)) (by simp only [sz_node] at hs; have := len_szs ‹List Tree›; omega))
  | unnamedType n => exact up_unnamedType W0 _ _ _ (lowers_rep _) (treeOfMore_unnamedType W0 n)
  | taggedName _ _ ia ic => exact up_taggedName W0 _ _ _ (lowers_rep _) (treeOfMore_taggedName W0 (ia (by simp only [sz_node, Tree.szs] at hs; omega)) (ic (by simp only [sz_node, Tree.szs] at hs; omega)))
  | cast _ ia => exact up_cast W0 _ _ _ (lowers_rep _) (treeOfMore_cast W0 (ia (by simp only [sz_node, Tree.szs] at hs; omega)))

end Go.Proofs.YtnhccgbkalpcnaaGreatDoor
