/- The kinds of a tree's elements, in the order in which Traverse comes to them. -/
import Derived.Test.YtnhccgbkalpcnaaGreatDoorRep
namespace Go.Proofs.YtnhccgbkalpcnaaGreatDoor
open Go.RowKit

def firstOnly (k : ByteArray) : Bool := k.toList == [84, 121, 112, 101, 87, 105, 116, 104, 81, 117, 97, 108, 105, 102, 105, 101, 114, 115] || k.toList == [77, 101, 116, 104, 111, 100, 87, 105, 116, 104, 81, 117, 97, 108, 105, 102, 105, 101, 114, 115]
mutual
def kindsT : Tree → List ByteArray
  | .node k _ _ ks => if k.toList.isEmpty then [] else k :: (if firstOnly k then kindsH ks else kindsL ks)
def kindsL : List Tree → List ByteArray
  | [] => []
  | t :: r => kindsT t ++ kindsL r
def kindsH : List Tree → List ByteArray
  | [] => []
  | t :: _ => kindsT t
end
theorem kindsL_flat : ∀ (l : List Tree), kindsL l = (l.map kindsT).flatten
  | [] => rfl
  | t :: r => by rw [kindsL, kindsL_flat r]; rfl
theorem kindsL_take (ks : List Tree) {j : Nat} (h : j < ks.length) : kindsL (ks.take (j + 1)) = kindsL (ks.take j) ++ kindsT ks[j] := by
  rw [List.take_succ_eq_append_getElem h, kindsL_flat, kindsL_flat, List.map_append, List.flatten_append]
  simp
theorem kinds_nil : kindsT nilT = [] := by
  rw [nilT, kindsT, if_pos (by kernel_rfl)]
mutual
theorem kindsT_len : ∀ (t : Tree), (kindsT t).length ≤ t.sz
  | .node k _ _ ks => by
    have h1 := kindsL_len ks
    have h2 := kindsH_len ks
    rw [kindsT, Tree.sz]
    split
    · simp
    · split <;> simp <;> omega
theorem kindsL_len : ∀ (l : List Tree), (kindsL l).length ≤ Tree.szs l
  | [] => by simp [kindsL]
  | t :: r => by
    have h1 := kindsT_len t
    have h2 := kindsL_len r
    rw [kindsL, Tree.szs, List.length_append]
    omega
theorem kindsH_len : ∀ (l : List Tree), (kindsH l).length ≤ Tree.szs l
  | [] => by simp [kindsH]
  | t :: r => by
    have h1 := kindsT_len t
    rw [kindsH, Tree.szs]
    omega
end
theorem kindsT_rest {k x : ByteArray} {n : Int} {ks : List Tree} (h1 : k.toList.isEmpty = false) (h2 : firstOnly k = false) : kindsT (.node k x n ks) = k :: kindsL ks := by
  rw [kindsT, h1, h2]
  simp
theorem kindsT_first {k x : ByteArray} {n : Int} {ks : List Tree} (h1 : k.toList.isEmpty = false) (h2 : firstOnly k = true) : kindsT (.node k x n ks) = k :: kindsH ks := by
  rw [kindsT, h1, h2]
  simp
/-- what Kinds wants of a tree -/
def KindsOK (t : Tree) : Prop := (t.kind.toList == []) = false ∧ (t.kind.toList == [110, 111, 110, 101]) = false ∧
  ((firstOnly t.kind = true ∧ ∃ a q, t.kids = [a, q] ∧ Good a) ∨ (firstOnly t.kind = false ∧ ∀ k ∈ t.kids, Good k ∨ k = nilT))

theorem good_kinds {t : Tree} (h : Good t) : KindsOK t := by
  cases h with
  | name _ => exact ⟨by kernel_rfl, by kernel_rfl, .inr ⟨by kernel_rfl, fun p hp => by simp [Tree.kids] at hp⟩⟩
  | builtinType _ => exact ⟨by kernel_rfl, by kernel_rfl, .inr ⟨by kernel_rfl, fun p hp => by simp [Tree.kids] at hp⟩⟩
  | operator _ => exact ⟨by kernel_rfl, by kernel_rfl, .inr ⟨by kernel_rfl, fun p hp => by simp [Tree.kids] at hp⟩⟩
  | constructor ha => exact ⟨by kernel_rfl, by kernel_rfl, .inr ⟨by kernel_rfl, fun p hp => by simp [Tree.kids] at hp; subst hp; exact .inl ha⟩⟩
  | destructor ha => exact ⟨by kernel_rfl, by kernel_rfl, .inr ⟨by kernel_rfl, fun p hp => by simp [Tree.kids] at hp; subst hp; exact .inl ha⟩⟩
  | qualified ha hc => exact ⟨by kernel_rfl, by kernel_rfl, .inr ⟨by kernel_rfl, fun p hp => by simp [Tree.kids] at hp; rcases hp with rfl | rfl; exact .inl ha; exact .inl hc⟩⟩
  | template ha hl => exact ⟨by kernel_rfl, by kernel_rfl, .inr ⟨by kernel_rfl, fun p hp => by simp [Tree.kids] at hp; rcases hp with rfl | hp; exact .inl ha; exact .inl (hl p hp)⟩⟩
  | typed ha hc => exact ⟨by kernel_rfl, by kernel_rfl, .inr ⟨by kernel_rfl, fun p hp => by simp [Tree.kids] at hp; rcases hp with rfl | rfl; exact .inl ha; exact .inl hc⟩⟩
  | functionType ha hl => exact ⟨by kernel_rfl, by kernel_rfl, .inr ⟨by kernel_rfl, fun p hp => by simp [Tree.kids] at hp; rcases hp with rfl | hp; exact .inl ha; exact .inl (hl p hp)⟩⟩
  | pointerType ha => exact ⟨by kernel_rfl, by kernel_rfl, .inr ⟨by kernel_rfl, fun p hp => by simp [Tree.kids] at hp; subst hp; exact .inl ha⟩⟩
  | referenceType ha => exact ⟨by kernel_rfl, by kernel_rfl, .inr ⟨by kernel_rfl, fun p hp => by simp [Tree.kids] at hp; subst hp; exact .inl ha⟩⟩
  | rvalueReferenceType ha => exact ⟨by kernel_rfl, by kernel_rfl, .inr ⟨by kernel_rfl, fun p hp => by simp [Tree.kids] at hp; subst hp; exact .inl ha⟩⟩
  | complexType ha => exact ⟨by kernel_rfl, by kernel_rfl, .inr ⟨by kernel_rfl, fun p hp => by simp [Tree.kids] at hp; subst hp; exact .inl ha⟩⟩
  | imaginaryType ha => exact ⟨by kernel_rfl, by kernel_rfl, .inr ⟨by kernel_rfl, fun p hp => by simp [Tree.kids] at hp; subst hp; exact .inl ha⟩⟩
  | typeWithQualifiers ha _ => exact ⟨by kernel_rfl, by kernel_rfl, .inl ⟨by kernel_rfl, _, _, rfl, ha⟩⟩
  | methodWithQualifiers _ ha _ => exact ⟨by kernel_rfl, by kernel_rfl, .inl ⟨by kernel_rfl, _, _, rfl, ha⟩⟩
  | arrayType ha hc => exact ⟨by kernel_rfl, by kernel_rfl, .inr ⟨by kernel_rfl, fun p hp => by simp [Tree.kids] at hp; rcases hp with rfl | rfl; exact .inl ha; exact .inl hc⟩⟩
  | vectorType ha hc => exact ⟨by kernel_rfl, by kernel_rfl, .inr ⟨by kernel_rfl, fun p hp => by simp [Tree.kids] at hp; rcases hp with rfl | rfl; exact .inl ha; exact .inl hc⟩⟩
  | ptrMem ha hc => exact ⟨by kernel_rfl, by kernel_rfl, .inr ⟨by kernel_rfl, fun p hp => by simp [Tree.kids] at hp; rcases hp with rfl | rfl; exact .inl ha; exact .inl hc⟩⟩
  | vendorQualifier ha hc => exact ⟨by kernel_rfl, by kernel_rfl, .inr ⟨by kernel_rfl, fun p hp => by simp [Tree.kids] at hp; rcases hp with rfl | rfl; exact .inl ha; exact .inl hc⟩⟩
  | literal _ _ ha => exact ⟨by kernel_rfl, by kernel_rfl, .inr ⟨by kernel_rfl, fun p hp => by simp [Tree.kids] at hp; subst hp; exact .inl ha⟩⟩
  | argumentPack hl => exact ⟨by kernel_rfl, by kernel_rfl, .inr ⟨by kernel_rfl, fun p hp => .inl (hl p hp)⟩⟩
  | closure _ hl => exact ⟨by kernel_rfl, by kernel_rfl, .inr ⟨by kernel_rfl, fun p hp => .inl (hl p hp)⟩⟩
  | unnamedType _ => exact ⟨by kernel_rfl, by kernel_rfl, .inr ⟨by kernel_rfl, fun p hp => by simp [Tree.kids] at hp⟩⟩
  | taggedName ha hc => exact ⟨by kernel_rfl, by kernel_rfl, .inr ⟨by kernel_rfl, fun p hp => by simp [Tree.kids] at hp; rcases hp with rfl | rfl; exact .inl ha; exact .inl hc⟩⟩
  | cast ha => exact ⟨by kernel_rfl, by kernel_rfl, .inr ⟨by kernel_rfl, fun p hp => by simp [Tree.kids] at hp; subst hp; exact .inl ha⟩⟩
  | functionNil hl => exact ⟨by kernel_rfl, by kernel_rfl, .inr ⟨by kernel_rfl, fun p hp => by simp [Tree.kids] at hp; rcases hp with rfl | hp; exact .inr rfl; exact .inl (hl p hp)⟩⟩

end Go.Proofs.YtnhccgbkalpcnaaGreatDoor
