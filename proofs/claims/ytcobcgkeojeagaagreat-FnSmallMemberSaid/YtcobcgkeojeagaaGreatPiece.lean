/- Elements that are printed with commas between. -/
import Derived.Test.YtcobcgkeojeagaaGreatSigns
import Derived.Test.YtcobcgkeojeagaaGreatPList
namespace Go.Proofs.YtcobcgkeojeagaaGreat
open Go.RowKit

/-- an element and what it is printed to -/
structure Piece where
  v : Value
  o : List UInt8

theorem joinC_take (l : List Piece) {j : Nat} (h : j < l.length) : joinC ((l.take (j + 1)).map (·.o)) = joinC ((l.take j).map (·.o)) ++ (if 0 < j then [44, 32] else []) ++ l[j].o := by
  rw [List.take_succ_eq_append_getElem h, List.map_append]
  rcases Nat.eq_zero_or_pos j with h0 | h0
  · subst h0
    simp [joinC]
  · rw [if_pos h0]
    have hne : (l.take j).map (·.o) ≠ [] := by
      intro e
      have h2 : ((l.take j).map (·.o)).length = j := by rw [List.length_map, List.length_take]; omega
      rw [e] at h2
      simp at h2
      omega
    exact joinC_snoc _ _ hne

theorem joinC_take_le (l : List Piece) (j : Nat) (h : j ≤ l.length) : (joinC ((l.take j).map (·.o))).length ≤ (joinC (l.map (·.o))).length := by
  obtain ⟨k, hk⟩ : ∃ k, l.length = j + k := ⟨l.length - j, by omega⟩
  induction k generalizing j with
  | zero => rw [List.take_of_length_le (by omega)]; exact Nat.le_refl _
  | succ k ih =>
    refine Nat.le_trans ?_ (ih (j + 1) (by omega) (by omega))
    rw [joinC_take l (show j < l.length by omega)]
    simp only [List.length_append]
    omega

theorem names_pieces {b : Nat} {w0 : World} {I : Nat → Prop} (G : Value → List Value → Prop) (hI : ∀ i, I i → i < b) : ∀ {vs : List Value} {A : List ByteArray}, Names w0 I vs A →
    ∃ its : List Piece, its.map (·.v) = vs ∧ its.map (·.o) = A.map (fun s => s.data.toList) ∧ ∀ it ∈ its, Prints G b w0 1 it.v it.o ∧ I (blkOf it.v)
  | [], [], _ => ⟨[], rfl, rfl, fun _ h => (by cases h)⟩
  | v :: vs, s :: A, ⟨h, r⟩ => by
    obtain ⟨its, h1, h2, h3⟩ := names_pieces G hI r
    refine ⟨⟨v, s.data.toList⟩ :: its, by simp [h1], by simp [h2], ?_⟩
    intro it hit
    rcases List.mem_cons.1 hit with rfl | hit
    · exact ⟨prints_name G h (hI _ h.at), h.at⟩
    · exact h3 it hit
  | [], _ :: _, h => h.elim
  | _ :: _, [], h => h.elim

end Go.Proofs.YtcobcgkeojeagaaGreat
