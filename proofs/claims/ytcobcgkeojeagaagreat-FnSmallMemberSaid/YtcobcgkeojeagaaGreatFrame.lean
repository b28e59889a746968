/- The frame of a law's proof: how its arguments are opened. -/
import Derived.Test.YtcobcgkeojeagaaGreatRows
import Derived.Test.YtcobcgkeojeagaaGreatFits
import Derived.ProofKit
import Derived.OpenShut
import Derived.ShutString
import Derived.ChangeOld
import Derived.SliceStrings
namespace Go.Proofs.YtcobcgkeojeagaaGreat
open Go.ChangeShapes Go.WideShapes Go.ChangeAt Go.RowKit
open Go.ChangeMaps (open_string shut_string)

theorem own : ownKnob Tryz.prog.godebug = none := by kernel_rfl
theorem laidOut : laidOutB Tryz.prog = true := by kernel_rfl

set_option maxRecDepth 100000 in
/-- a slice of strings that came in -/
theorem open_list {H : Type} {enc : TypeId × Value → H} {W : World} {v : Value} {d : DataW H} {p : List MemPlace} (hv : Value.okWide Tryz.prog W .any 0 22 v)
    (h : DataW.Trod enc Tryz.prog W 0 (fun _ => true) true 22 v d p) : ∃ a cap ss, v = .slice a ss.length cap ∧ SliceOf W (Old W) v (strv ss) := by
  obtain ⟨a0, len, cap, rfl⟩ := okWide_slice Tryz.underlying22 hv
  obtain ⟨m, hm⟩ := h
  have hlt := DataW.trod_lt m _ _ _ hm
  rcases open_strings Tryz.underlying22 Tryz.underlying9 (by kernel_rfl) hm with ⟨hcs, _⟩ | ⟨a, l, c, ss, hcs, _, hl, hmx, hz, hx, hcell, _⟩
  · simp [Value.cells] at hcs
    obtain ⟨rfl, rfl, rfl⟩ := hcs
    exact ⟨none, 0, [], rfl, .inl ⟨rfl, rfl⟩⟩
  · simp [Value.cells] at hcs
    obtain ⟨rfl, rfl, rfl⟩ := hcs
    simp only [if_true] at hz
    have hlen : (ss.take len).length = len := by rw [List.length_take]; omega
    simp only [Prod.mk.injEq] at hx
    refine ⟨_, cap, ss.take len, by rw [hlen], .inr ⟨a, cap, by rw [strv_length, hlen], by rw [strv_length, hlen]; exact hl, hmx, fun hne => ?_, fun i u hu => ?_⟩⟩
    · have h0 : 0 < ss.length := by
        rcases Nat.eq_zero_or_pos ss.length with h | h
        · exact absurd (by rw [List.eq_nil_of_length_eq_zero h]; simp [strv]) hne
        · exact h
      have := hlt (.cell a.block a.off) (by rw [hx.2]; exact MemPlace.mem_row.2 ⟨0, h0, by simp⟩)
      exact this
    · have hi : i < (ss.take len).length := by
        have := (List.getElem?_eq_some_iff.1 hu).1
        rwa [strv_length] at this
      rw [strv_get hi] at hu
      cases hu
      rw [hlen] at hi
      rw [hcell i (by omega)]
      simp [List.getD, List.getElem?_eq_getElem (show i < ss.length by omega)]

end Go.Proofs.YtcobcgkeojeagaaGreat
