/- The law's own helpers zzFits3 and cxxOf: what they return. -/
import Derived.Test.YtcobcgkeojeagaaGreatBase
import Derived.Test.YtcobcgkeojeagaaGreatProg
namespace Go.Proofs.YtcobcgkeojeagaaGreat
open Go.RowKit

/-- cxxOf: a number from 0 to k - 1 -/
def ofB (n k : Int) : Int := Int.tmod (bits BinOp.and IntKind.i64 n 1073741823) k

set_option maxHeartbeats 400000 in
theorem fits_any {I : Nat → Prop} (v : Value) (ss : List ByteArray) (w : World) (h : SliceOf w I v (strv ss)) :
    Calls Tryz.prog 6 #[v] w fun e w' => e = .returned (.bool (fitsB ss)) ∧ w = w' := by
  obtain ⟨a, cap, rfl, hl, hc, hr⟩ := h.strs
  clear h
  by_cases h1 : 2147483647 < ss.length
  · have h2 : fitsB ss = false := by simp [fitsB]; omega
    have H2 := Lib.hid h2
    clear h2 hr
    go_enter Tryz.func6, Tryz.ntmps6
    go_wp2
    go_ret
    exact ⟨ret_bool (by rw [H2.out]), rfl⟩
  · go_enter Tryz.func6, Tryz.ntmps6
    have HR := Lib.hid hr
    clear hr
    go_wp2
    go_loopg [10] (ss.length) (fun k i wr => w = wr ∧ ∃ j : Nat, j + k = ss.length ∧ i = .int .i64 j ∧ Hid (fitsTo ss j))
    case atStart => exact ⟨rfl, 0, by omega, rfl, fun i h hi => by omega⟩
    case round =>
      obtain ⟨rfl, j, hj, rfl, HF⟩ := hrel
      by_cases hlt : j < ss.length
      · rcases HR.out with rfl | ⟨b, off, rfl, hb, hcell⟩
        · simp at hlt
        have hc1 := hcell j hlt
        clear hcell
        by_cases hs : 2147483647 < ss[j].size
        · have H2 := Lib.hid (fitsB_false hlt hs)
          go_wp2
          go_ret
          exact ⟨ret_bool (by rw [H2.out]), rfl⟩
        · go_wp2
          go_roundg (gk - 1)
          case measure => omega
          case rel => exact ⟨rfl, j + 1, by omega, by go_num, fun i h hi => by
            rcases Nat.lt_or_ge i j with h' | h'
            · exact HF.out i h h'
            · obtain rfl : i = j := by omega
              omega⟩
      · obtain rfl : j = ss.length := by omega
        have H2 := Lib.hid (fitsB_true (by omega) HF.out)
        go_wp2
        go_ret
        exact ⟨ret_bool (by rw [H2.out]), rfl⟩
theorem and_mask (n : Int) : 0 ≤ bits BinOp.and IntKind.i64 n 1073741823 ∧ bits BinOp.and IntKind.i64 n 1073741823 ≤ 1073741823 := by
  have h : (BitVec.ofInt 64 n &&& BitVec.ofInt 64 1073741823).toNat ≤ 1073741823 := by
    rw [BitVec.toNat_and]
    exact Nat.le_trans Nat.and_le_right (by decide)
  have e : bits BinOp.and IntKind.i64 n 1073741823 = IntKind.i64.wrap (BitVec.ofInt 64 n &&& BitVec.ofInt 64 1073741823).toNat := rfl
  rw [e]
  generalize (BitVec.ofInt 64 n &&& BitVec.ofInt 64 1073741823).toNat = m at h
  rw [IntWalk.i64_in _ (by omega)]
  omega

theorem ofB_range (n k : Int) (hk : 1 ≤ k) : 0 ≤ ofB n k ∧ ofB n k < k := by
  have h := and_mask n
  unfold ofB
  generalize bits BinOp.and IntKind.i64 n 1073741823 = m at h
  rw [Int.tmod_eq_emod_of_nonneg h.1]
  exact ⟨Int.emod_nonneg _ (by omega), Int.emod_lt_of_pos _ (by omega)⟩

/-- the blocks that lie in a world -/
def Old (w : World) (i : Nat) : Prop := i < w.heap.size

end Go.Proofs.YtcobcgkeojeagaaGreat
