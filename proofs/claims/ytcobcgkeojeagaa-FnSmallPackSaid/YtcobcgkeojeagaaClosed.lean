/- spec.Closed: a name with what stands in its brackets. -/
import Derived.Test.YtcobcgkeojeagaaPTmpl
import Derived.Test.YtcobcgkeojeagaaSmList
namespace Go.Proofs.Ytcobcgkeojeagaa
open Go.RowKit

theorem lastOf_get (s : ByteArray) (h : 0 < s.size) (m : Int) : lastOf m s.data.toList = (s[s.size - 1].toNat : Int) := lastOf_size m s h

set_option maxHeartbeats 1000000 in
theorem ending_any (s : ByteArray) (w : World) (hs : s.size ≤ 30000000000000) : Calls Try.prog 29 #[.string s] w fun e w' => e = .returned (.int .u8 (lastOf 0 s.data.toList)) ∧ w = w' := by
  by_cases h0 : 0 < s.size
  · have HL := Lib.hid (lastOf_get s h0 0)
    have hbe := beq_empty (s := s) (by omega)
    go_enter Try.func29, Try.ntmps29
    go_wp2_with fail
    go_ret
    exact ⟨by rw [HL.out]; rfl, rfl⟩
  · obtain rfl := empty_eq (s := s) (by omega)
    clear h0
    go_enter Try.func29, Try.ntmps29
    go_wp2_with fail
    go_ret
    exact ⟨rfl, rfl⟩

theorem spc_60 (x : List UInt8) : spc (lastOf 60 x) 62 = spc (lastOf 0 x) 62 := by
  unfold lastOf
  cases x.getLast? with
  | none => rfl
  | some c => rfl

set_option maxRecDepth 100000 in
set_option maxHeartbeats 1000000 in
theorem closed_any (s t : ByteArray) (w : World) (hs : s.size ≤ 30000000000000) (ht : t.size ≤ 30000000000000) :
    Calls Try.prog 20 #[.string s, .string t] w fun e w' => w = w' ∧ ∃ r : ByteArray, r.data.toList = tcOut s.data.toList t.data.toList ∧ e = .returned (.string r) := by
  have E1 := Lib.hid (ending_any s w hs)
  have E2 := Lib.hid (ending_any t w ht)
  cases e6 : (lastOf 0 s.data.toList == 60) with
  | true =>
    have P1 := Lib.hid (beq_iff_eq.1 e6)
    cases e7 : (lastOf 0 t.data.toList == 62) with
    | true =>
      have P2 := Lib.hid (beq_iff_eq.1 e7)
      go_enter Try.func20, Try.ntmps20
      go_wp2_with fail
      refine (E1.out).mono ?_
      rintro e w1 ⟨rfl, rfl⟩
      go_wp2_with fail
      refine (E2.out).mono ?_
      rintro e w1 ⟨rfl, rfl⟩
      go_wp2_with fail
      go_ret
      refine ⟨rfl, _, ?_, rfl⟩
      rw [tcOut, spc_60, spc, spc, if_pos P1.out, if_pos P2.out]
      simp only [ba_append]
    | false =>
      have P2 := Lib.hid (beq_eq_false_iff_ne.1 e7)
      go_enter Try.func20, Try.ntmps20
      go_wp2_with fail
      refine (E1.out).mono ?_
      rintro e w1 ⟨rfl, rfl⟩
      go_wp2_with fail
      refine (E2.out).mono ?_
      rintro e w1 ⟨rfl, rfl⟩
      go_wp2_with fail
      go_ret
      refine ⟨rfl, _, ?_, rfl⟩
      rw [tcOut, spc_60, spc, spc, if_pos P1.out, if_neg P2.out, List.append_nil]
      simp only [ba_append]
  | false =>
    have P1 := Lib.hid (beq_eq_false_iff_ne.1 e6)
    cases e7 : (lastOf 0 t.data.toList == 62) with
    | true =>
      have P2 := Lib.hid (beq_iff_eq.1 e7)
      go_enter Try.func20, Try.ntmps20
      go_wp2_with fail
      refine (E1.out).mono ?_
      rintro e w1 ⟨rfl, rfl⟩
      go_wp2_with fail
      refine (E2.out).mono ?_
      rintro e w1 ⟨rfl, rfl⟩
      go_wp2_with fail
      go_ret
      refine ⟨rfl, _, ?_, rfl⟩
      rw [tcOut, spc_60, spc, spc, if_neg P1.out, if_pos P2.out, List.append_nil]
      simp only [ba_append]
    | false =>
      have P2 := Lib.hid (beq_eq_false_iff_ne.1 e7)
      go_enter Try.func20, Try.ntmps20
      go_wp2_with fail
      refine (E1.out).mono ?_
      rintro e w1 ⟨rfl, rfl⟩
      go_wp2_with fail
      refine (E2.out).mono ?_
      rintro e w1 ⟨rfl, rfl⟩
      go_wp2_with fail
      go_ret
      refine ⟨rfl, _, ?_, rfl⟩
      rw [tcOut, spc_60, spc, spc, if_neg P1.out, if_neg P2.out, List.append_nil, List.append_nil]
      simp only [ba_append]

end Go.Proofs.Ytcobcgkeojeagaa
