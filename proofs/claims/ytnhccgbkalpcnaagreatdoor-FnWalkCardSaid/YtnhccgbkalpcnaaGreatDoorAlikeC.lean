/- cxxAlike: of two lists that are the same it returns true. -/
import Derived.Test.YtnhccgbkalpcnaaGreatDoorGood
namespace Go.Proofs.YtnhccgbkalpcnaaGreatDoor
open Go.RowKit

/-- how often s stands in l -/
def cnt (s : ByteArray) (l : List ByteArray) : Nat := (l.filter fun t => t.toList == s.toList).length

theorem cnt_le (s : ByteArray) (l : List ByteArray) : cnt s l ≤ l.length := List.length_filter_le _ _
theorem cnt_snoc_yes {s : ByteArray} {l : List ByteArray} {j : Nat} (h : j < l.length) (he : (l[j].toList == s.toList) = true) : cnt s (l.take (j + 1)) = cnt s (l.take j) + 1 := by
  rw [List.take_succ_eq_append_getElem h, cnt, List.filter_append, List.length_append]
  simp [List.filter, he, cnt]
theorem cnt_snoc_no {s : ByteArray} {l : List ByteArray} {j : Nat} (h : j < l.length) (he : (l[j].toList == s.toList) = false) : cnt s (l.take (j + 1)) = cnt s (l.take j) := by
  rw [List.take_succ_eq_append_getElem h, cnt, List.filter_append, List.length_append]
  simp [List.filter, he, cnt]
theorem cnt_take_le (s : ByteArray) (l : List ByteArray) (j : Nat) : cnt s (l.take j) ≤ l.length ∧ cnt s (l.take j) ≤ j := by
  have h := cnt_le s (l.take j)
  rw [List.length_take] at h
  omega

set_option maxRecDepth 100000 in
set_option maxHeartbeats 1000000 in
theorem alike_same (va vb : Value) (ss : List ByteArray) (w : World) {I J : Nat → Prop} (ha : SliceOf w I va (strv ss)) (hb : SliceOf w J vb (strv ss)) :
    Calls Tryz.prog 10 #[va, vb] w fun e w' => e = .returned (.bool true) ∧ w = w' := by
  obtain ⟨a, ca, rfl, hla, hca, hra⟩ := ha.strs
  obtain ⟨b, cb, rfl, hlb, hcb, hrb⟩ := hb.strs
  clear ha hb
  have hn : ss.length ≤ 9223372036854775807 := by omega
  clear hla hca hlb hcb
  have HA := Lib.hid hra
  have HB := Lib.hid hrb
  clear hra hrb
  have hne : ((ss.length : Int) != (ss.length : Int)) = false := by simp
  go_enter Tryz.func10, Tryz.ntmps10
  go_wp2
  clear hne
  go_loopg [19] (ss.length) (fun k i wr => w = wr ∧ ∃ j : Nat, j + k = ss.length ∧ i = .int .i64 j)
  case atStart => exact ⟨rfl, 0, by omega, rfl⟩
  case round =>
    obtain ⟨rfl, j, hj, rfl⟩ := hrel
    by_cases hlt : j < ss.length
    · rcases HA.out with rfl | ⟨ba, oa, rfl, hba, hcella⟩
      · simp at hlt
      rcases HB.out with rfl | ⟨bb, ob, rfl, hbb, hcellb⟩
      · simp at hlt
      have hc1 := hcella j hlt
      have CA := Lib.hid hcella
      have CB := Lib.hid hcellb
      clear hcella hcellb HA HB
      generalize hsj : ss[j] = s at hc1
      clear hsj
      obtain ⟨wo, rfl⟩ : ∃ wo : World, wo = w := ⟨_, rfl⟩
      obtain ⟨g1, rfl⟩ : ∃ g : Nat, g = gk := ⟨_, rfl⟩
      go_wp2
      clear hc1
      go_loopg [7, 25] (ss.length) (fun k c i wr => wo = wr ∧ ∃ m : Nat, m + k = ss.length ∧ i = .int .i64 m ∧ c = .int .i64 (cnt s (ss.take m)))
      case atStart => exact ⟨rfl, 0, by omega, rfl, rfl⟩
      case round =>
        obtain ⟨rfl, m, hm, rfl, rfl⟩ := hrel
        obtain ⟨hcn, hcn'⟩ := cnt_take_le s ss m
        by_cases hml : m < ss.length
        · have hc2 := CA.out m hml
          by_cases he : (ss[m].toList == s.toList) = true
          · have hs1 := cnt_snoc_yes hml he
            have HS := Lib.hid hs1
            clear hs1
            go_wp2
            go_roundg (gk - 1)
            case measure => omega
            case rel => exact ⟨rfl, m + 1, by omega, by go_num, by rw [HS.out]; go_num⟩
          · have he' : (ss[m].toList == s.toList) = false := by simpa using he
            clear he
            have hs1 := cnt_snoc_no hml he'
            have HS := Lib.hid hs1
            clear hs1
            go_wp2
            go_roundg (gk - 1)
            case measure => omega
            case rel => exact ⟨rfl, m + 1, by omega, by go_num, by rw [HS.out]⟩
        · obtain rfl : m = ss.length := by omega
          have hall : cnt s (ss.take ss.length) = cnt s ss := by rw [List.take_length]
          rw [hall] at hcn ⊢
          clear hall hml hcn'
          clear hm
          go_wp2
          go_loopg [7, 37] (ss.length) (fun k c i wr => wo = wr ∧ ∃ m : Nat, m + k = ss.length ∧ i = .int .i64 m ∧ ∃ d : Int, c = .int .i64 d ∧ -(ss.length : Int) ≤ d ∧ d ≤ ss.length ∧ Hid (d = (cnt s ss : Int) - cnt s (ss.take m)))
          case atStart => exact ⟨rfl, 0, by omega, rfl, _, rfl, by omega, by omega, by show (_ : Int) = _; simp [cnt]⟩
          case round =>
            obtain ⟨rfl, m, hm, rfl, d, rfl, hd1, hd2, HD⟩ := hrel
            have hcn2 := (cnt_take_le s ss m).1
            by_cases hml : m < ss.length
            · have hc2 := CB.out m hml
              have hcn3 := (cnt_take_le s ss (m + 1)).1
              by_cases he : (ss[m].toList == s.toList) = true
              · have hs1 := cnt_snoc_yes hml he
                have HS := Lib.hid hs1
                clear hs1
                have hlo : -(ss.length : Int) ≤ d - 1 := by have := HD.out; have := HS.out; omega
                have hhi : d - 1 ≤ (ss.length : Int) := by omega
                go_wp2
                go_roundg (gk - 1)
                case measure => omega
                case rel => exact ⟨rfl, m + 1, by omega, by go_num, _, rfl, hlo, hhi, by show (_ : Int) = _; have := HD.out; have := HS.out; omega⟩
              · have he' : (ss[m].toList == s.toList) = false := by simpa using he
                clear he
                have hs1 := cnt_snoc_no hml he'
                have HS := Lib.hid hs1
                clear hs1
                go_wp2
                go_roundg (gk - 1)
                case measure => omega
                case rel => exact ⟨rfl, m + 1, by omega, by go_num, _, rfl, hd1, hd2, by show (_ : Int) = _; have := HD.out; have := HS.out; omega⟩
            · obtain rfl : m = ss.length := by omega
              have hd0 : d = 0 := by have := HD.out; rw [List.take_length] at this; omega
              subst hd0
              clear HD
              go_wp2
              go_roundg (g1 - 1)
              case measure => omega
              case rel => exact ⟨rfl, j + 1, by omega, by go_num⟩
    · have hge : ss.length ≤ j := by omega
      go_wp2
      go_ret
      exact ⟨rfl, rfl⟩
end Go.Proofs.YtnhccgbkalpcnaaGreatDoor
