/- impl.treeOfMore: what it makes of each kind. -/
import Derived.Test.YtnhccgbkalpcnaaGreatDoorKids
import Derived.Deep.RegionWith
namespace Go.Proofs.YtnhccgbkalpcnaaGreatDoor
open Go.RowKit

set_option maxRecDepth 100000 in
set_option maxHeartbeats 2000000 in
theorem treeOfMore_literal (W0 : World) (s : ByteArray) (n : Int) (hn : n = 0 ∨ n = 1) {a : Tree} (ha : MakesRep W0 21 a) : MakesRep W0 43 (.node ⟨#[76, 105, 116, 101, 114, 97, 108]⟩ s n [a]) := by
  have hbn : ((n == 1) = true) ∨ ((n == 1) = false) := by cases (n == 1) <;> simp
  intro v hv w hw
  have K0 := Lib.hid (fun W hW => kid_ok (W0 := W0) (t := (.node ⟨#[76, 105, 116, 101, 114, 97, 108]⟩ s n [a])) (i := 0) rfl (lowers_rep a) ha _ hv W hW)
  obtain ⟨a', c', rfl, _⟩ := hv.shut
  have S0 := Lib.hid ((St.start hw (.string ⟨#[76, 105, 116, 101, 114, 97, 108]⟩) (.string s) (.int .i64 n) (.slice a' [a].length c')).on (Below.refl _ _).drew)
  have S0' := Lib.hid (St.start hw (.string ⟨#[76, 105, 116, 101, 114, 97, 108]⟩) (.string s) (.int .i64 n) (.slice a' [a].length c'))
  clear hv hw ha
  go_enter Tryz.func43, Tryz.ntmps43
  go_wp2_with fail
  go_region_with (first
    | (go_at_call_of 41 (Value.int IntKind.i64 0); refine (K0.out _ S0.out.later).mono ?_; rintro e w1 ⟨u, rfl, r, b⟩; obtain ⟨Tu, qu, rfl, _⟩ := Rep.form r; have R0 := Lib.hid (r.from (show w.heap.size ≤ _ from S0.out.below.size)); have S1 := Lib.hid (S0.out.on b); obtain ⟨x0, x1, x2, x3⟩ := S1.out.box; clear b K0 r)
    )
  all_goals (go_wp2_with fail; go_ret; exact ⟨_, rfl, made_literal (S1.out.below.size) s n hn R0.out, (S1.out.below).alloc (S1.out.below.size) _⟩)

set_option maxRecDepth 100000 in
set_option maxHeartbeats 2000000 in
theorem treeOfMore_argumentPack (W0 : World) {l : List Tree} (hl : ∀ p ∈ l, MakesRep W0 21 p) (hm : l.length ≤ 900) : MakesRep W0 43 (.node ⟨#[65, 114, 103, 117, 109, 101, 110, 116, 80, 97, 99, 107]⟩ ⟨#[]⟩ 0 l) := by
  intro v hv w hw
  have K0 := Lib.hid (fun W hW => kids_ok (W0 := W0) (t := (.node ⟨#[65, 114, 103, 117, 109, 101, 110, 116, 80, 97, 99, 107]⟩ ⟨#[]⟩ 0 l)) 0 (by simp [Tree.kids]) (by simp only [Tree.kids]; omega) hl _ hv W hW)
  obtain ⟨a', c', rfl, _⟩ := hv.shut
  have S0 := Lib.hid ((St.start hw (.string ⟨#[65, 114, 103, 117, 109, 101, 110, 116, 80, 97, 99, 107]⟩) (.string ⟨#[]⟩) (.int .i64 0) (.slice a' l.length c')).on (Below.refl _ _).drew)
  have S0' := Lib.hid (St.start hw (.string ⟨#[65, 114, 103, 117, 109, 101, 110, 116, 80, 97, 99, 107]⟩) (.string ⟨#[]⟩) (.int .i64 0) (.slice a' l.length c'))
  clear hv hw hl
  go_enter Tryz.func43, Tryz.ntmps43
  go_wp2_with fail
  refine (K0.out _ S0'.out.later).mono ?_
  rintro e w1 ⟨sv, rfl, r, b⟩
  obtain ⟨sa, sn, sc, rfl⟩ := RepL.form r
  have R0 := Lib.hid (r.from (show w.heap.size ≤ _ from S0'.out.below.size))
  have S1 := Lib.hid (S0'.out.on b)
  clear r b K0
  go_wp2_with fail
  go_ret
  exact ⟨_, rfl, made_argumentPack (S1.out.below.size) R0.out, (S1.out.below).alloc (S1.out.below.size) _⟩

set_option maxRecDepth 100000 in
set_option maxHeartbeats 2000000 in
theorem treeOfMore_closure (W0 : World) (n : Int) {l : List Tree} (hl : ∀ p ∈ l, MakesRep W0 21 p) (hm : l.length ≤ 900) : MakesRep W0 43 (.node ⟨#[67, 108, 111, 115, 117, 114, 101]⟩ ⟨#[]⟩ n l) := by
  intro v hv w hw
  have K0 := Lib.hid (fun W hW => kids_ok (W0 := W0) (t := (.node ⟨#[67, 108, 111, 115, 117, 114, 101]⟩ ⟨#[]⟩ n l)) 0 (by simp [Tree.kids]) (by simp only [Tree.kids]; omega) hl _ hv W hW)
  obtain ⟨a', c', rfl, _⟩ := hv.shut
  have S0 := Lib.hid ((St.start hw (.string ⟨#[67, 108, 111, 115, 117, 114, 101]⟩) (.string ⟨#[]⟩) (.int .i64 n) (.slice a' l.length c')).on (Below.refl _ _).drew)
  have S0' := Lib.hid (St.start hw (.string ⟨#[67, 108, 111, 115, 117, 114, 101]⟩) (.string ⟨#[]⟩) (.int .i64 n) (.slice a' l.length c'))
  clear hv hw hl
  go_enter Tryz.func43, Tryz.ntmps43
  go_wp2_with fail
  go_region_with (first
    | (go_at_call_of 42 (Value.int IntKind.i64 0); refine (K0.out _ S0.out.later).mono ?_; rintro e w1 ⟨sv, rfl, r, b⟩; obtain ⟨sa, sn, sc, rfl⟩ := RepL.form r; have R0 := Lib.hid (r.from (show w.heap.size ≤ _ from S0.out.below.size)); have S1 := Lib.hid (S0.out.on b); obtain ⟨x0, x1, x2, x3⟩ := S1.out.box; clear b K0 r)
    )
  all_goals (go_wp2_with fail; go_ret; exact ⟨_, rfl, made_closure (S1.out.below.size) n R0.out (SliceOf.nil _ _), (S1.out.below).alloc (S1.out.below.size) _⟩)

set_option maxRecDepth 100000 in
set_option maxHeartbeats 2000000 in
theorem treeOfMore_unnamedType (W0 : World) (n : Int) : MakesRep W0 43 (.node ⟨#[85, 110, 110, 97, 109, 101, 100, 84, 121, 112, 101]⟩ ⟨#[]⟩ n []) := by
  intro v hv w hw
  obtain ⟨a', c', rfl, _⟩ := hv.shut
  have S0 := Lib.hid ((St.start hw (.string ⟨#[85, 110, 110, 97, 109, 101, 100, 84, 121, 112, 101]⟩) (.string ⟨#[]⟩) (.int .i64 n) (.slice a' ([] : List Tree).length c')).on (Below.refl _ _).drew)
  have S0' := Lib.hid (St.start hw (.string ⟨#[85, 110, 110, 97, 109, 101, 100, 84, 121, 112, 101]⟩) (.string ⟨#[]⟩) (.int .i64 n) (.slice a' ([] : List Tree).length c'))
  clear hv hw 
  go_enter Tryz.func43, Tryz.ntmps43
  go_wp2_with fail
  go_ret
  exact ⟨_, rfl, by simpa using made_unnamedType (S0'.out.below.size) n, by simpa using (S0'.out.below).alloc (S0'.out.below.size) _⟩

set_option maxRecDepth 100000 in
set_option maxHeartbeats 2000000 in
theorem treeOfMore_taggedName (W0 : World) {a : Tree} (ha : MakesRep W0 21 a) {c : Tree} (hc : MakesRep W0 21 c) : MakesRep W0 43 (.node ⟨#[84, 97, 103, 103, 101, 100, 78, 97, 109, 101]⟩ ⟨#[]⟩ 0 [a, c]) := by
  intro v hv w hw
  have K0 := Lib.hid (fun W hW => kid_ok (W0 := W0) (t := (.node ⟨#[84, 97, 103, 103, 101, 100, 78, 97, 109, 101]⟩ ⟨#[]⟩ 0 [a, c])) (i := 0) rfl (lowers_rep a) ha _ hv W hW)
  have K1 := Lib.hid (fun W hW => kid_ok (W0 := W0) (t := (.node ⟨#[84, 97, 103, 103, 101, 100, 78, 97, 109, 101]⟩ ⟨#[]⟩ 0 [a, c])) (i := 1) rfl (lowers_rep c) hc _ hv W hW)
  obtain ⟨a', c', rfl, _⟩ := hv.shut
  have S0 := Lib.hid ((St.start hw (.string ⟨#[84, 97, 103, 103, 101, 100, 78, 97, 109, 101]⟩) (.string ⟨#[]⟩) (.int .i64 0) (.slice a' [a, c].length c')).on (Below.refl _ _).drew)
  have S0' := Lib.hid (St.start hw (.string ⟨#[84, 97, 103, 103, 101, 100, 78, 97, 109, 101]⟩) (.string ⟨#[]⟩) (.int .i64 0) (.slice a' [a, c].length c'))
  clear hv hw ha hc
  go_enter Tryz.func43, Tryz.ntmps43
  go_wp2_with fail
  go_region_with (first
    | (go_at_call_of 41 (Value.int IntKind.i64 1); refine (K1.out _ S1.out.later).mono ?_; rintro e w2 ⟨y, rfl, r, b⟩; obtain ⟨Ty, qy, rfl, _⟩ := Rep.form r; have R1 := Lib.hid (r.from (show w.heap.size ≤ _ from S1.out.below.size)); have R0 := Lib.hid (R0.out.on b); have S2 := Lib.hid (S1.out.on b); clear x0 x1 x2 x3; obtain ⟨x0, x1, x2, x3⟩ := S2.out.box; clear b K1 r)
    | (go_at_call_of 41 (Value.int IntKind.i64 0); refine (K0.out _ S0.out.later).mono ?_; rintro e w1 ⟨u, rfl, r, b⟩; obtain ⟨Tu, qu, rfl, _⟩ := Rep.form r; have R0 := Lib.hid (r.from (show w.heap.size ≤ _ from S0.out.below.size)); have S1 := Lib.hid (S0.out.on b); obtain ⟨x0, x1, x2, x3⟩ := S1.out.box; clear b K0 r)
    )
  all_goals (go_wp2_with fail; go_ret; exact ⟨_, rfl, made_taggedName (S2.out.below.size) R0.out R1.out, (S2.out.below).alloc (S2.out.below.size) _⟩)

set_option maxRecDepth 100000 in
set_option maxHeartbeats 2000000 in
theorem treeOfMore_cast (W0 : World) {a : Tree} (ha : MakesRep W0 21 a) : MakesRep W0 43 (.node ⟨#[67, 97, 115, 116]⟩ ⟨#[]⟩ 0 [a]) := by
  intro v hv w hw
  have K0 := Lib.hid (fun W hW => kid_ok (W0 := W0) (t := (.node ⟨#[67, 97, 115, 116]⟩ ⟨#[]⟩ 0 [a])) (i := 0) rfl (lowers_rep a) ha _ hv W hW)
  obtain ⟨a', c', rfl, _⟩ := hv.shut
  have S0 := Lib.hid ((St.start hw (.string ⟨#[67, 97, 115, 116]⟩) (.string ⟨#[]⟩) (.int .i64 0) (.slice a' [a].length c')).on (Below.refl _ _).drew)
  have S0' := Lib.hid (St.start hw (.string ⟨#[67, 97, 115, 116]⟩) (.string ⟨#[]⟩) (.int .i64 0) (.slice a' [a].length c'))
  clear hv hw ha
  go_enter Tryz.func43, Tryz.ntmps43
  go_wp2_with fail
  refine (K0.out _ S0'.out.later).mono ?_
  rintro e w1 ⟨u, rfl, r, b⟩
  obtain ⟨Tu, qu, rfl, _⟩ := Rep.form r
  have R0 := Lib.hid (r.from (show w.heap.size ≤ _ from S0'.out.below.size))
  have S1 := Lib.hid (S0'.out.on b)
  clear r b K0
  go_wp2_with fail
  go_ret
  exact ⟨_, rfl, made_cast (S1.out.below.size) R0.out, (S1.out.below).alloc (S1.out.below.size) _⟩

end Go.Proofs.YtnhccgbkalpcnaaGreatDoor
