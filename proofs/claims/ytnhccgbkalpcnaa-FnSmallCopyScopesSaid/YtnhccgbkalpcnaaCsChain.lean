/- Copy over a name in scopes of any length. -/
import Derived.Test.YtnhccgbkalpcnaaCsCopy
namespace Go.Proofs.Ytnhccgbkalpcnaa
open Go.RowKit

/-- an element, and what Copy makes of it -/
def Copies (w0 : World) (c1 c2 : Nat) (f t : ByteArray) (v : Value) (l : List ByteArray) : Prop :=
  ∃ T g q, v = .iface T (.pointer (some ⟨q, 0, none⟩)) ∧ (∀ W, (method 183 T (.pointer (some ⟨q, 0, none⟩)) "Copy").run Try.prog W = .ok (g, .pointer (some ⟨q, 0, none⟩)) W) ∧
    (∀ args W, (callFunc g args).run Try.prog W = .ok (.enter g args) W) ∧
    ∀ w, Below w0.heap.size w0 w → Calls Try.prog g #[.pointer (some ⟨q, 0, none⟩), .func (.func 20) #[] #[.pointer (some ⟨c1, 0, none⟩), .pointer (some ⟨c2, 0, none⟩)], .func (.func 16) #[] #[]] w fun e w' => CopyRes f t l w w' e

theorem mc_name (a : Addr) (w : World) : (method 183 37 (.pointer (some a)) "Copy").run Try.prog w = .ok (36, .pointer (some a)) w := by kernel_rfl
theorem mc_qual (a : Addr) (w : World) : (method 183 46 (.pointer (some a)) "Copy").run Try.prog w = .ok (39, .pointer (some a)) w := by kernel_rfl

theorem copies_name {w0 : World} {c1 c2 : Nat} {f t s : ByteArray} {v : Value} (h : IsName w0 (Old w0) v s) (hc : Cls w0 c1 c2 f t) : Copies w0 c1 c2 f t v [s] := by
  obtain ⟨b, rfl, _, hb⟩ := h
  exact ⟨_, _, b, rfl, fun W => mc_name _ W, fun _ _ => by kernel_rfl, fun w k => copy_name (by rw [k.block b (old_lt hb)]; exact hb) (hc.below k)⟩

/-- the three cells of a Qualified's block -/
theorem cells_three {w : World} {p : Nat} {x y z : Value} {t : TypeId} (h : w.heap[p]? = some (.cells #[x, y, z] t (0, 0))) : w.cell? ⟨p, 0, none⟩ = some x ∧ w.cell? ⟨p, 1, none⟩ = some y ∧ w.cell? ⟨p, 2, none⟩ = some z := by
  simp [World.cell?, h]

theorem hits_cons (f s : ByteArray) (l : List ByteArray) : hits f (s :: l) = (hits f [s] || hits f l) := by simp [hits]

theorem ren_none (f t : ByteArray) : ∀ (l : List ByteArray), hits f l = false → l.map (ren f t) = l
  | [], _ => rfl
  | s :: l, h => by
    rw [hits_cons, Bool.or_eq_false_iff] at h
    rw [List.map_cons, ren_none f t l h.2]
    have h1 : (s.toList == f.toList) = false := by simpa [hits] using h.1
    rw [ren, if_neg (by rw [h1]; decide)]

theorem nil_some (T : TypeId) (q : Nat) (W : World) : (binOp .eql 34 (.iface T (.pointer (some ⟨q, 0, none⟩))) .nilIface).run Try.prog W = .ok (.bool false) W := by kernel_rfl

theorem Chain.one {w : World} {l : List ByteArray} {v : Value} (h : Chain w v l) : ∃ T q, v = .iface T (.pointer (some ⟨q, 0, none⟩)) := by
  match l, h with
  | [], h => exact h.elim
  | [_], h => obtain ⟨b, rfl, _⟩ := h; exact ⟨_, _, rfl⟩
  | _ :: _ :: _, h => obtain ⟨b, _, _, rfl, _⟩ := h; exact ⟨_, _, rfl⟩

/-- the Qualified that Copy lays -/
theorem made_qual {w w3 : World} {f t : ByteArray} {s s2 : ByteArray} {r : List ByteArray} {x y : Value} (_hb : Below w.heap.size w w3) (hx : Chain w3 x ((s2 :: r).map (ren f t))) (hy : Chain w3 y [ren f t s]) :
    Chain (w3.alloc (.cells #[x, y, .bool false] 50)) (.iface 46 (.pointer (some ⟨w3.heap.size, 0, none⟩))) ((s :: s2 :: r).map (ren f t)) := by
  have b1 : Below w3.heap.size w3 (w3.alloc (.cells #[x, y, .bool false] 50)) := (Below.refl _ _).alloc (Nat.le_refl _) _
  exact ⟨w3.heap.size, x, y, rfl, heap_alloc_new w3 _, hy.below b1, hx.below b1⟩

set_option maxRecDepth 100000 in
set_option maxHeartbeats 1000000 in
theorem copy_qual {w0 w : World} {c1 c2 q : Nat} {f t s s2 : ByteArray} {r : List ByteArray} {x y : Value} (hx0 : Chain w0 x (s2 :: r)) (hx : Copies w0 c1 c2 f t x (s2 :: r)) (hy : IsName w0 (Old w0) y s) (hcl : Cls w0 c1 c2 f t)
    (hc : w0.heap[q]? = some (.cells #[x, y, .bool false] 50 (0, 0))) (hb : Below w0.heap.size w0 w) :
    Calls Try.prog 39 #[.pointer (some ⟨q, 0, none⟩), .func (.func 20) #[] #[.pointer (some ⟨c1, 0, none⟩), .pointer (some ⟨c2, 0, none⟩)], .func (.func 16) #[] #[]] w fun e w' => CopyRes f t (s :: s2 :: r) w w' e := by
  have hcell : ∀ W, Below w.heap.size w W → W.cell? ⟨q, 0, none⟩ = some x ∧ W.cell? ⟨q, 1, none⟩ = some y ∧ W.cell? ⟨q, 2, none⟩ = some (.bool false) := fun W k => cells_three (by rw [k.block q (Nat.lt_of_lt_of_le (old_lt hc) hb.size), hb.block q (old_lt hc)]; exact hc)
  have HC := Lib.hid hcell
  have HS := fun v W => skip_any v W
  have hbx := Chain.below hb hx0
  obtain ⟨T, g, q2, rfl, hm, hca, hcall⟩ := hx
  obtain ⟨q3, rfl, _, hy3⟩ := hy
  have HX := Lib.hid (hcall w hb)
  have hyn : ∀ W, Below w.heap.size w W → Calls Try.prog 36 #[.pointer (some ⟨q3, 0, none⟩), .func (.func 20) #[] #[.pointer (some ⟨c1, 0, none⟩), .pointer (some ⟨c2, 0, none⟩)], .func (.func 16) #[] #[]] W fun e w' => CopyRes f t [s] W w' e := fun W k =>
    copy_name (by rw [k.block q3 (Nat.lt_of_lt_of_le (old_lt hy3) hb.size), hb.block q3 (old_lt hy3)]; exact hy3) ((hcl.below hb).below k)
  have HY := Lib.hid hyn
  have hny : Chain w (.iface 37 (.pointer (some ⟨q3, 0, none⟩))) [s] := ⟨q3, rfl, Nat.lt_of_lt_of_le (old_lt hy3) hb.size, by rw [hb.block q3 (old_lt hy3)]; exact hy3⟩
  have HNY := Lib.hid hny
  have HNX := Lib.hid hbx
  obtain ⟨c0, _, _⟩ := HC.out w (Below.refl _ _)
  clear hcell hcall hyn hny hbx hy3 hx0 hcl hc hb
  have HMC := fun W => mc_name ⟨q3, 0, none⟩ W
  go_enter Try.func39, Try.ntmps39
  go_wp2_with fail
  refine (HS _ _).mono ?_
  rintro e w' ⟨rfl, rfl⟩
  go_wp2_with fail
  refine (HX.out).mono ?_
  rintro e w1 ⟨b1, hres1⟩
  obtain ⟨_, c1', _⟩ := HC.out w1 b1
  have HY1 := Lib.hid (HY.out w1 b1)
  have RN := fun b W => rn_qual (c1 := c1) (c2 := c2) (w := W) (b := b)
  have B1 := Lib.hid b1
  have hnn := fun T q W => nil_some T q W
  clear HX b1
  rcases hres1 with ⟨hh1, rfl⟩ | ⟨hh1, v1, rfl, hv1⟩
  · have HH1 := Lib.hid hh1
    clear hh1
    go_wp2_with fail
    refine (HY1.out).mono ?_
    rintro e w2 ⟨b2, hres2⟩
    have b12 := B1.out.trans (b2.mono B1.out.size)
    have B2 := Lib.hid b12
    obtain ⟨c02, c12, c22⟩ := HC.out w2 b12
    clear b2 HY1 b12
    rcases hres2 with ⟨hh2, rfl⟩ | ⟨hh2, v2, rfl, hv2⟩
    · have HH2 := Lib.hid hh2
      clear hh2
      go_wp2_with fail
      refine (RN _ _).mono ?_
      rintro e w3 ⟨rfl, b3⟩
      have HZ := Lib.hid (show CopyRes f t (s :: s2 :: r) w w3 (.returned .nilIface) from ⟨B2.out.trans (b3.mono B2.out.size), .inl ⟨by rw [hits_cons, HH1.out, HH2.out]; rfl, rfl⟩⟩)
      clear b3
      go_wp2_with fail
      go_ret
      exact HZ.out
    · have HH2 := Lib.hid hh2
      have hx2 : Chain w2 (.iface T (.pointer (some ⟨q2, 0, none⟩))) ((s2 :: r).map (ren f t)) := by rw [ren_none f t _ HH1.out]; exact HNX.out.below B2.out
      have hst := made_qual (s := s) B2.out hx2 hv2
      obtain ⟨T2, q4, rfl⟩ := hv2.one
      have HST := Lib.hid hst
      clear hh2 hx2 hst hv2
      go_wp2_with fail
      refine (RN _ _).mono ?_
      rintro e w3 ⟨rfl, b3⟩
      have HZ := Lib.hid (show CopyRes f t (s :: s2 :: r) w w3 (.returned (.iface 46 (.pointer (some ⟨w2.heap.size, 0, none⟩)))) from
        ⟨(B2.out.alloc B2.out.size _).trans (b3.mono (by have := B2.out.size; simp; omega)), .inr ⟨by rw [hits_cons, HH1.out, HH2.out]; rfl, _, rfl, Chain.below b3 HST.out⟩⟩)
      clear b3
      go_wp2_with fail
      go_ret
      exact HZ.out
  · obtain ⟨T1, q1, rfl⟩ := hv1.one
    have HH1 := Lib.hid hh1
    have HV1 := Lib.hid hv1
    clear hh1 hv1
    go_wp2_with fail
    refine (HY1.out).mono ?_
    rintro e w2 ⟨b2, hres2⟩
    have b12 := B1.out.trans (b2.mono B1.out.size)
    have B2 := Lib.hid b12
    have HV2 := Lib.hid (HV1.out.below b2)
    obtain ⟨c02, c12, c22⟩ := HC.out w2 b12
    clear b2 HY1 b12
    rcases hres2 with ⟨hh2, rfl⟩ | ⟨hh2, v2, rfl, hv2⟩
    · have HH2 := Lib.hid hh2
      have hy2 : Chain w2 (.iface 37 (.pointer (some ⟨q3, 0, none⟩))) [ren f t s] := by
        have h := HNY.out.below B2.out
        have h2 := ren_none f t _ HH2.out
        simp only [List.map_cons, List.map_nil] at h2
        rw [h2]
        exact h
      have HST := Lib.hid (made_qual (s := s) B2.out HV2.out hy2)
      clear hh2 hy2
      go_wp2_with fail
      refine (RN _ _).mono ?_
      rintro e w3 ⟨rfl, b3⟩
      have HZ := Lib.hid (show CopyRes f t (s :: s2 :: r) w w3 (.returned (.iface 46 (.pointer (some ⟨w2.heap.size, 0, none⟩)))) from
        ⟨(B2.out.alloc B2.out.size _).trans (b3.mono (by have := B2.out.size; simp; omega)), .inr ⟨by rw [hits_cons, HH1.out, HH2.out]; rfl, _, rfl, Chain.below b3 HST.out⟩⟩)
      clear b3
      go_wp2_with fail
      go_ret
      exact HZ.out
    · have HH2 := Lib.hid hh2
      have hst := made_qual (s := s) B2.out HV2.out hv2
      obtain ⟨T2, q4, rfl⟩ := hv2.one
      have HST := Lib.hid hst
      clear hh2 hst hv2
      go_wp2_with fail
      refine (RN _ _).mono ?_
      rintro e w3 ⟨rfl, b3⟩
      have HZ := Lib.hid (show CopyRes f t (s :: s2 :: r) w w3 (.returned (.iface 46 (.pointer (some ⟨w2.heap.size, 0, none⟩)))) from
        ⟨(B2.out.alloc B2.out.size _).trans (b3.mono (by have := B2.out.size; simp; omega)), .inr ⟨by rw [hits_cons, HH1.out, HH2.out]; rfl, _, rfl, Chain.below b3 HST.out⟩⟩)
      clear b3
      go_wp2_with fail
      go_ret
      exact HZ.out

theorem copies_chain {w0 : World} {c1 c2 : Nat} {f t : ByteArray} (hc : Cls w0 c1 c2 f t) : ∀ (l : List ByteArray) (v : Value), Chain w0 v l → Copies w0 c1 c2 f t v l
  | [], _, h => h.elim
  | [_], _, h => copies_name h hc
  | s :: s2 :: r, v, ⟨q, x, y, hv, hq, hy, hx⟩ => by
    subst hv
    exact ⟨_, _, q, rfl, fun W => mc_qual _ W, fun _ _ => by kernel_rfl, fun w k => copy_qual hx (copies_chain hc (s2 :: r) x hx) hy hc hq k⟩

end Go.Proofs.Ytnhccgbkalpcnaa
