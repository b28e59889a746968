/- impl.name and impl.names: a Name in a block of its own; a slice of Names. -/
import Derived.Test.YtcobcgkeojeagaaGreatFits
namespace Go.Proofs.YtcobcgkeojeagaaGreat
open Go.RowKit

/-- the block that an interface value leads to -/
def blkOf : Value → Nat
  | .iface _ (.pointer (some a)) => a.block
  | _ => 0

/-- v is the interface value of a Name with the text s, laid in a block of its own, out of I. -/
def IsName (w : World) (I : Nat → Prop) (v : Value) (s : ByteArray) : Prop :=
  ∃ b, v = .iface 58 (.pointer (some ⟨b, 0, none⟩)) ∧ I b ∧ w.heap[b]? = some (.cells #[.string s] 60 (0, 0))

theorem IsName.at {w : World} {I : Nat → Prop} {v : Value} {s : ByteArray} (h : IsName w I v s) : I (blkOf v) := by
  obtain ⟨b, rfl, hI, hc⟩ := h
  exact hI

theorem IsName.same {w w' : World} {I : Nat → Prop} {v : Value} {s : ByteArray} (h : IsName w I v s) (hb : Same I w w') : IsName w' I v s := by
  obtain ⟨b, hv, hI, hc⟩ := h
  exact ⟨b, hv, hI, by rw [hb b hI]; exact hc⟩

theorem IsName.mono {w : World} {I J : Nat → Prop} {v : Value} {s : ByteArray} (h : IsName w I v s) (hI : ∀ i, I i → J i) : IsName w J v s := by
  obtain ⟨b, hv, hi, hc⟩ := h
  exact ⟨b, hv, hI _ hi, hc⟩

theorem IsName.one {w : World} {I : Nat → Prop} {v : Value} {s : ByteArray} (h : IsName w I v s) : v.oneCell' = true := by
  obtain ⟨b, rfl, _⟩ := h
  rfl

theorem IsName.made (w : World) {I : Nat → Prop} (s : ByteArray) {b : Nat} (hb : b = w.heap.size) (hI : I b) : IsName (w.alloc (.cells #[.string s] 60)) I (.iface 58 (.pointer (some ⟨b, 0, none⟩))) s := by
  subst hb
  exact ⟨_, rfl, hI, heap_alloc_new w _⟩

/-- the values are Names with these texts -/
def Names (w : World) (I : Nat → Prop) : List Value → List ByteArray → Prop
  | [], [] => True
  | v :: vs, s :: ss => IsName w I v s ∧ Names w I vs ss
  | _, _ => False

theorem Names.nil (w : World) (I : Nat → Prop) : Names w I [] [] := trivial

theorem Names.imp {w w' : World} {I J : Nat → Prop} (f : ∀ v s, IsName w I v s → IsName w' J v s) : ∀ {vs : List Value} {ss : List ByteArray}, Names w I vs ss → Names w' J vs ss
  | [], [], _ => trivial
  | _ :: _, _ :: _, ⟨h, r⟩ => ⟨f _ _ h, Names.imp f r⟩
  | [], _ :: _, h => h.elim
  | _ :: _, [], h => h.elim

theorem Names.same {w w' : World} {I : Nat → Prop} {vs : List Value} {ss : List ByteArray} (h : Names w I vs ss) (hb : Same I w w') : Names w' I vs ss := h.imp fun _ _ k => k.same hb
theorem Names.mono {w : World} {I J : Nat → Prop} {vs : List Value} {ss : List ByteArray} (h : Names w I vs ss) (hI : ∀ i, I i → J i) : Names w J vs ss := h.imp fun _ _ k => k.mono hI

theorem Names.length {w : World} {I : Nat → Prop} : ∀ {vs : List Value} {ss : List ByteArray}, Names w I vs ss → vs.length = ss.length
  | [], [], _ => rfl
  | _ :: _, _ :: _, ⟨_, r⟩ => by simp [Names.length r]
  | [], _ :: _, h => h.elim
  | _ :: _, [], h => h.elim

theorem Names.append {w : World} {I : Nat → Prop} : ∀ {vs : List Value} {ss : List ByteArray} {vs' : List Value} {ss' : List ByteArray}, Names w I vs ss → Names w I vs' ss' → Names w I (vs ++ vs') (ss ++ ss')
  | [], [], _, _, _, h => h
  | _ :: _, _ :: _, _, _, ⟨h, r⟩, h' => ⟨h, Names.append r h'⟩
  | [], _ :: _, _, _, h, _ => h.elim
  | _ :: _, [], _, _, h, _ => h.elim

theorem Names.all {w : World} {I : Nat → Prop} : ∀ {vs : List Value} {ss : List ByteArray}, Names w I vs ss → ∀ u ∈ vs, ∃ s, IsName w I u s
  | [], [], _ => fun _ h => by cases h
  | v :: vs, s :: _, ⟨h, r⟩ => fun u hu => by
    rcases List.mem_cons.1 hu with rfl | hu
    · exact ⟨s, h⟩
    · exact Names.all r u hu
  | [], _ :: _, h => h.elim
  | _ :: _, [], h => h.elim

theorem Names.one {w : World} {I : Nat → Prop} {vs : List Value} {ss : List ByteArray} (h : Names w I vs ss) : ∀ u ∈ vs, u.oneCell' = true := fun u hu => (h.all u hu).elim fun _ k => k.one

set_option maxHeartbeats 400000 in
theorem name_any (s : ByteArray) (w : World) :
    Calls Tryz.prog 14 #[.string s] w fun e w' => e = .returned (.iface 58 (.pointer (some ⟨w.heap.size, 0, none⟩))) ∧ w.alloc (.cells #[.string s] 60) = w' := by
  go_enter Tryz.func14, Tryz.ntmps14
  go_wp2
  go_ret
  exact ⟨rfl, rfl⟩

theorem infoAST : (Tryz.prog.info? 35).map (fun i => (i.zero, i.size, i.bytes)) = some (some .nilIface, 1, 16) := by kernel_rfl

/-- the blocks that have been made between two worlds -/
def Made (w w' : World) (i : Nat) : Prop := w.heap.size ≤ i ∧ i < w'.heap.size

/-- one round's step of the loop in names -/
theorem names_step {w wr w2 : World} {v' x : Value} {vs : List Value} {ss : List ByteArray} {j : Nat} (h : j < ss.length) (hb : Below w.heap.size w wr)
    (hown : wr.ownsRow w.heap.size 35 1 x j vs) (hn : Names wr (Made w wr) vs (ss.take j))
    (_hown2 : w2.ownsRow w.heap.size 35 1 v' (j + 1) (vs ++ [.iface 58 (.pointer (some ⟨wr.heap.size, 0, none⟩))]))
    (hg : ((wr.alloc (.cells #[.string ss[j]] 60)).alloc (.cells #[.iface 58 (.pointer (some ⟨wr.heap.size, 0, none⟩))] 35)).grownBy w2 x.ownBlock) :
    Below w.heap.size w w2 ∧ Names w2 (Made w w2) (vs ++ [.iface 58 (.pointer (some ⟨wr.heap.size, 0, none⟩))]) (ss.take (j + 1)) := by
  have hx := hown.lt
  have hws := hb.size
  have k1 : Below w.heap.size w ((wr.alloc (.cells #[.string ss[j]] 60)).alloc (.cells #[.iface 58 (.pointer (some ⟨wr.heap.size, 0, none⟩))] 35)) :=
    (hb.alloc hb.size _).alloc (by simp; omega) _
  have k2 := k1.grown hg (by simp; omega) (fun k hk => (hx k hk).1)
  have hsz := hg.size
  simp at hsz
  refine ⟨k2, ?_⟩
  rw [List.take_succ_eq_append_getElem h]
  have hold : ∀ b, b < wr.heap.size + 1 → some b ≠ x.ownBlock → w2.heap[b]? = (wr.alloc (.cells #[.string ss[j]] 60)).heap[b]? := fun b hb1 hb2 => by
    rw [hg.block b (by simp; omega) hb2]
    exact Below.heap_alloc _ _ _ (by simp; omega)
  refine Names.append (hn.imp fun v s => ?_) ⟨⟨wr.heap.size, rfl, ⟨hws, by omega⟩, ?_⟩, trivial⟩
  · rintro ⟨b, hv, ⟨hI1, hI2⟩, hc⟩
    refine ⟨b, hv, ⟨hI1, by omega⟩, ?_⟩
    rw [hold b (by omega) (ne_ownBlock hown hc (by decide)), Below.heap_alloc _ _ _ hI2]
    exact hc
  · rw [hold _ (by omega) (fun e => by have := (hx _ e.symm).2; omega)]
    exact heap_alloc_new wr _

set_option maxRecDepth 100000 in
set_option maxHeartbeats 1000000 in
theorem names_any (w : World) {I : Nat → Prop} (hI : ∀ i, I i → i < w.heap.size) (v : Value) (ss : List ByteArray) (h : SliceOf w I v (strv ss)) (hlen : ss.length ≤ 2147483648) :
    Calls Tryz.prog 20 #[v] w fun e w' => ∃ v' vs, e = .returned v' ∧ SliceOf w' (Made w w') v' vs ∧ Names w' (Made w w') vs ss ∧ Below w.heap.size w w' := by
  obtain ⟨a, cap, rfl, hl, hc, hr⟩ := h.strs
  clear h
  have HR := Lib.hid hr
  have HI := Lib.hid hI
  clear hr hl hc hI
  obtain ⟨i0, hi, hz0, hz1, hz2⟩ := info_parts infoAST
  go_enter Tryz.func20, Tryz.ntmps20
  go_wp2
  go_loopg [3, 8] (ss.length) (fun k x i wr => ∃ j : Nat, j + k = ss.length ∧ i = .int .i64 j ∧ ∃ vs, wr.ownsRow w.heap.size 35 1 x j vs ∧ Names wr (Made w wr) vs (ss.take j) ∧ Below w.heap.size w wr)
  case atStart => exact ⟨0, by omega, rfl, [], World.ownsRow_nil _ _ _ _, trivial, Below.refl _ _⟩
  case round =>
    obtain ⟨j, hj, rfl, vs, hown, hn, hb⟩ := hrel
    by_cases hlt : j < ss.length
    · rcases HR.out with rfl | ⟨b, off, rfl, hbI, hcell⟩
      · simp at hlt
      have hbl := HI.out _ hbI
      have hc1 : wr.cell? ⟨b, off + j, none⟩ = some (.string ss[j]) := by rw [hb.cell (p := ⟨b, off + j, none⟩) hbl]; exact hcell j hlt
      have hws := hb.size
      clear hcell HR HI hbI
      go_wp2_with (first
        | (go_at_call 14; refine (name_any _ _).mono ?_; rintro e w1 ⟨rfl, rfl⟩)
        | (at_builtin; refine wpList_append_row rfl _ _ 52 rfl w.heap.size 35 i0 .nilIface 16 Tryz.underlying52 hi hz0 hz1 hz2 rfl _ j vs rfl ((hown.alloc _).alloc _) (.slice (some ⟨wr.heap.size + 1, 0, none⟩) 1 1) [.iface 58 (.pointer (some ⟨wr.heap.size, 0, none⟩))] rfl (I := fun _ => True) ?c1 ?c2 ?c3 ?c4 ?c5 ?_
           rotate_left 5
           intro v' w2 hown2 hg2
           have X := Lib.hid (names_step hlt hb hown hn hown2 hg2)
           clear hown hn hb hc1 hg2))
      case c1 => exact SliceOf.one _ _ _ _ (by simp) trivial
      case c2 => exact fun u hu => by simp at hu; subst hu; rfl
      case c3 => simp [maxLen]; omega
      case c4 => simp; omega
      case c5 => simp; omega
      go_roundg (gk - 1)
      case measure => omega
      case rel => exact ⟨j + 1, by omega, by go_num, _, hown2, X.out.2, X.out.1⟩
    · obtain rfl : j = ss.length := by omega
      have H := Lib.hid (show Names wr (Made w wr) vs ss by rw [List.take_length] at hn; exact hn)
      have H2 := Lib.hid (SliceOf.owned (I := Made w wr) hown (fun i h1 h2 => ⟨h1, h2⟩))
      have H3 := Lib.hid hb
      clear hn hown hb
      go_wp2
      go_ret
      exact ⟨_, vs, rfl, H2.out, H.out, H3.out⟩
end Go.Proofs.YtcobcgkeojeagaaGreat
