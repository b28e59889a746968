/- impl.PrintFunction, PrintFunctionType, PrintMember, PrintMethodPointer. -/
import Derived.Test.YtcobcgkeojeagaaGreatFuncPr
namespace Go.Proofs.YtcobcgkeojeagaaGreat
open Go.RowKit

theorem Body2.weak {b d q : Nat} {w0 : World} {f : FuncId} {inn inn' : List Value} {o : List UInt8} (h : Body2 b w0 d q f inn inn' AnyLast o) (lp : Int → Prop) : Body2 b w0 d q f inn inn' lp o :=
  fun w sc last text pr h1 h2 _ h4 h5 h6 h7 h8 => h w sc last text pr h1 h2 trivial h4 h5 h6 h7 h8

theorem jb_of {its : List Piece} {A : List ByteArray} (h : its.map (·.o) = A.map (fun s => s.data.toList)) : joinC (its.map (·.o)) = jb A := by rw [h]; rfl

/-- the parameters in parentheses -/
def pb (A : List ByteArray) : List UInt8 := [40] ++ jb A ++ [41]

set_option maxRecDepth 100000 in
set_option maxHeartbeats 1000000 in
theorem printFunction_any (w : World) {I : Nat → Prop} (hI : ∀ i, I i → i < w.heap.size) (s : ByteArray) (v : Value) (A : List ByteArray) (h : SliceOf w I v (strv A)) (hA : A.length ≤ 1000) (hs : s.size ≤ 2147483647) (hel : elFit A) :
    Calls Tryz.prog 8 #[.string s, v] w fun e w' => e = .returned (.string ⟨(s.data.toList ++ pb A).toArray⟩) ∧ Below w.heap.size w w' := by
  have hz := jb_size A A.length hel hA
  rw [List.take_length] at hz
  have HZ := Lib.hid hz
  have b1 := (Below.refl w.heap.size w).alloc (Nat.le_refl _) (.cells #[.string s] 60)
  have HF := Lib.hid (functionType_any (w.alloc (.cells #[.string s] 60)) (I := I) (fun i hi => by have := hI i hi; simp; omega) .nilIface (.inl rfl) v A (h.same (Same.below b1 hI)) hA)
  have B1 := Lib.hid b1
  obtain ⟨a1, c1, rfl, _⟩ := h.strs
  clear hI h hz b1
  go_enter Tryz.func8, Tryz.ntmps8
  go_wp2_with fail
  refine (name_any _ _).mono ?_
  rintro e w1 ⟨rfl, rfl⟩
  go_wp2_with fail
  refine (HF.out).mono ?_
  rintro e w2 ⟨w1, sv, vs, rfl, rfl, hs1, hn1, hb1⟩
  have hsz1 := hb1.size
  simp at hsz1
  obtain ⟨hft, hlt, its, la, lc, rfl, ho, hpar, hsl⟩ := ft_last (W := (w1.alloc (.cells #[.nilIface, sv, .bool false] 63)).alloc (.cells #[.iface 58 (.pointer (some ⟨w.heap.size, 0, none⟩)), .iface 37 (.pointer (some ⟨w1.heap.size, 0, none⟩))] 40)) hs1 hn1
    (((Below.refl _ _).alloc (by simp) _))
  have hname : IsName ((w1.alloc (.cells #[.nilIface, .slice la its.length lc, .bool false] 63)).alloc (.cells #[.iface 58 (.pointer (some ⟨w.heap.size, 0, none⟩)), .iface 37 (.pointer (some ⟨w1.heap.size, 0, none⟩))] 40)) (fun i => i = w.heap.size) (.iface 58 (.pointer (some ⟨w.heap.size, 0, none⟩))) s := by
    refine ⟨_, rfl, rfl, ?_⟩
    rw [Below.heap_alloc _ _ _ (by simp; omega), Below.heap_alloc _ _ _ (by omega), hb1.block _ (by simp)]
    exact heap_alloc_new w _
  have hty : ((w1.alloc (.cells #[.nilIface, .slice la its.length lc, .bool false] 63)).alloc (.cells #[.iface 58 (.pointer (some ⟨w.heap.size, 0, none⟩)), .iface 37 (.pointer (some ⟨w1.heap.size, 0, none⟩))] 40)).heap[w1.heap.size + 1]? =
      some (Obj.cells #[.iface 58 (.pointer (some ⟨w.heap.size, 0, none⟩)), .iface 37 (.pointer (some ⟨w1.heap.size, 0, none⟩))] 40 (0, 0)) := by
    have h := heap_alloc_new (w1.alloc (.cells #[.nilIface, .slice la its.length lc, .bool false] 63)) (.cells #[.iface 58 (.pointer (some ⟨w.heap.size, 0, none⟩)), .iface 37 (.pointer (some ⟨w1.heap.size, 0, none⟩))] 40)
    simpa using h
  have BX := Lib.hid (((B1.out.trans (hb1.mono (by simp))).alloc (by omega) (.cells #[.nilIface, .slice la its.length lc, .bool false] 63)).alloc (by simp; omega) (.cells #[.iface 58 (.pointer (some ⟨w.heap.size, 0, none⟩)), .iface 37 (.pointer (some ⟨w1.heap.size, 0, none⟩))] 40))
  have hsz : ((w1.alloc (.cells #[.nilIface, .slice la its.length lc, .bool false] 63)).alloc (.cells #[.iface 58 (.pointer (some ⟨w.heap.size, 0, none⟩)), .iface 37 (.pointer (some ⟨w1.heap.size, 0, none⟩))] 40)).heap.size = w1.heap.size + 2 := by simp
  generalize hW : (w1.alloc (.cells #[.nilIface, .slice la its.length lc, .bool false] 63)).alloc (.cells #[.iface 58 (.pointer (some ⟨w.heap.size, 0, none⟩)), .iface 37 (.pointer (some ⟨w1.heap.size, 0, none⟩))] 40) = W at *
  have HW := Lib.hid hW
  have ht := typed_inner (b := W.heap.size) (d := 1) (m := w1.heap.size) (inn := []) (by omega) hty (prints_name AnyInner hname (by show w.heap.size < _; omega)) (by show w.heap.size < _; omega)
  have ha := args_typed (ret := .nilIface) hlt hft hpar hsl (p := w1.heap.size + 1) (o1 := s.data.toList) (fun w' sc last text pr k1 k2 k5 k6 k7 => printInner_one innerOf_typed ht w' sc last text pr k1 k2 trivial k5 k6 k7)
  rw [jb_of ho] at ha
  have hp := prints2_of printer_ft hft hlt (body_ft_nil hlt hft ha)
  have hlen : (s.data.toList ++ [40] ++ jb A ++ [41]).length ≤ 140737488355328 := by
    simp only [List.length_append, ba_size, List.length_cons, List.length_nil]
    have := HZ.out
    omega
  have HT := Lib.hid (toString_top (w := W) (q := w1.heap.size + 1) printer_typed hlen (fun W' hs' hps => typed_top (b := W.heap.size) (by omega) hty hp (by show w1.heap.size < _; omega) W' 1 0 [] [] hs' hps (by decide) (by decide) (by simp) (fun u hu => by cases hu) (by simpa using hlen)))
  clear hft hpar hsl hname hty ht ha hp hlen hs1 hn1 hb1 ho HF B1 hlt hsz
  subst hW
  clear HW
  go_wp2_with fail
  refine (HT.out).mono ?_
  rintro e w5 ⟨rfl, b5⟩
  have HX := Lib.hid (BX.out.trans (b5.mono BX.out.size))
  clear b5
  go_wp2_with fail
  go_ret
  exact ⟨ret_str (ba_ext (by simp [pb])), HX.out⟩

set_option maxRecDepth 100000 in
set_option maxHeartbeats 1000000 in
theorem printFunctionType_any (w : World) {I : Nat → Prop} (hI : ∀ i, I i → i < w.heap.size) (s : ByteArray) (v : Value) (A : List ByteArray) (h : SliceOf w I v (strv A)) (hA : A.length ≤ 1000) (hs : s.size ≤ 2147483647) (hel : elFit A) :
    Calls Tryz.prog 10 #[.string s, v] w fun e w' => e = .returned (.string ⟨(s.data.toList ++ [32] ++ pb A).toArray⟩) ∧ Below w.heap.size w w' := by
  have hz := jb_size A A.length hel hA
  rw [List.take_length] at hz
  have HZ := Lib.hid hz
  have b1 := (Below.refl w.heap.size w).alloc (Nat.le_refl _) (.cells #[.string s] 65)
  have HF := Lib.hid (functionType_any (w.alloc (.cells #[.string s] 65)) (I := I) (fun i hi => by have := hI i hi; simp; omega) (.iface 64 (.pointer (some ⟨w.heap.size, 0, none⟩))) (.inr ⟨_, _, rfl⟩) v A (h.same (Same.below b1 hI)) hA)
  have B1 := Lib.hid b1
  have P0 := Lib.hid (Pr.newBuiltin AnyInner w s)
  obtain ⟨a1, c1, rfl, _⟩ := h.strs
  clear hI h hz b1
  go_enter Tryz.func10, Tryz.ntmps10
  go_wp2_with fail
  refine (builtin_any _ _).mono ?_
  rintro e w1 ⟨rfl, rfl⟩
  go_wp2_with fail
  refine (HF.out).mono ?_
  rintro e w2 ⟨w1, sv, vs, rfl, rfl, hs1, hn1, hb1⟩
  have hsz1 := hb1.size
  simp at hsz1
  obtain ⟨hft, hlt, its, la, lc, rfl, ho, hpar, hsl⟩ := ft_last (x := .iface 64 (.pointer (some ⟨w.heap.size, 0, none⟩))) (W := w1.alloc (.cells #[.iface 64 (.pointer (some ⟨w.heap.size, 0, none⟩)), sv, .bool false] 63)) hs1 hn1 (Below.refl _ _)
  have BX := Lib.hid ((B1.out.trans (hb1.mono (by simp))).alloc (by omega) (.cells #[.iface 64 (.pointer (some ⟨w.heap.size, 0, none⟩)), .slice la its.length lc, .bool false] 63))
  have hbW : Below (w.alloc (.cells #[.string s] 65)).heap.size (w.alloc (.cells #[.string s] 65)) (w1.alloc (.cells #[.iface 64 (.pointer (some ⟨w.heap.size, 0, none⟩)), .slice la its.length lc, .bool false] 63)) := hb1.alloc (by simp; omega) _
  have hx := P0.out _ hbW
  generalize hW : w1.alloc (.cells #[.iface 64 (.pointer (some ⟨w.heap.size, 0, none⟩)), .slice la its.length lc, .bool false] 63) = W at *
  have HW := Lib.hid hW
  have ha := args_none (ret := .iface 64 (.pointer (some ⟨w.heap.size, 0, none⟩))) hlt hft hpar hsl
  rw [jb_of ho] at ha
  have hp := prints2_of printer_ft hft hlt (body_ft_ret (inn := []) hlt hft (hx.two _ _) (by show w.heap.size < _; omega) (by simp) (ha.weak _))
  have hlen : (s.data.toList ++ [32] ++ ([40] ++ jb A ++ [41])).length ≤ 140737488355328 := by
    simp only [List.length_append, ba_size, List.length_cons, List.length_nil]
    have := HZ.out
    omega
  have HT := Lib.hid (toString_two hp trivial (by omega) hlen)
  clear hft hpar hsl ha hp hlen hs1 hn1 hb1 ho HF B1 hlt P0 hx hbW
  subst hW
  clear HW
  go_wp2_with fail
  refine (HT.out).mono ?_
  rintro e w5 ⟨rfl, b5⟩
  have HX := Lib.hid (BX.out.trans (b5.mono BX.out.size))
  clear b5
  go_wp2_with fail
  go_ret
  exact ⟨ret_str (ba_ext (by simp [pb])), HX.out⟩

set_option maxRecDepth 100000 in
set_option maxHeartbeats 1000000 in
theorem printMember_any (w : World) (s c : ByteArray) (hs : s.size ≤ 2147483647) (hc : c.size ≤ 2147483647) (hl : ∀ l, lastOf l s.data.toList ≠ 40) :
    Calls Tryz.prog 11 #[.string s, .string c] w fun e w' => e = .returned (.string ⟨(s.data.toList ++ [32] ++ c.data.toList ++ [58, 58, 42]).toArray⟩) ∧ Below w.heap.size w w' := by
  have HL := Lib.hid hl
  have b1 := (Below.refl w.heap.size w).alloc (Nat.le_refl _) (.cells #[.string c] 60)
  have hN := Pr.newName AnyInner w c
  have hB := Pr.newBuiltin AnyInner (w.alloc (.cells #[.string c] 60)) s
  simp only [World.size_alloc] at hB
  have b3 := (b1.alloc (by simp) (.cells #[.string s] 65)).alloc (by simp; omega) (.cells #[.iface 58 (.pointer (some ⟨w.heap.size, 0, none⟩)), .iface 64 (.pointer (some ⟨w.heap.size + 1, 0, none⟩))] 43)
  have hmem := heap_alloc_new ((w.alloc (.cells #[.string c] 60)).alloc (.cells #[.string s] 65)) (.cells #[.iface 58 (.pointer (some ⟨w.heap.size, 0, none⟩)), .iface 64 (.pointer (some ⟨w.heap.size + 1, 0, none⟩))] 43)
  simp only [World.size_alloc] at hmem
  have hN' := hN _ (((Below.refl _ (w.alloc (.cells #[.string c] 60))).alloc (Nat.le_refl _) (.cells #[.string s] 65)).alloc (by simp) (.cells #[.iface 58 (.pointer (some ⟨w.heap.size, 0, none⟩)), .iface 64 (.pointer (some ⟨w.heap.size + 1, 0, none⟩))] 43))
  have hB' := hB _ ((Below.refl _ ((w.alloc (.cells #[.string c] 60)).alloc (.cells #[.string s] 65))).alloc (Nat.le_refl _) (.cells #[.iface 58 (.pointer (some ⟨w.heap.size, 0, none⟩)), .iface 64 (.pointer (some ⟨w.heap.size + 1, 0, none⟩))] 43))
  have hp := prints2_of printer_mem hmem (by simp) (body_mem_else (by simp) hmem (hB'.two _ _) (by show w.heap.size + 1 < _; omega) hl hN' (by show w.heap.size < _; omega))
  have HT := Lib.hid (toString_two hp trivial (by omega) (by simp only [List.length_append, ba_size, List.length_cons, List.length_nil]; omega))
  have BX := Lib.hid b3
  clear b1 hN hB b3 hmem hN' hB' hp hl
  go_enter Tryz.func11, Tryz.ntmps11
  go_wp2_with fail
  refine (name_any _ _).mono ?_
  rintro e w1 ⟨rfl, rfl⟩
  go_wp2_with fail
  refine (builtin_any _ _).mono ?_
  rintro e w1 ⟨rfl, rfl⟩
  go_wp2_with fail
  refine (HT.out).mono ?_
  rintro e w5 ⟨rfl, b5⟩
  have HX := Lib.hid (BX.out.trans (b5.mono BX.out.size))
  clear b5
  go_wp2_with fail
  go_ret
  exact ⟨ret_str (ba_ext (by simp)), HX.out⟩

set_option maxRecDepth 100000 in
set_option maxHeartbeats 2000000 in
theorem printMethodPointer_any (w : World) {I : Nat → Prop} (hI : ∀ i, I i → i < w.heap.size) (s c : ByteArray) (v : Value) (A : List ByteArray) (h : SliceOf w I v (strv A)) (hA : A.length ≤ 1000) (hs : s.size ≤ 2147483647) (hc : c.size ≤ 2147483647) (hel : elFit A) :
    Calls Tryz.prog 12 #[.string s, .string c, v] w fun e w' => e = .returned (.string ⟨(s.data.toList ++ [32] ++ [40] ++ c.data.toList ++ [58, 58, 42] ++ [41] ++ pb A).toArray⟩) ∧ Below w.heap.size w w' := by
  have hz := jb_size A A.length hel hA
  rw [List.take_length] at hz
  have HZ := Lib.hid hz
  have b1 := ((Below.refl w.heap.size w).alloc (Nat.le_refl _) (.cells #[.string c] 60)).alloc (by simp) (.cells #[.string s] 65)
  have HF := functionType_any ((w.alloc (.cells #[.string c] 60)).alloc (.cells #[.string s] 65)) (I := I) (fun i hi => by have := hI i hi; simp; omega) (.iface 64 (.pointer (some ⟨w.heap.size + 1, 0, none⟩))) (.inr ⟨_, _, rfl⟩) v A (h.same (Same.below b1 hI)) hA
  have HF := Lib.hid HF
  have B1 := Lib.hid b1
  have hN := Pr.newName AnyInner w c
  have hB := Pr.newBuiltin AnyInner (w.alloc (.cells #[.string c] 60)) s
  simp only [World.size_alloc] at hB
  have P0 := Lib.hid (And.intro hN hB)
  obtain ⟨a1, c1, rfl, _⟩ := h.strs
  clear hI h hz b1 hN hB
  go_enter Tryz.func12, Tryz.ntmps12
  go_wp2_with fail
  refine (name_any _ _).mono ?_
  rintro e w1 ⟨rfl, rfl⟩
  go_wp2_with fail
  refine (builtin_any _ _).mono ?_
  rintro e w1 ⟨rfl, rfl⟩
  simp only [World.size_alloc]
  go_wp2_with fail
  refine (HF.out).mono ?_
  rintro e w2 ⟨w1, sv, vs, rfl, rfl, hs1, hn1, hb1⟩
  have hsz1 := hb1.size
  simp at hsz1
  have hb2 : Below (w1.heap.size + 1) (w1.alloc (.cells #[.iface 64 (.pointer (some ⟨w.heap.size + 1, 0, none⟩)), sv, .bool false] 63)) ((w1.alloc (.cells #[.iface 64 (.pointer (some ⟨w.heap.size + 1, 0, none⟩)), sv, .bool false] 63)).alloc (.cells #[.iface 58 (.pointer (some ⟨w.heap.size, 0, none⟩)), .iface 37 (.pointer (some ⟨w1.heap.size, 0, none⟩))] 43)) := (Below.refl _ _).alloc (by simp) _
  obtain ⟨hft, hlt, its, la, lc, rfl, ho, hpar, hsl⟩ := ft_last hs1 hn1 hb2
  clear hb2
  have BX := Lib.hid (((B1.out.trans (hb1.mono (by simp; omega))).alloc (by omega) (.cells #[.iface 64 (.pointer (some ⟨w.heap.size + 1, 0, none⟩)), .slice la its.length lc, .bool false] 63)).alloc (by simp; omega) (.cells #[.iface 58 (.pointer (some ⟨w.heap.size, 0, none⟩)), .iface 37 (.pointer (some ⟨w1.heap.size, 0, none⟩))] 43))
  have hbW : Below (w.heap.size + 1 + 1) ((w.alloc (.cells #[.string c] 60)).alloc (.cells #[.string s] 65)) ((w1.alloc (.cells #[.iface 64 (.pointer (some ⟨w.heap.size + 1, 0, none⟩)), .slice la its.length lc, .bool false] 63)).alloc (.cells #[.iface 58 (.pointer (some ⟨w.heap.size, 0, none⟩)), .iface 37 (.pointer (some ⟨w1.heap.size, 0, none⟩))] 43)) := by
    have h := (hb1.alloc (by simp; omega) (.cells #[.iface 64 (.pointer (some ⟨w.heap.size + 1, 0, none⟩)), .slice la its.length lc, .bool false] 63)).alloc (by simp; omega) (.cells #[.iface 58 (.pointer (some ⟨w.heap.size, 0, none⟩)), .iface 37 (.pointer (some ⟨w1.heap.size, 0, none⟩))] 43)
    simpa using h
  have hB' := P0.out.2 _ (by simpa using hbW)
  have hN' := P0.out.1 _ (by
    have h0 := (Below.refl (w.heap.size + 1) (w.alloc (.cells #[.string c] 60))).alloc (by simp) (.cells #[.string s] 65)
    have h2 := h0.trans (hbW.mono (by omega))
    simpa using h2)
  have hmem : ((w1.alloc (.cells #[.iface 64 (.pointer (some ⟨w.heap.size + 1, 0, none⟩)), .slice la its.length lc, .bool false] 63)).alloc (.cells #[.iface 58 (.pointer (some ⟨w.heap.size, 0, none⟩)), .iface 37 (.pointer (some ⟨w1.heap.size, 0, none⟩))] 43)).heap[w1.heap.size + 1]? =
      some (Obj.cells #[.iface 58 (.pointer (some ⟨w.heap.size, 0, none⟩)), .iface 37 (.pointer (some ⟨w1.heap.size, 0, none⟩))] 43 (0, 0)) := by
    have h := heap_alloc_new (w1.alloc (.cells #[.iface 64 (.pointer (some ⟨w.heap.size + 1, 0, none⟩)), .slice la its.length lc, .bool false] 63)) (.cells #[.iface 58 (.pointer (some ⟨w.heap.size, 0, none⟩)), .iface 37 (.pointer (some ⟨w1.heap.size, 0, none⟩))] 43)
    simpa using h
  have hsz : ((w1.alloc (.cells #[.iface 64 (.pointer (some ⟨w.heap.size + 1, 0, none⟩)), .slice la its.length lc, .bool false] 63)).alloc (.cells #[.iface 58 (.pointer (some ⟨w.heap.size, 0, none⟩)), .iface 37 (.pointer (some ⟨w1.heap.size, 0, none⟩))] 43)).heap.size = w1.heap.size + 2 := by simp
  generalize hW : (w1.alloc (.cells #[.iface 64 (.pointer (some ⟨w.heap.size + 1, 0, none⟩)), .slice la its.length lc, .bool false] 63)).alloc (.cells #[.iface 58 (.pointer (some ⟨w.heap.size, 0, none⟩)), .iface 37 (.pointer (some ⟨w1.heap.size, 0, none⟩))] 43) = W at *
  have HW := Lib.hid hW
  have ht := mem_inner_open (b := W.heap.size) (d := 1) (m := w1.heap.size) (inn := []) (by omega) hmem hN' (by show w.heap.size < _; omega)
  have ha := args_mem (ret := .iface 64 (.pointer (some ⟨w.heap.size + 1, 0, none⟩))) hlt hft hpar hsl (p := w1.heap.size + 1) (o1 := c.data.toList ++ [58, 58, 42]) (fun w' sc text pr k1 k2 k5 k6 k7 => printInner_one innerOf_mem ht w' sc 40 text pr k1 k2 rfl k5 k6 k7)
  rw [jb_of ho] at ha
  have hpf := prints2_of printer_ft hft hlt (body_ft_ret (inn := [.iface 41 (.pointer (some ⟨w1.heap.size + 1, 0, none⟩))]) hlt hft (hB'.two _ _) (by show w.heap.size + 1 < _; omega) (by simp) ha)
  have hp := prints2_of printer_mem hmem (by omega) (body_mem_in (by omega) hmem hpf (by show w1.heap.size < _; omega))
  have HT := Lib.hid (toString_two hp trivial (by omega) (by
    simp only [List.length_append, ba_size, List.length_cons, List.length_nil]
    have := HZ.out
    omega))
  clear hft hpar hsl ha hp hpf ht hmem hs1 hn1 hb1 ho HF B1 hlt P0 hB' hN' hbW hsz
  subst hW
  clear HW
  go_wp2_with fail
  refine (HT.out).mono ?_
  rintro e w5 ⟨rfl, b5⟩
  have HX := Lib.hid (BX.out.trans (b5.mono BX.out.size))
  clear b5
  go_wp2_with fail
  go_ret
  exact ⟨ret_str (ba_ext (by simp [pb])), HX.out⟩

end Go.Proofs.YtcobcgkeojeagaaGreat
