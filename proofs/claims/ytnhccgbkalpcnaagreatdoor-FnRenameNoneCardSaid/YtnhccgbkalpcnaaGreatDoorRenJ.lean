/- Copy and nodeOf of every element; impl.Rename; that the call of FnRename returns true. -/
import Derived.Test.YtnhccgbkalpcnaaGreatDoorCopyA
import Derived.Test.YtnhccgbkalpcnaaGreatDoorCopyB
import Derived.Test.YtnhccgbkalpcnaaGreatDoorCopyJ
import Derived.Test.YtnhccgbkalpcnaaGreatDoorNodeK
import Derived.Test.YtnhccgbkalpcnaaGreatDoorNodeF
import Derived.Test.YtnhccgbkalpcnaaGreatDoorNodeG
import Derived.Test.YtnhccgbkalpcnaaGreatDoorNodeH
import Derived.Test.YtnhccgbkalpcnaaGreatDoorNodeI
import Derived.Test.YtnhccgbkalpcnaaGreatDoorHas
import Derived.Test.YtnhccgbkalpcnaaGreatDoorCopyD
import Derived.Test.YtnhccgbkalpcnaaGreatDoorTreeAll
import Derived.Test.YtnhccgbkalpcnaaGreatDoorNodeJ
import Derived.Test.YtnhccgbkalpcnaaGreatDoorSizeT
import Derived.Test.YtnhccgbkalpcnaaGreatDoorEnc4
namespace Go.Proofs.YtnhccgbkalpcnaaGreatDoor
open Go.RowKit

theorem hasKs_no {f : ByteArray} : ∀ {ks : List Tree}, hasKs f ks = false → ∀ t ∈ ks, hasK f t = false
  | [], _, _, h => by cases h
  | k :: r, h, t, ht => by
    rw [hasKs, Bool.or_eq_false_iff] at h
    rcases List.mem_cons.1 ht with rfl | ht
    · exact h.1
    · exact hasKs_no h.2 t ht
theorem hasK_kids {f k x : ByteArray} {n : Int} {ks : List Tree} (h : hasK f (.node k x n ks) = false) : ∀ t ∈ ks, hasK f t = false := by
  rw [hasK, Bool.or_eq_false_iff] at h
  exact hasKs_no h.2
theorem sz_kids {k x : ByteArray} {n : Int} {ks : List Tree} (h : (Tree.node k x n ks).sz ≤ 500) : ∀ t ∈ ks, t.sz ≤ 500 := fun t ht => by
  have := Tree.sz_lt (t := .node k x n ks) ht
  omega

theorem copy_all {fb tb sb : Nat} {f t s : ByteArray} {w0 : World} {I : Nat → Prop} {tr : Tree} {u : Value} (h : Rep w0 I tr u) (hv : hasK ⟨#[86, 101, 110, 100, 111, 114, 81, 117, 97, 108, 105, 102, 105, 101, 114]⟩ tr = false) (hz : tr.sz ≤ 500) : CopyOK fb tb sb f t s w0 I u (CopyR I f t s tr) := by
  revert hv hz
  induction h with
  | name s b hI hb =>
    intro hv hz
    exact copy_name s b hI hb
  | builtinType s b hI hb =>
    intro hv hz
    exact copy_builtinType s b hI hb
  | operator s b hI hb =>
    intro hv hz
    exact copy_operator s b hI hb
  | constructor b hI hb ha iha =>
    intro hv hz
    exact copy_constructor b hI hb ha (iha (hasK_kids hv _ (by simp)) (sz_kids hz _ (by simp)))
  | destructor b hI hb ha iha =>
    intro hv hz
    exact copy_destructor b hI hb ha (iha (hasK_kids hv _ (by simp)) (sz_kids hz _ (by simp)))
  | qualified b hI hb ha hc iha ihc =>
    intro hv hz
    exact copy_qualified b hI hb ha (iha (hasK_kids hv _ (by simp)) (sz_kids hz _ (by simp))) hc (ihc (hasK_kids hv _ (by simp)) (sz_kids hz _ (by simp)))
  | template b hI hb ha hs hm hl iha ihl =>
    intro hv hz
    exact copy_template b hI hb ha (iha (hasK_kids hv _ (by simp)) (sz_kids hz _ (by simp))) hs hm (by have h1 := len_szs0 ‹List Tree›; simp only [Tree.sz, Tree.szs] at hz; omega) hl (fun i h h2 => ihl i h h2 (hasK_kids hv _ (by simp)) (sz_kids hz _ (by simp)))
  | typed b hI hb ha hc iha ihc =>
    intro hv hz
    exact copy_typed b hI hb ha (iha (hasK_kids hv _ (by simp)) (sz_kids hz _ (by simp))) hc (ihc (hasK_kids hv _ (by simp)) (sz_kids hz _ (by simp)))
  | functionType b hI hb ha hs hm hl iha ihl =>
    intro hv hz
    exact copy_functionType b hI hb ha (iha (hasK_kids hv _ (by simp)) (sz_kids hz _ (by simp))) hs hm (by have h1 := len_szs0 ‹List Tree›; simp only [Tree.sz, Tree.szs] at hz; omega) hl (fun i h h2 => ihl i h h2 (hasK_kids hv _ (by simp)) (sz_kids hz _ (by simp)))
  | functionNil b hI hb hs hm hl ihl =>
    intro hv hz
    exact copy_functionNil b hI hb hs hm (by have h1 := len_szs0 ‹List Tree›; simp only [Tree.sz, Tree.szs] at hz; omega) hl (fun i h h2 => ihl i h h2 (hasK_kids hv _ (by simp)) (sz_kids hz _ (by simp)))
  | pointerType b hI hb ha iha =>
    intro hv hz
    exact copy_pointerType b hI hb ha (iha (hasK_kids hv _ (by simp)) (sz_kids hz _ (by simp)))
  | referenceType b hI hb ha iha =>
    intro hv hz
    exact copy_referenceType b hI hb ha (iha (hasK_kids hv _ (by simp)) (sz_kids hz _ (by simp)))
  | rvalueReferenceType b hI hb ha iha =>
    intro hv hz
    exact copy_rvalueReferenceType b hI hb ha (iha (hasK_kids hv _ (by simp)) (sz_kids hz _ (by simp)))
  | complexType b hI hb ha iha =>
    intro hv hz
    exact copy_complexType b hI hb ha (iha (hasK_kids hv _ (by simp)) (sz_kids hz _ (by simp)))
  | imaginaryType b hI hb ha iha =>
    intro hv hz
    exact copy_imaginaryType b hI hb ha (iha (hasK_kids hv _ (by simp)) (sz_kids hz _ (by simp)))
  | typeWithQualifiers b hI hb ha hq iha =>
    intro hv hz
    exact copy_typeWithQualifiers b hI hb ha (iha (hasK_kids hv _ (by simp)) (sz_kids hz _ (by simp))) hq (copy_quals (by have := sz_kids hz _ (show _ ∈ _ from List.mem_cons_of_mem _ (List.mem_singleton_self _)); omega) hq)
  | methodWithQualifiers s b hI hb ha hq iha =>
    intro hv hz
    exact copy_methodWithQualifiers s b hI hb ha (iha (hasK_kids hv _ (by simp)) (sz_kids hz _ (by simp))) hq (copy_quals (by have := sz_kids hz _ (show _ ∈ _ from List.mem_cons_of_mem _ (List.mem_singleton_self _)); omega) hq)
  | methodNil s b hI hb ha iha =>
    intro hv hz
    exact copy_methodNil s b hI hb ha (iha (hasK_kids hv _ (by simp)) (sz_kids hz _ (by simp)))
  | arrayType b hI hb ha hc iha ihc =>
    intro hv hz
    exact copy_arrayType b hI hb ha (iha (hasK_kids hv _ (by simp)) (sz_kids hz _ (by simp))) hc (ihc (hasK_kids hv _ (by simp)) (sz_kids hz _ (by simp)))
  | vectorType b hI hb ha hc iha ihc =>
    intro hv hz
    exact copy_vectorType b hI hb ha (iha (hasK_kids hv _ (by simp)) (sz_kids hz _ (by simp))) hc (ihc (hasK_kids hv _ (by simp)) (sz_kids hz _ (by simp)))
  | ptrMem b hI hb ha hc iha ihc =>
    intro hv hz
    exact copy_ptrMem b hI hb ha (iha (hasK_kids hv _ (by simp)) (sz_kids hz _ (by simp))) hc (ihc (hasK_kids hv _ (by simp)) (sz_kids hz _ (by simp)))
  | vendorQualifier b hI hb ha hc iha ihc =>
    intro hv hz
    rw [hasK, show ((⟨#[86, 101, 110, 100, 111, 114, 81, 117, 97, 108, 105, 102, 105, 101, 114]⟩ : ByteArray).toList == (⟨#[86, 101, 110, 100, 111, 114, 81, 117, 97, 108, 105, 102, 105, 101, 114]⟩ : ByteArray).toList) = true by kernel_rfl] at hv
    simp at hv
  | literal s n hn b hI hb ha iha =>
    intro hv hz
    exact copy_literal s n hn b hI hb ha (iha (hasK_kids hv _ (by simp)) (sz_kids hz _ (by simp)))
  | argumentPack b hI hb hs hm hl ihl =>
    intro hv hz
    exact copy_argumentPack b hI hb hs hm (by have h1 := len_szs0 ‹List Tree›; simp only [Tree.sz] at hz; omega) hl (fun i h h2 => ihl i h h2 (hasK_kids hv _ (by simp)) (sz_kids hz _ (by simp)))
  | closure n b hI hb hs hm hl he ihl =>
    intro hv hz
    exact copy_closure n b hI hb hs hm (by have h1 := len_szs0 ‹List Tree›; simp only [Tree.sz] at hz; omega) hl (fun i h h2 => ihl i h h2 (hasK_kids hv _ (by simp)) (sz_kids hz _ (by simp))) he
  | unnamedType n b hI hb =>
    intro hv hz
    exact copy_unnamedType n b hI hb
  | taggedName b hI hb ha hc iha ihc =>
    intro hv hz
    exact copy_taggedName b hI hb ha (iha (hasK_kids hv _ (by simp)) (sz_kids hz _ (by simp))) hc (ihc (hasK_kids hv _ (by simp)) (sz_kids hz _ (by simp)))
  | cast b hI hb ha iha =>
    intro hv hz
    exact copy_cast b hI hb ha (iha (hasK_kids hv _ (by simp)) (sz_kids hz _ (by simp)))

end Go.Proofs.YtnhccgbkalpcnaaGreatDoor

namespace Go.Proofs.YtnhccgbkalpcnaaGreatDoor
open Go.RowKit

theorem len_szs2 : ∀ (l : List Tree), l.length ≤ Tree.szs l
  | [] => Nat.zero_le _
  | k :: r => by
    have := len_szs2 r
    have h : 1 ≤ k.sz := by cases k; simp only [Tree.sz]; omega
    simp only [List.length_cons, Tree.szs]
    omega
theorem sz_kids9 {k x : ByteArray} {n : Int} {ks : List Tree} (h : (Tree.node k x n ks).sz ≤ 900) : ∀ t ∈ ks, t.sz ≤ 900 := fun t ht => by
  have := Tree.sz_lt (t := .node k x n ks) ht
  omega
theorem Rep.fi {w : World} {I : Nat → Prop} {t : Tree} {v : Value} (h : Rep w I t v) : ∃ T p, v = .iface T p := by
  obtain ⟨T, b, rfl, _⟩ := h.form
  exact ⟨_, _, rfl⟩
theorem RepQ.fi {w : World} {I : Nat → Prop} {t : Tree} {v : Value} (h : RepQ w I t v) : ∃ T p, v = .iface T p := by
  obtain ⟨qs, b, sv, kv, _, rfl, _⟩ := h
  exact ⟨_, _, rfl⟩
theorem one_of {u : Value} (h : ∃ T p, u = .iface T p) : u.oneCell' = true := by
  obtain ⟨T, p, rfl⟩ := h
  rfl
theorem all_one {l : List Tree} {kv : List Value} (hm : kv.length = l.length) (h : ∀ i (_h : i < l.length) (h2 : i < kv.length), ∃ T p, kv[i] = .iface T p) : ∀ u ∈ kv, u.oneCell' = true := fun u hu => by
  obtain ⟨i, hi, rfl⟩ := List.getElem_of_mem hu
  exact one_of (h i (by omega) hi)

theorem node_q1 {w0 : World} {I : Nat → Prop} {q : Tree} {v : Value} (h : RepQ1 w0 I q v) : MkOK w0 I q v := by
  obtain ⟨s, b, ev, rfl, rfl, hI, hb, he⟩ := h
  exact node_qualifier b hI hb he ⟨rfl, by simp, fun i h => by simp at h, fun u h => by simp at h⟩
theorem node_quals {w0 : World} {I : Nat → Prop} {q : Tree} {v : Value} (hz : q.sz ≤ 900) (h : RepQ w0 I q v) : MkOK w0 I q v := by
  obtain ⟨qs, b, sv, kv, rfl, rfl, hI, hb, hs, hm, hl⟩ := h
  refine node_qualifiers b hI hb hs ⟨hm, by have := len_szs2 qs; simp only [Tree.sz] at hz; omega, fun i h h2 => node_q1 (hl i h h2), all_one hm fun i h h2 => ?_⟩
  obtain ⟨T, p, e, _⟩ := (hl i h h2).form
  exact ⟨T, _, e⟩

/-- every element -/
theorem node_all {w0 : World} {I : Nat → Prop} {tr : Tree} {u : Value} (h : Rep w0 I tr u) (hz : tr.sz ≤ 900) : MkOK w0 I tr u := by
  revert hz
  induction h with
  | name s b hI hb =>
    intro hz
    exact node_name b hI hb
  | builtinType s b hI hb =>
    intro hz
    exact node_builtinType b hI hb
  | operator s b hI hb =>
    intro hz
    exact node_operator b hI hb
  | constructor b hI hb ha iha =>
    intro hz
    exact node_constructor b hI hb (iha (sz_kids9 hz _ (by simp))) ha.fi
  | destructor b hI hb ha iha =>
    intro hz
    exact node_destructor b hI hb (iha (sz_kids9 hz _ (by simp))) ha.fi
  | qualified b hI hb ha hc iha ihc =>
    intro hz
    exact node_qualified b hI hb (iha (sz_kids9 hz _ (by simp))) ha.fi (ihc (sz_kids9 hz _ (by simp))) hc.fi
  | template b hI hb ha hs hm hl iha ihl =>
    intro hz
    exact node_template b hI hb (iha (sz_kids9 hz _ (by simp))) ha.fi hs ⟨hm, (by have h1 := len_szs2 ‹List Tree›; simp only [Tree.sz, Tree.szs] at hz; omega), fun i h h2 => ihl i h h2 (sz_kids9 hz _ (by simp)), all_one hm fun i h h2 => (hl i h h2).fi⟩
  | typed b hI hb ha hc iha ihc =>
    intro hz
    exact node_typed b hI hb (iha (sz_kids9 hz _ (by simp))) ha.fi (ihc (sz_kids9 hz _ (by simp))) hc.fi
  | functionType b hI hb ha hs hm hl iha ihl =>
    intro hz
    exact node_functionType b hI hb (iha (sz_kids9 hz _ (by simp))) ha.fi hs ⟨hm, (by have h1 := len_szs2 ‹List Tree›; simp only [Tree.sz, Tree.szs] at hz; omega), fun i h h2 => ihl i h h2 (sz_kids9 hz _ (by simp)), all_one hm fun i h h2 => (hl i h h2).fi⟩
  | functionNil b hI hb hs hm hl ihl =>
    intro hz
    exact node_functionNil b hI hb hs ⟨hm, (by have h1 := len_szs2 ‹List Tree›; simp only [Tree.sz, Tree.szs] at hz; omega), fun i h h2 => ihl i h h2 (sz_kids9 hz _ (by simp)), all_one hm fun i h h2 => (hl i h h2).fi⟩
  | pointerType b hI hb ha iha =>
    intro hz
    exact node_pointerType b hI hb (iha (sz_kids9 hz _ (by simp))) ha.fi
  | referenceType b hI hb ha iha =>
    intro hz
    exact node_referenceType b hI hb (iha (sz_kids9 hz _ (by simp))) ha.fi
  | rvalueReferenceType b hI hb ha iha =>
    intro hz
    exact node_rvalueReferenceType b hI hb (iha (sz_kids9 hz _ (by simp))) ha.fi
  | complexType b hI hb ha iha =>
    intro hz
    exact node_complexType b hI hb (iha (sz_kids9 hz _ (by simp))) ha.fi
  | imaginaryType b hI hb ha iha =>
    intro hz
    exact node_imaginaryType b hI hb (iha (sz_kids9 hz _ (by simp))) ha.fi
  | typeWithQualifiers b hI hb ha hq iha =>
    intro hz
    exact node_typeWithQualifiers b hI hb (iha (sz_kids9 hz _ (by simp))) ha.fi (node_quals (sz_kids9 hz _ (List.mem_cons_of_mem _ (List.mem_singleton_self _))) hq) hq.fi
  | methodWithQualifiers s b hI hb ha hq iha =>
    intro hz
    exact node_methodWithQualifiers b hI hb (iha (sz_kids9 hz _ (by simp))) ha.fi (node_quals (sz_kids9 hz _ (List.mem_cons_of_mem _ (List.mem_singleton_self _))) hq) hq.fi
  | methodNil s b hI hb ha iha =>
    intro hz
    exact node_methodNil b hI hb (iha (sz_kids9 hz _ (by simp))) ha.fi
  | arrayType b hI hb ha hc iha ihc =>
    intro hz
    exact node_arrayType b hI hb (iha (sz_kids9 hz _ (by simp))) ha.fi (ihc (sz_kids9 hz _ (by simp))) hc.fi
  | vectorType b hI hb ha hc iha ihc =>
    intro hz
    exact node_vectorType b hI hb (iha (sz_kids9 hz _ (by simp))) ha.fi (ihc (sz_kids9 hz _ (by simp))) hc.fi
  | ptrMem b hI hb ha hc iha ihc =>
    intro hz
    exact node_ptrMem b hI hb (iha (sz_kids9 hz _ (by simp))) ha.fi (ihc (sz_kids9 hz _ (by simp))) hc.fi
  | vendorQualifier b hI hb ha hc iha ihc =>
    intro hz
    exact node_vendorQualifier b hI hb (iha (sz_kids9 hz _ (by simp))) ha.fi (ihc (sz_kids9 hz _ (by simp))) hc.fi
  | literal s n hn b hI hb ha iha =>
    intro hz
    exact node_literal b hI hb hn (iha (sz_kids9 hz _ (by simp))) ha.fi
  | argumentPack b hI hb hs hm hl ihl =>
    intro hz
    exact node_argumentPack b hI hb hs ⟨hm, (by have h1 := len_szs2 ‹List Tree›; simp only [Tree.sz] at hz; omega), fun i h h2 => ihl i h h2 (sz_kids9 hz _ (by simp)), all_one hm fun i h h2 => (hl i h h2).fi⟩
  | closure n b hI hb hs hm hl he ihl =>
    intro hz
    exact node_closure b hI hb hs ⟨hm, (by have h1 := len_szs2 ‹List Tree›; simp only [Tree.sz] at hz; omega), fun i h h2 => ihl i h h2 (sz_kids9 hz _ (by simp)), all_one hm fun i h h2 => (hl i h h2).fi⟩
  | unnamedType n b hI hb =>
    intro hz
    exact node_unnamedType b hI hb
  | taggedName b hI hb ha hc iha ihc =>
    intro hz
    exact node_taggedName b hI hb (iha (sz_kids9 hz _ (by simp))) ha.fi (ihc (sz_kids9 hz _ (by simp))) hc.fi
  | cast b hI hb ha iha =>
    intro hz
    exact node_cast b hI hb (iha (sz_kids9 hz _ (by simp))) ha.fi

end Go.Proofs.YtnhccgbkalpcnaaGreatDoor

namespace Go.Proofs.YtnhccgbkalpcnaaGreatDoor
open Go.RowKit

mutual
/-- an element that is the name -/
def hasN (f : ByteArray) : Tree → Bool
  | .node k x _ ks => (k.toList == [78, 97, 109, 101] && x.toList == f.toList) || hasNs f ks
def hasNs (f : ByteArray) : List Tree → Bool
  | [] => false
  | t :: r => hasN f t || hasNs f r
end


theorem hasNs_take (f : ByteArray) (ks : List Tree) {j : Nat} (h : j < ks.length) : hasNs f (ks.take (j + 1)) = (hasNs f (ks.take j) || hasN f ks[j]) := by
  induction ks generalizing j with
  | nil => simp at h
  | cons t r ih =>
    cases j with
    | zero => simp [hasNs]
    | succ j =>
      simp only [List.take_succ_cons, hasNs, List.getElem_cons_succ]
      rw [ih (by simpa using h), Bool.or_assoc]

theorem hasNs_mem (f : ByteArray) : ∀ {ks : List Tree} {t : Tree}, t ∈ ks → hasN f t = true → hasNs f ks = true
  | [], _, h, _ => by cases h
  | x :: r, t, h, h2 => by
    rw [hasNs]
    rcases List.mem_cons.1 h with rfl | h
    · rw [h2]; rfl
    · rw [hasNs_mem f h h2, Bool.or_true]

set_option maxRecDepth 100000 in
set_option maxHeartbeats 2000000 in
theorem hasName_any (W0 : World) (f : ByteArray) (t : Tree) : ∀ (v : Value), At W0 t v → ∀ w, Later W0 w → Calls Tryz.prog 16 #[v, .string f] w fun e w' => e = .returned (.bool (hasN f t)) ∧ Below w.heap.size w w' := by
  induction hn : t.sz using Nat.strongRecOn generalizing t with
  | ind m ih =>
  intro v hv w hw
  obtain ⟨k, x, n, ks⟩ := t
  obtain ⟨sv, rfl, a, c, rfl, hc1, hc2, hk⟩ := hv.kids
  have S0 := Lib.hid (St.start hw (.string k) (.string x) (.int .i64 n) (.slice a ks.length c))
  cases hkn : (k.toList == [78, 97, 109, 101]) with
  | false =>
    have hkf : (k.toList == [78, 97, 109, 101] && x.toList == f.toList) = false := by rw [hkn]; rfl
    have HM := Lib.hid (show hasN f (.node k x n ks) = hasNs f ks by rw [hasN, hkf]; simp)
    have HK := Lib.hid hk
    have IH := Lib.hid (fun (t : Tree) (ht : t ∈ ks) => ih t.sz (by rw [← hn]; exact Tree.sz_lt (t := .node k x n ks) ht) t rfl)
    have hnl : (ks.length : Int) ≤ 9223372036854775807 := by omega
    clear hk ih hn hv hc1 hc2
    go_enter Tryz.func16, Tryz.ntmps16
    go_wp2_with fail
    go_loopg [19] (ks.length) (fun k' i wr => ∃ j : Nat, j + k' = ks.length ∧ i = .int .i64 j ∧ Hid (hasNs f (ks.take j) = false) ∧ Hid (St W0 w (.string k) (.string x) (.int .i64 n) (.slice a ks.length c) wr))
    case atStart => exact ⟨0, by omega, rfl, rfl, S0.out⟩
    case round =>
      obtain ⟨j, hj, rfl, hno, hst⟩ := hrel
      by_cases hlt : j < ks.length
      · obtain ⟨b, off, rfl, hk⟩ := HK.out.resolve_left (by intro e; subst e; simp at hlt)
        obtain ⟨ka, kc, hkid, hat⟩ := hk j hlt
        obtain ⟨p0, p1, p2, p3⟩ := hkid wr hst.out.later
        have hst1 := hst.out.on (box_below wr (.cells #[.string ks[j].kind, .string ks[j].text, .int .i64 ks[j].num, .slice ka ks[j].kids.length kc] 24))
        have HC := Lib.hid (IH.out ks[j] (List.getElem_mem hlt) _ hat _ hst1.later)
        have HTK := Lib.hid (hasNs_take f ks hlt)
        have HS1 := Lib.hid hst1
        clear hk hkid hat hst1
        go_wp2_with fail
        refine (HC.out).mono ?_
        rintro e w2 ⟨rfl, b2⟩
        have HS2 := Lib.hid (HS1.out.on b2)
        clear b2 HC HS1 p0 p1 p2 p3
        cases hh : hasN f ks[j] with
        | true =>
          have HN := Lib.hid (show hasNs f ks = true from hasNs_mem f (List.getElem_mem hlt) hh)
          go_wp2_with fail
          go_ret
          exact ⟨by rw [HM.out, HN.out]; rfl, HS2.out.below⟩
        | false =>
          have HN := Lib.hid (show hasNs f (ks.take (j + 1)) = false by rw [HTK.out, hno.out, hh]; rfl)
          go_wp2_with fail
          go_roundg (gk - 1)
          case measure => omega
          case rel => exact ⟨j + 1, by omega, by go_num, HN.out, HS2.out⟩
      · have HN := Lib.hid (show hasNs f ks = false by have := hno.out; rwa [show ks.take j = ks from List.take_of_length_le (by omega)] at this)
        go_wp2_with fail
        go_ret
        exact ⟨by rw [HM.out, HN.out]; rfl, hst.out.below⟩
  | true =>
    cases hxf : (x.toList == f.toList) with
    | true =>
      have hkf : (k.toList == [78, 97, 109, 101] && x.toList == f.toList) = true := by rw [hkn, hxf]; rfl
      have HM := Lib.hid (show hasN f (.node k x n ks) = true by rw [hasN, hkf]; simp)
      clear hk ih hv
      go_enter Tryz.func16, Tryz.ntmps16
      go_wp2_with fail
      go_ret
      exact ⟨by rw [HM.out]; rfl, S0.out.below⟩
    | false =>
      have hkf : (k.toList == [78, 97, 109, 101] && x.toList == f.toList) = false := by rw [hkn, hxf]; rfl
      have HM := Lib.hid (show hasN f (.node k x n ks) = hasNs f ks by rw [hasN, hkf]; simp)
      have HK := Lib.hid hk
      have IH := Lib.hid (fun (t : Tree) (ht : t ∈ ks) => ih t.sz (by rw [← hn]; exact Tree.sz_lt (t := .node k x n ks) ht) t rfl)
      have hnl : (ks.length : Int) ≤ 9223372036854775807 := by omega
      clear hk ih hn hv hc1 hc2
      go_enter Tryz.func16, Tryz.ntmps16
      go_wp2_with fail
      go_loopg [19] (ks.length) (fun k' i wr => ∃ j : Nat, j + k' = ks.length ∧ i = .int .i64 j ∧ Hid (hasNs f (ks.take j) = false) ∧ Hid (St W0 w (.string k) (.string x) (.int .i64 n) (.slice a ks.length c) wr))
      case atStart => exact ⟨0, by omega, rfl, rfl, S0.out⟩
      case round =>
        obtain ⟨j, hj, rfl, hno, hst⟩ := hrel
        by_cases hlt : j < ks.length
        · obtain ⟨b, off, rfl, hk⟩ := HK.out.resolve_left (by intro e; subst e; simp at hlt)
          obtain ⟨ka, kc, hkid, hat⟩ := hk j hlt
          obtain ⟨p0, p1, p2, p3⟩ := hkid wr hst.out.later
          have hst1 := hst.out.on (box_below wr (.cells #[.string ks[j].kind, .string ks[j].text, .int .i64 ks[j].num, .slice ka ks[j].kids.length kc] 24))
          have HC := Lib.hid (IH.out ks[j] (List.getElem_mem hlt) _ hat _ hst1.later)
          have HTK := Lib.hid (hasNs_take f ks hlt)
          have HS1 := Lib.hid hst1
          clear hk hkid hat hst1
          go_wp2_with fail
          refine (HC.out).mono ?_
          rintro e w2 ⟨rfl, b2⟩
          have HS2 := Lib.hid (HS1.out.on b2)
          clear b2 HC HS1 p0 p1 p2 p3
          cases hh : hasN f ks[j] with
          | true =>
            have HN := Lib.hid (show hasNs f ks = true from hasNs_mem f (List.getElem_mem hlt) hh)
            go_wp2_with fail
            go_ret
            exact ⟨by rw [HM.out, HN.out]; rfl, HS2.out.below⟩
          | false =>
            have HN := Lib.hid (show hasNs f (ks.take (j + 1)) = false by rw [HTK.out, hno.out, hh]; rfl)
            go_wp2_with fail
            go_roundg (gk - 1)
            case measure => omega
            case rel => exact ⟨j + 1, by omega, by go_num, HN.out, HS2.out⟩
        · have HN := Lib.hid (show hasNs f ks = false by have := hno.out; rwa [show ks.take j = ks from List.take_of_length_le (by omega)] at this)
          go_wp2_with fail
          go_ret
          exact ⟨by rw [HM.out, HN.out]; rfl, hst.out.below⟩

end Go.Proofs.YtnhccgbkalpcnaaGreatDoor

namespace Go.Proofs.YtnhccgbkalpcnaaGreatDoor
open Go.RowKit

mutual
theorem ren_turns (f t s : ByteArray) (hne : f ≠ t) : ∀ (a : Tree), hitT f s a = true → renT f t s a ≠ a
  | .node k x n ks, h => by
    intro e
    rw [hitT, Bool.and_eq_true] at h
    have h1 : (k.toList == s.toList) = false := by simpa using h.1
    rw [renT, h1] at e
    cases hx : (k.toList == [78, 97, 109, 101] && x.toList == f.toList) with
    | true =>
      rw [hx] at e
      simp only [Bool.false_eq_true, if_false, if_true, Tree.node.injEq] at e
      rw [Bool.and_eq_true] at hx
      have h3 : x.toList = f.toList := by simpa using hx.2
      exact hne (((str_of (rfl : f.toList = f.toList)).trans (str_of h3).symm).trans e.2.1.symm)
    | false =>
      rw [hx] at e
      simp only [Bool.false_eq_true, if_false, Tree.node.injEq, true_and] at e
      rw [hx, Bool.false_or] at h
      exact renL_turns f t s hne ks h.2 e
theorem renL_turns (f t s : ByteArray) (hne : f ≠ t) : ∀ (l : List Tree), hitL f s l = true → renL f t s l ≠ l
  | [], h => by rw [hitL] at h; cases h
  | a :: r, h => by
    intro e
    rw [hitL, Bool.or_eq_true] at h
    rw [renL] at e
    have e1 := (List.cons.inj e).1
    have e2 := (List.cons.inj e).2
    rcases h with h | h
    · exact ren_turns f t s hne a h e1
    · exact renL_turns f t s hne r h e2
end

/-- exact: the tree turns just where there is a name to be replaced -/
theorem ren_iff (f t s : ByteArray) (hne : f ≠ t) (a : Tree) : renT f t s a = a ↔ hitT f s a = false :=
  ⟨fun e => by
    cases h : hitT f s a with
    | false => rfl
    | true => exact absurd e (ren_turns f t s hne a h), ren_same f t s a⟩

mutual
theorem ren_sz (f t s : ByteArray) : ∀ (a : Tree), (renT f t s a).sz ≤ a.sz
  | .node k x n ks => by
    rw [renT]
    split
    · exact Nat.le_refl _
    · split
      · simp only [Tree.sz, Tree.szs]; omega
      · have := renL_sz f t s ks
        simp only [Tree.sz]; omega
theorem renL_sz (f t s : ByteArray) : ∀ (l : List Tree), Tree.szs (renL f t s l) ≤ Tree.szs l
  | [] => by rw [renL]; exact Nat.le_refl _
  | a :: r => by
    rw [renL]
    have h1 := ren_sz f t s a
    have h2 := renL_sz f t s r
    simp only [Tree.szs]; omega
end

def noneT : ByteArray := ⟨#[110, 111, 110, 101]⟩
/-- no element here is of the kind "none" -/
def NoNone (f : ByteArray) (t : Tree) : Prop := hitT f noneT t = hasN f t
theorem nn_node (f k x : ByteArray) (n : Int) (ks : List Tree) (hk : (k.toList == noneT.toList) = false) (h : hitL f noneT ks = hasNs f ks) : NoNone f (.node k x n ks) := by
  unfold NoNone
  rw [hitT, hasN, hk, h]
  simp
theorem nn_list (f : ByteArray) : ∀ (l : List Tree), (∀ t ∈ l, NoNone f t) → hitL f noneT l = hasNs f l
  | [], _ => by rw [hitL, hasNs]
  | a :: r, h => by rw [hitL, hasNs, show hitT f noneT a = hasN f a from h a (by simp), nn_list f r fun t ht => h t (by simp [ht])]
theorem nn_nil (f : ByteArray) : NoNone f nilT := nn_node f _ _ _ _ (by kernel_rfl) (by rw [hitL, hasNs])
theorem nn_quals (f : ByteArray) {q : Tree} (h : Quals q) : NoNone f q := by
  obtain ⟨qs, rfl, hq⟩ := h
  refine nn_node f _ _ _ _ (by kernel_rfl) (nn_list f qs fun t ht => ?_)
  obtain ⟨s, rfl⟩ := hq t ht
  exact nn_node f _ _ _ _ (by kernel_rfl) (by rw [hitL, hasNs])
theorem nn_one {f : ByteArray} {a : Tree} (h : NoNone f a) : ∀ t ∈ [a], NoNone f t := fun t ht => by
  obtain rfl : t = a := by simpa using ht
  exact h
theorem nn_cons {f : ByteArray} {a : Tree} {l : List Tree} (h : NoNone f a) (hl : ∀ t ∈ l, NoNone f t) : ∀ t ∈ a :: l, NoNone f t := fun t ht => by
  rcases List.mem_cons.1 ht with rfl | ht
  · exact h
  · exact hl t ht

/-- for a good tree: a name that may be replaced everywhere is just a name -/
theorem none_good (f : ByteArray) {t : Tree} (hg : Good t) : NoNone f t := by
  induction hg with
  | name s => exact nn_node f _ _ _ _ (by kernel_rfl) (nn_list f _ (fun t h => by cases h))
  | builtinType s => exact nn_node f _ _ _ _ (by kernel_rfl) (nn_list f _ (fun t h => by cases h))
  | operator s => exact nn_node f _ _ _ _ (by kernel_rfl) (nn_list f _ (fun t h => by cases h))
  | constructor _ ia => exact nn_node f _ _ _ _ (by kernel_rfl) (nn_list f _ (nn_one ia))
  | destructor _ ia => exact nn_node f _ _ _ _ (by kernel_rfl) (nn_list f _ (nn_one ia))
  | qualified _ _ ia ic => exact nn_node f _ _ _ _ (by kernel_rfl) (nn_list f _ (nn_cons ia (nn_one ic)))
  | template _ _ ia il => exact nn_node f _ _ _ _ (by kernel_rfl) (nn_list f _ (nn_cons ia il))
  | typed _ _ ia ic => exact nn_node f _ _ _ _ (by kernel_rfl) (nn_list f _ (nn_cons ia (nn_one ic)))
  | functionType _ _ ia il => exact nn_node f _ _ _ _ (by kernel_rfl) (nn_list f _ (nn_cons ia il))
  | functionNil _ il => exact nn_node f _ _ _ _ (by kernel_rfl) (nn_list f _ (nn_cons (nn_nil f) il))
  | pointerType _ ia => exact nn_node f _ _ _ _ (by kernel_rfl) (nn_list f _ (nn_one ia))
  | referenceType _ ia => exact nn_node f _ _ _ _ (by kernel_rfl) (nn_list f _ (nn_one ia))
  | rvalueReferenceType _ ia => exact nn_node f _ _ _ _ (by kernel_rfl) (nn_list f _ (nn_one ia))
  | complexType _ ia => exact nn_node f _ _ _ _ (by kernel_rfl) (nn_list f _ (nn_one ia))
  | imaginaryType _ ia => exact nn_node f _ _ _ _ (by kernel_rfl) (nn_list f _ (nn_one ia))
  | typeWithQualifiers _ hq ia => exact nn_node f _ _ _ _ (by kernel_rfl) (nn_list f _ (nn_cons ia (nn_one (nn_quals f hq))))
  | methodWithQualifiers s _ hq ia => exact nn_node f _ _ _ _ (by kernel_rfl) (nn_list f _ (nn_cons ia (nn_one (hq.elim (nn_quals f) (fun h => h ▸ nn_nil f)))))
  | arrayType _ _ ia ic => exact nn_node f _ _ _ _ (by kernel_rfl) (nn_list f _ (nn_cons ia (nn_one ic)))
  | vectorType _ _ ia ic => exact nn_node f _ _ _ _ (by kernel_rfl) (nn_list f _ (nn_cons ia (nn_one ic)))
  | ptrMem _ _ ia ic => exact nn_node f _ _ _ _ (by kernel_rfl) (nn_list f _ (nn_cons ia (nn_one ic)))
  | vendorQualifier _ _ ia ic => exact nn_node f _ _ _ _ (by kernel_rfl) (nn_list f _ (nn_cons ia (nn_one ic)))
  | literal s hn _ ia => exact nn_node f _ _ _ _ (by kernel_rfl) (nn_list f _ (nn_one ia))
  | argumentPack _ il => exact nn_node f _ _ _ _ (by kernel_rfl) (nn_list f _ il)
  | closure n _ il => exact nn_node f _ _ _ _ (by kernel_rfl) (nn_list f _ il)
  | unnamedType n => exact nn_node f _ _ _ _ (by kernel_rfl) (nn_list f _ (fun t h => by cases h))
  | taggedName _ _ ia ic => exact nn_node f _ _ _ _ (by kernel_rfl) (nn_list f _ (nn_cons ia (nn_one ic)))
  | cast _ ia => exact nn_node f _ _ _ _ (by kernel_rfl) (nn_list f _ (nn_one ia))

end Go.Proofs.YtnhccgbkalpcnaaGreatDoor

namespace Go.Proofs.YtnhccgbkalpcnaaGreatDoor
open Go.RowKit

/-- what Rename gives -/
def RenameR (f t s : ByteArray) (tr : Tree) (w w' : World) (e : Ending) : Prop := Below w.heap.size w w' ∧
  ((hitT f s tr = false ∧ e = .returned (.tuple #[.agg #[.string ⟨#[]⟩, .string ⟨#[]⟩, .int .i64 0, .slice none 0 0], .bool false])) ∨
    (hitT f s tr = true ∧ ∃ a n c, e = .returned (.tuple #[nv (renT f t s tr) (.slice a n c), .bool true]) ∧ In w' (renT f t s tr) (nv (renT f t s tr) (.slice a n c))))

set_option maxRecDepth 100000 in
set_option maxHeartbeats 4000000 in
theorem rename_ok (W0 : World) {tr : Tree} (hg : Good tr) (hz : tr.sz ≤ 200) (hv : hasK ⟨#[86, 101, 110, 100, 111, 114, 81, 117, 97, 108, 105, 102, 105, 101, 114]⟩ tr = false) (f t s : ByteArray) : ∀ v, At W0 tr v → ∀ w, Later W0 w →
    Calls Tryz.prog 14 #[v, .string f, .string t, .string s] w fun e w' => RenameR f t s tr w w' e := by
  intro v hat w hw
  have K0 := Lib.hid (fun W hW => treeOf_good W0 hg (by omega) _ hat W hW)
  obtain ⟨a0, c0, hv0, _⟩ := hat.lay
  have hv1 : v = .agg #[.string tr.kind, .string tr.text, .int .i64 tr.num, .slice a0 tr.kids.length c0] := hv0
  subst hv1
  clear hv0
  have S0 := St.start hw (.string tr.kind) (.string tr.text) (.int .i64 tr.num) (.slice a0 tr.kids.length c0)
  have S5 := Lib.hid ((((S0.on (box_below (w.alloc (.cells #[.string tr.kind, .string tr.text, .int .i64 tr.num, .slice a0 tr.kids.length c0] 24)) (.cells #[.string f] 9))).on (box_below ((w.alloc (.cells #[.string tr.kind, .string tr.text, .int .i64 tr.num, .slice a0 tr.kids.length c0] 24)).alloc (.cells #[.string f] 9)) (.cells #[.string t] 9))).on (box_below (((w.alloc (.cells #[.string tr.kind, .string tr.text, .int .i64 tr.num, .slice a0 tr.kids.length c0] 24)).alloc (.cells #[.string f] 9)).alloc (.cells #[.string t] 9)) (.cells #[.string s] 9))).on (box_below ((((w.alloc (.cells #[.string tr.kind, .string tr.text, .int .i64 tr.num, .slice a0 tr.kids.length c0] 24)).alloc (.cells #[.string f] 9)).alloc (.cells #[.string t] 9)).alloc (.cells #[.string s] 9)) (.cells #[.string ⟨#[]⟩, .string ⟨#[]⟩, .int .i64 0, .slice none 0 0] 24)))
  have E1 : (((((w.alloc (.cells #[.string tr.kind, .string tr.text, .int .i64 tr.num, .slice a0 tr.kids.length c0] 24)).alloc (.cells #[.string f] 9)).alloc (.cells #[.string t] 9)).alloc (.cells #[.string s] 9)).alloc (.cells #[.string ⟨#[]⟩, .string ⟨#[]⟩, .int .i64 0, .slice none 0 0] 24)).heap[w.heap.size + 1]? = some (.cells #[.string f] 9 (0, 0)) := by
    rw [Below.heap_alloc _ _ _ (by simp), Below.heap_alloc _ _ _ (by simp), Below.heap_alloc _ _ _ (by simp)]
    simpa using heap_alloc_new (w.alloc (.cells #[.string tr.kind, .string tr.text, .int .i64 tr.num, .slice a0 tr.kids.length c0] 24)) (.cells #[.string f] 9)
  have E2 : (((((w.alloc (.cells #[.string tr.kind, .string tr.text, .int .i64 tr.num, .slice a0 tr.kids.length c0] 24)).alloc (.cells #[.string f] 9)).alloc (.cells #[.string t] 9)).alloc (.cells #[.string s] 9)).alloc (.cells #[.string ⟨#[]⟩, .string ⟨#[]⟩, .int .i64 0, .slice none 0 0] 24)).heap[w.heap.size + 2]? = some (.cells #[.string t] 9 (0, 0)) := by
    rw [Below.heap_alloc _ _ _ (by simp), Below.heap_alloc _ _ _ (by simp)]
    simpa using heap_alloc_new ((w.alloc (.cells #[.string tr.kind, .string tr.text, .int .i64 tr.num, .slice a0 tr.kids.length c0] 24)).alloc (.cells #[.string f] 9)) (.cells #[.string t] 9)
  have E3 : (((((w.alloc (.cells #[.string tr.kind, .string tr.text, .int .i64 tr.num, .slice a0 tr.kids.length c0] 24)).alloc (.cells #[.string f] 9)).alloc (.cells #[.string t] 9)).alloc (.cells #[.string s] 9)).alloc (.cells #[.string ⟨#[]⟩, .string ⟨#[]⟩, .int .i64 0, .slice none 0 0] 24)).heap[w.heap.size + 3]? = some (.cells #[.string s] 9 (0, 0)) := by
    rw [Below.heap_alloc _ _ _ (by simp)]
    simpa using heap_alloc_new (((w.alloc (.cells #[.string tr.kind, .string tr.text, .int .i64 tr.num, .slice a0 tr.kids.length c0] 24)).alloc (.cells #[.string f] 9)).alloc (.cells #[.string t] 9)) (.cells #[.string s] 9)
  have R5 : (((((w.alloc (.cells #[.string tr.kind, .string tr.text, .int .i64 tr.num, .slice a0 tr.kids.length c0] 24)).alloc (.cells #[.string f] 9)).alloc (.cells #[.string t] 9)).alloc (.cells #[.string s] 9)).alloc (.cells #[.string ⟨#[]⟩, .string ⟨#[]⟩, .int .i64 0, .slice none 0 0] 24)).heap[w.heap.size + 4]? = some (.cells #[.string ⟨#[]⟩, .string ⟨#[]⟩, .int .i64 0, .slice none 0 0] 24 (0, 0)) := by
    simpa using heap_alloc_new ((((w.alloc (.cells #[.string tr.kind, .string tr.text, .int .i64 tr.num, .slice a0 tr.kids.length c0] 24)).alloc (.cells #[.string f] 9)).alloc (.cells #[.string t] 9)).alloc (.cells #[.string s] 9)) (.cells #[.string ⟨#[]⟩, .string ⟨#[]⟩, .int .i64 0, .slice none 0 0] 24)
  have EN := Lib.hid (show Env (((((w.alloc (.cells #[.string tr.kind, .string tr.text, .int .i64 tr.num, .slice a0 tr.kids.length c0] 24)).alloc (.cells #[.string f] 9)).alloc (.cells #[.string t] 9)).alloc (.cells #[.string s] 9)).alloc (.cells #[.string ⟨#[]⟩, .string ⟨#[]⟩, .int .i64 0, .slice none 0 0] 24)) (w.heap.size + 1) (w.heap.size + 2) (w.heap.size + 3) f t s from ⟨E1, E2, E3⟩)
  have RR := Lib.hid R5
  have HVQ := Lib.hid hv
  have HZ := Lib.hid hz
  obtain ⟨W5, hW5⟩ : ∃ W5, W5 = (((((w.alloc (.cells #[.string tr.kind, .string tr.text, .int .i64 tr.num, .slice a0 tr.kids.length c0] 24)).alloc (.cells #[.string f] 9)).alloc (.cells #[.string t] 9)).alloc (.cells #[.string s] 9)).alloc (.cells #[.string ⟨#[]⟩, .string ⟨#[]⟩, .int .i64 0, .slice none 0 0] 24)) := ⟨_, rfl⟩
  clear hat hw S0 E1 E2 E3 R5 hg hv hz
  go_enter Tryz.func14, Tryz.ntmps14
  go_wp2_with fail
  rw [← hW5] at S5 EN RR ⊢
  clear hW5
  refine (K0.out _ S5.out.later).mono ?_
  rintro e w6 ⟨u, rfl, r6, b6⟩
  have C6 := copy_all (fb := w.heap.size + 1) (tb := w.heap.size + 2) (sb := w.heap.size + 3) (f := f) (t := t) (s := s) r6 HVQ.out (by have := HZ.out; omega)
  obtain ⟨Tu, gu, qu, rfl, mu, cu, hc⟩ := C6
  have CU := Lib.hid (hc w6 (Same.refl _ _) (fun _ h => h.2) (EN.out.on b6))
  have S6 := Lib.hid (S5.out.on b6)
  have R6 := Lib.hid (blk_later RR.out b6)
  clear hc b6 K0 r6 EN RR S5
  go_wp2_with fail
  refine (CU.out).mono ?_
  rintro e w7 ⟨b7, v7, rfl, hres⟩
  have S7 := Lib.hid (S6.out.on b7)
  have R7 := blk_later R6.out b7
  clear b7 CU S6 R6 mu cu
  rcases hres with ⟨hh, rfl⟩ | ⟨hh, hr⟩
  · have hnil := fun W => nil_yes W
    have fr : ∀ i, w7.frozen? ⟨w.heap.size + 4, i, none⟩ = false := fun i => by simp [World.frozen?, R7]
    obtain ⟨z0, z1, z2, z3⟩ : w7.cell? ⟨w.heap.size + 4, 0, none⟩ = some (.string ⟨#[]⟩) ∧ w7.cell? ⟨w.heap.size + 4, 1, none⟩ = some (.string ⟨#[]⟩) ∧ w7.cell? ⟨w.heap.size + 4, 2, none⟩ = some (.int .i64 0) ∧ w7.cell? ⟨w.heap.size + 4, 3, none⟩ = some (.slice none 0 0) := by simp [World.cell?, R7]
    have X := Lib.hid (show ∀ a b c d, Below w.heap.size w ((((w7.setCell ⟨w.heap.size + 4, 0, none⟩ a).setCell ⟨w.heap.size + 4, 1, none⟩ b).setCell ⟨w.heap.size + 4, 2, none⟩ c).setCell ⟨w.heap.size + 4, 3, none⟩ d) from fun a b c d =>
      S7.out.below.trans (((((Below.refl _ w7).setCell (p := ⟨w.heap.size + 4, 0, none⟩) (by simp) a).setCell (p := ⟨w.heap.size + 4, 1, none⟩) (by simp) b).setCell (p := ⟨w.heap.size + 4, 2, none⟩) (by simp) c).setCell (p := ⟨w.heap.size + 4, 3, none⟩) (by simp) d))
    have HH := Lib.hid hh
    clear R7 hh
    go_wp2_with fail
    (try simp only [Exit.inBlock, Exit.then])
    refine bodyPost_ret (by simp [results, Tryz.results14, go_sem, z0, z1, z2, z3]; try rfl) rfl ?_
    exact ⟨X.out _ _ _ _, .inl ⟨HH.out, rfl⟩⟩
  · have hrf := Rep.form hr
    obtain ⟨T8, q8, rfl, _⟩ := hrf
    have hno := fun W => nil_no T8 ⟨q8, 0, none⟩ W
    have HN := Lib.hid (node_all hr (by have := HZ.out; have := ren_sz f t s tr; omega) w7 ⟨Same.refl _ _, fun _ h => h.2⟩)
    have HH := Lib.hid hh
    have R7h := Lib.hid R7
    clear hr hh R7
    go_wp2_with fail
    refine (HN.out).mono ?_
    rintro e w8 ⟨⟨kv8, rfl, h8⟩, b8⟩
    obtain ⟨a8, c8, hk8⟩ := IsT.form h8
    have hk8' : kv8 = .slice a8 (renT f t s tr).kids.length c8 := by simpa [nv] using hk8
    subst hk8'
    have R8 := blk_later R7h.out b8
    have S8 := Lib.hid (S7.out.on b8)
    have fr : ∀ i, w8.frozen? ⟨w.heap.size + 4, i, none⟩ = false := fun i => by simp [World.frozen?, R8]
    obtain ⟨z0, z1, z2, z3⟩ : w8.cell? ⟨w.heap.size + 4, 0, none⟩ = some (.string ⟨#[]⟩) ∧ w8.cell? ⟨w.heap.size + 4, 1, none⟩ = some (.string ⟨#[]⟩) ∧ w8.cell? ⟨w.heap.size + 4, 2, none⟩ = some (.int .i64 0) ∧ w8.cell? ⟨w.heap.size + 4, 3, none⟩ = some (.slice none 0 0) := by simp [World.cell?, R8]
    have hlt7 := lt_of_block R7h.out
    have X := Lib.hid (show ∀ a b c d, Below w.heap.size w ((((w8.setCell ⟨w.heap.size + 4, 0, none⟩ a).setCell ⟨w.heap.size + 4, 1, none⟩ b).setCell ⟨w.heap.size + 4, 2, none⟩ c).setCell ⟨w.heap.size + 4, 3, none⟩ d) ∧
        In ((((w8.setCell ⟨w.heap.size + 4, 0, none⟩ a).setCell ⟨w.heap.size + 4, 1, none⟩ b).setCell ⟨w.heap.size + 4, 2, none⟩ c).setCell ⟨w.heap.size + 4, 3, none⟩ d) (renT f t s tr) (nv (renT f t s tr) (.slice a8 (renT f t s tr).kids.length c8)) from fun a b c d =>
      ⟨S8.out.below.trans (((((Below.refl _ w8).setCell (p := ⟨w.heap.size + 4, 0, none⟩) (by simp) a).setCell (p := ⟨w.heap.size + 4, 1, none⟩) (by simp) b).setCell (p := ⟨w.heap.size + 4, 2, none⟩) (by simp) c).setCell (p := ⟨w.heap.size + 4, 3, none⟩) (by simp) d), by
        refine (IsT.same (fun i hi => ?_) h8).mono fun i hi => by simpa [World.setCell] using hi.2
        have hi2 := hi.1.resolve_left (fun h => h.elim)
        have hne : i ≠ w.heap.size + 4 := by omega
        rw [Below.heap_setCell _ _ _ _ hne, Below.heap_setCell _ _ _ _ hne, Below.heap_setCell _ _ _ _ hne, Below.heap_setCell _ _ _ _ hne]⟩)
    clear h8 b8 R8 hk8
    obtain ⟨RT, hRT⟩ : ∃ RT, RT = renT f t s tr := ⟨_, rfl⟩
    rw [← hRT] at X ⊢
    have HRT := Lib.hid hRT
    clear hRT
    go_wp2_with fail
    (try simp only [Exit.inBlock, Exit.then])
    refine bodyPost_ret (by simp [results, Tryz.results14, go_sem, z0, z1, z2, z3]; try rfl) rfl ?_
    unfold RenameR
    rw [← HRT.out]
    exact ⟨(X.out _ _ _ _).1, .inr ⟨HH.out, _, _, _, rfl, (X.out _ _ _ _).2⟩⟩

end Go.Proofs.YtnhccgbkalpcnaaGreatDoor

namespace Go.Proofs.YtnhccgbkalpcnaaGreatDoor
open Go.RowKit

theorem rename_no (W0 : World) {tr : Tree} (hg : Good tr) (hz : tr.sz ≤ 200) (hv : hasK ⟨#[86, 101, 110, 100, 111, 114, 81, 117, 97, 108, 105, 102, 105, 101, 114]⟩ tr = false) (f t s : ByteArray) (hh : hitT f s tr = false) : ∀ v, At W0 tr v → ∀ w, Later W0 w →
    Calls Tryz.prog 14 #[v, .string f, .string t, .string s] w fun e w' => e = .returned (.tuple #[.agg #[.string ⟨#[]⟩, .string ⟨#[]⟩, .int .i64 0, .slice none 0 0], .bool false]) ∧ Below w.heap.size w w' := fun v hv' w hw => by
  refine (rename_ok W0 hg hz hv f t s v hv' w hw).mono ?_
  rintro e w' ⟨b, h | h⟩
  · exact ⟨h.2, b⟩
  · rw [hh] at h; cases h.1
theorem rename_yes (W0 : World) {tr : Tree} (hg : Good tr) (hz : tr.sz ≤ 200) (hv : hasK ⟨#[86, 101, 110, 100, 111, 114, 81, 117, 97, 108, 105, 102, 105, 101, 114]⟩ tr = false) (f t s : ByteArray) (hh : hitT f s tr = true) : ∀ v, At W0 tr v → ∀ w, Later W0 w →
    Calls Tryz.prog 14 #[v, .string f, .string t, .string s] w fun e w' => (∃ a n c, e = .returned (.tuple #[.agg #[.string (renT f t s tr).kind, .string (renT f t s tr).text, .int .i64 (renT f t s tr).num, .slice a n c], .bool true]) ∧ In w' (renT f t s tr) (.agg #[.string (renT f t s tr).kind, .string (renT f t s tr).text, .int .i64 (renT f t s tr).num, .slice a n c])) ∧ Below w.heap.size w w' := fun v hv' w hw => by
  refine (rename_ok W0 hg hz hv f t s v hv' w hw).mono ?_
  rintro e w' ⟨b, h | h⟩
  · rw [hh] at h; cases h.1
  · exact ⟨h.2, b⟩
theorem same_true (w : World) (s t : Tree) (vs vt : Value) (hs : In w s vs) (ht : In w t vt) (h : s = t) : Calls Tryz.prog 15 #[vs, vt] w fun e w' => e = .returned (.bool true) ∧ Below w.heap.size w w' := by
  refine (same_tells w s t vs vt hs ht).mono ?_
  rintro e w' ⟨⟨r, rfl, hr⟩, b⟩
  rw [hr.2 h]
  exact ⟨rfl, b⟩
theorem same_false (w : World) (s t : Tree) (vs vt : Value) (hs : In w s vs) (ht : In w t vt) (h : ¬ s = t) : Calls Tryz.prog 15 #[vs, vt] w fun e w' => e = .returned (.bool false) ∧ Below w.heap.size w w' := by
  refine (same_tells w s t vs vt hs ht).mono ?_
  rintro e w' ⟨⟨r, rfl, hr⟩, b⟩
  cases r with
  | false => exact ⟨rfl, b⟩
  | true => exact absurd (hr.1 rfl) h

set_option maxRecDepth 100000 in
set_option maxHeartbeats 2000000 in
theorem copied_any (W0 : World) (tr : Tree) : Test W0 12 tr (hasK ⟨#[86, 101, 110, 100, 111, 114, 81, 117, 97, 108, 105, 102, 105, 101, 114]⟩ tr = false) := by
  intro v hv w hw
  have HA := Lib.hid (fun W hW => has_any W0 ⟨#[86, 101, 110, 100, 111, 114, 81, 117, 97, 108, 105, 102, 105, 101, 114]⟩ tr v hv W hW)
  obtain ⟨a0, c0, hv0, _⟩ := hv.lay
  have hv1 : v = .agg #[.string tr.kind, .string tr.text, .int .i64 tr.num, .slice a0 tr.kids.length c0] := hv0
  subst hv1
  clear hv0
  have S0 := Lib.hid (St.start hw (.string tr.kind) (.string tr.text) (.int .i64 tr.num) (.slice a0 tr.kids.length c0))
  clear hv hw
  go_enter Tryz.func12, Tryz.ntmps12
  go_wp2_with fail
  refine (HA.out _ S0.out.later).mono ?_
  rintro e w1 ⟨rfl, b⟩
  have S1 := Lib.hid (S0.out.on b)
  clear b HA
  cases hh : hasK ⟨#[86, 101, 110, 100, 111, 114, 81, 117, 97, 108, 105, 102, 105, 101, 114]⟩ tr with
  | true =>
    go_wp2_with fail
    go_ret
    exact ⟨says_no rfl, S1.out.below⟩
  | false =>
    go_wp2_with fail
    go_ret
    exact ⟨⟨_, rfl, fun _ => hh⟩, S1.out.below⟩

set_option maxRecDepth 100000 in
set_option maxHeartbeats 2000000 in
theorem isT_nv {w : World} {I : Nat → Prop} {t : Tree} {kv : Value} (h : IsT w I t (.agg #[.string t.kind, .string t.text, .int .i64 t.num, kv])) : ∃ a c, kv = .slice a t.kids.length c := by
  obtain ⟨a, c, e⟩ := IsT.form h
  exact ⟨a, c, by simpa [nv] using e⟩
theorem blk4 {w : World} {b : Nat} {x y z u : Value} (h : w.heap[b]? = some (.cells #[x, y, z, u] 24 (0, 0))) : w.cell? ⟨b, 0, none⟩ = some x ∧ w.cell? ⟨b, 1, none⟩ = some y ∧ w.cell? ⟨b, 2, none⟩ = some z ∧ w.cell? ⟨b, 3, none⟩ = some u := by simp [World.cell?, h]

set_option maxRecDepth 100000 in
set_option maxHeartbeats 4000000 in
theorem fnRename_walk (W0 : World) (hb1 : 1 < W0.heap.size) (tr : Tree) (v : Value) (hv : At W0 tr v) (f t s : ByteArray) (w : World) (hw : Later W0 w) : Calls Tryz.prog 4 #[v, .string f, .string t, .string s] w fun e w' => e = .returned (.bool true) ∧ Below w.heap.size w w' := by
  have I1 := Lib.hid (fits2_any W0 tr _ hv)
  have I2 := Lib.hid (small_any W0 tr _ hv)
  have I3 := Lib.hid (encoding_good W0 hb1 tr _ hv)
  have I4 := Lib.hid (copied_any W0 tr _ hv)
  have HAT := Lib.hid (fun W hW => At.in_ (W0 := W0) (w := W) hv hW)
  have HV := Lib.hid hv
  have HRN := Lib.hid (fun (hz : tr.sz ≤ 500) W hW => renamed_ok W0 f t s tr hz _ hv W hW)
  obtain ⟨a0, c0, hv0, _⟩ := hv.lay
  have hv1 : v = .agg #[.string tr.kind, .string tr.text, .int .i64 tr.num, .slice a0 tr.kids.length c0] := hv0
  subst hv1
  clear hv0
  have S0 := Lib.hid (St.start hw (.string tr.kind) (.string tr.text) (.int .i64 tr.num) (.slice a0 tr.kids.length c0))
  clear hv hw
  go_enter Tryz.func4, Tryz.ntmps4
  go_wp2_with fail
  refine (I1.out _ S0.out.later).mono ?_
  rintro e w1 ⟨⟨r, rfl, hr⟩, b⟩
  have S1 := Lib.hid (S0.out.on b)
  clear b
  try clear x0 x1 x2 x3
  cases r with
  | false =>
    clear hr
    obtain ⟨x0, x1, x2, x3⟩ := S1.out.box
    go_wp2_with fail
    go_ret
    exact ⟨rfl, S1.out.below⟩
  | true =>
    clear hr
    obtain ⟨x0, x1, x2, x3⟩ := S1.out.box
    by_cases lf : 2147483647 < (f.size : Int)
    · go_wp2_with fail
      go_ret
      exact ⟨rfl, S1.out.below⟩
    by_cases lt : 2147483647 < (t.size : Int)
    · go_wp2_with fail
      go_ret
      exact ⟨rfl, S1.out.below⟩
    by_cases ls : 2147483647 < (s.size : Int)
    · go_wp2_with fail
      go_ret
      exact ⟨rfl, S1.out.below⟩
    go_wp2_with fail
    cases hft : (f.toList == t.toList) with
    | true =>
      refine (I2.out _ S1.out.later).mono ?_
      rintro e w2 ⟨⟨r, rfl, hr⟩, b⟩
      have S2 := Lib.hid (S1.out.on b)
      clear b
      try clear x0 x1 x2 x3
      cases r with
      | false =>
        clear hr
        obtain ⟨x0, x1, x2, x3⟩ := S2.out.box
        go_wp2_with fail
        go_ret
        exact ⟨rfl, S2.out.below⟩
      | true =>
        have R2 := Lib.hid (hr rfl)
        clear hr
        obtain ⟨x0, x1, x2, x3⟩ := S2.out.box
        go_wp2_with fail
        refine (I3.out _ S2.out.later).mono ?_
        rintro e w3 ⟨⟨r, rfl, hr⟩, b⟩
        have S3 := Lib.hid (S2.out.on b)
        clear b
        try clear x0 x1 x2 x3
        cases r with
        | false =>
          clear hr
          obtain ⟨x0, x1, x2, x3⟩ := S3.out.box
          go_wp2_with fail
          go_ret
          exact ⟨rfl, S3.out.below⟩
        | true =>
          have R3 := Lib.hid (hr rfl)
          clear hr
          obtain ⟨x0, x1, x2, x3⟩ := S3.out.box
          go_wp2_with fail
          refine (I4.out _ S3.out.later).mono ?_
          rintro e w4 ⟨⟨r, rfl, hr⟩, b⟩
          have S4 := Lib.hid (S3.out.on b)
          clear b
          try clear x0 x1 x2 x3
          cases r with
          | false =>
            clear hr
            obtain ⟨x0, x1, x2, x3⟩ := S4.out.box
            go_wp2_with fail
            go_ret
            exact ⟨rfl, S4.out.below⟩
          | true =>
            have R4 := Lib.hid (hr rfl)
            clear hr
            obtain ⟨x0, x1, x2, x3⟩ := S4.out.box
            go_wp2_with fail
            go_ret
            exact ⟨rfl, S4.out.below⟩
    | false =>
      have HFT := Lib.hid (show f ≠ t from fun e => by subst e; simp at hft)
      refine (I2.out _ S1.out.later).mono ?_
      rintro e w2 ⟨⟨r, rfl, hr⟩, b⟩
      have S2 := Lib.hid (S1.out.on b)
      clear b
      try clear x0 x1 x2 x3
      cases r with
      | false =>
        clear hr
        obtain ⟨x0, x1, x2, x3⟩ := S2.out.box
        go_wp2_with fail
        go_ret
        exact ⟨rfl, S2.out.below⟩
      | true =>
        have R2 := Lib.hid (hr rfl)
        clear hr
        obtain ⟨x0, x1, x2, x3⟩ := S2.out.box
        go_wp2_with fail
        refine (I3.out _ S2.out.later).mono ?_
        rintro e w3 ⟨⟨r, rfl, hr⟩, b⟩
        have S3 := Lib.hid (S2.out.on b)
        clear b
        try clear x0 x1 x2 x3
        cases r with
        | false =>
          clear hr
          obtain ⟨x0, x1, x2, x3⟩ := S3.out.box
          go_wp2_with fail
          go_ret
          exact ⟨rfl, S3.out.below⟩
        | true =>
          have R3 := Lib.hid (hr rfl)
          clear hr
          obtain ⟨x0, x1, x2, x3⟩ := S3.out.box
          go_wp2_with fail
          refine (I4.out _ S3.out.later).mono ?_
          rintro e w4 ⟨⟨r, rfl, hr⟩, b⟩
          have S4 := Lib.hid (S3.out.on b)
          clear b
          try clear x0 x1 x2 x3
          cases r with
          | false =>
            clear hr
            obtain ⟨x0, x1, x2, x3⟩ := S4.out.box
            go_wp2_with fail
            go_ret
            exact ⟨rfl, S4.out.below⟩
          | true =>
            have R4 := Lib.hid (hr rfl)
            clear hr
            obtain ⟨x0, x1, x2, x3⟩ := S4.out.box
            go_wp2_with fail
            refine (HRN.out (by have := R2.out; omega) _ S4.out.later).mono ?_
            rintro e w5 ⟨⟨kv5, rfl, h5⟩, b5⟩
            obtain ⟨a5, c5, rfl⟩ := isT_nv h5
            have S5 := Lib.hid (S4.out.on b5)
            have N5 : In w5 _ _ := h5.mono fun _ hi => hi.2
            try clear x0 x1 x2 x3
            clear h5 b5
            cases hh : hitT f s tr with
            | false =>
              have HRW := Lib.hid (fun W hW => rename_no W0 R3.out R2.out R4.out f t s hh _ HV.out W hW)
              have HRT := ren_same f t s tr hh
              rw [HRT] at N5 ⊢
              have M5 := Lib.hid (N5.on (box_below w5 (.cells #[.string tr.kind, .string tr.text, .int .i64 tr.num, .slice a5 tr.kids.length c5] 24)))
              have S5b := Lib.hid (S5.out.on (box_below w5 (.cells #[.string tr.kind, .string tr.text, .int .i64 tr.num, .slice a5 tr.kids.length c5] 24)))
              have Q5 := Lib.hid (heap_alloc_new w5 (.cells #[.string tr.kind, .string tr.text, .int .i64 tr.num, .slice a5 tr.kids.length c5] 24))
              clear N5 HRT hh
              obtain ⟨x0, x1, x2, x3⟩ := S5b.out.box
              go_wp2_with fail
              refine (HRW.out _ S5b.out.later).mono ?_
              rintro e w6 ⟨rfl, b6⟩
              have S6 := Lib.hid (S5b.out.on b6)
              have M6 := Lib.hid (M5.out.on b6)
              have Q6 := blk_later Q5.out b6
              obtain ⟨q0, q1, q2, q3⟩ := blk4 (blk_later Q6 (box_below w6 (.cells #[.string ⟨#[]⟩, .string ⟨#[]⟩, .int .i64 0, .slice none 0 0] 24)))
              clear b6 HRW x0 x1 x2 x3 M5 Q5 Q6
              have S6b := Lib.hid (S6.out.on (box_below w6 (.cells #[.string ⟨#[]⟩, .string ⟨#[]⟩, .int .i64 0, .slice none 0 0] 24)))
              have HS := Lib.hid (same_true _ tr tr _ _ (M6.out.on (box_below w6 (.cells #[.string ⟨#[]⟩, .string ⟨#[]⟩, .int .i64 0, .slice none 0 0] 24))) (HAT.out _ S6b.out.later) rfl)
              obtain ⟨x0, x1, x2, x3⟩ := S6b.out.box
              go_wp2_with fail
              refine (HS.out).mono ?_
              rintro e w7 ⟨rfl, b7⟩
              have S7 := Lib.hid (S6b.out.on b7)
              clear b7 HS
              go_wp2_with fail
              go_ret
              exact ⟨rfl, S7.out.below⟩
            | true =>
              have HRW := Lib.hid (fun W hW => rename_yes W0 R3.out R2.out R4.out f t s hh _ HV.out W hW)
              have HNE := Lib.hid (ren_turns f t s HFT.out tr hh)
              clear hh
              generalize renT f t s tr = RT at *
              have M5 := Lib.hid (N5.on (box_below w5 (.cells #[.string RT.kind, .string RT.text, .int .i64 RT.num, .slice a5 RT.kids.length c5] 24)))
              have S5b := Lib.hid (S5.out.on (box_below w5 (.cells #[.string RT.kind, .string RT.text, .int .i64 RT.num, .slice a5 RT.kids.length c5] 24)))
              have Q5 := Lib.hid (heap_alloc_new w5 (.cells #[.string RT.kind, .string RT.text, .int .i64 RT.num, .slice a5 RT.kids.length c5] 24))
              clear N5
              obtain ⟨x0, x1, x2, x3⟩ := S5b.out.box
              go_wp2_with fail
              refine (HRW.out _ S5b.out.later).mono ?_
              rintro e w6 ⟨⟨a6, n6, c6, rfl, h6⟩, b6⟩
              have S6 := Lib.hid (S5b.out.on b6)
              have M6 := Lib.hid (M5.out.on b6)
              have Q6 := blk_later Q5.out b6
              obtain ⟨q0, q1, q2, q3⟩ := blk4 (blk_later Q6 (box_below w6 (.cells #[.string RT.kind, .string RT.text, .int .i64 RT.num, .slice a6 n6 c6] 24)))
              have P6 := Lib.hid (h6.on (box_below w6 (.cells #[.string RT.kind, .string RT.text, .int .i64 RT.num, .slice a6 n6 c6] 24)))
              have M6b := Lib.hid (M6.out.on (box_below w6 (.cells #[.string RT.kind, .string RT.text, .int .i64 RT.num, .slice a6 n6 c6] 24)))
              have S6b := Lib.hid (S6.out.on (box_below w6 (.cells #[.string RT.kind, .string RT.text, .int .i64 RT.num, .slice a6 n6 c6] 24)))
              have G6 := Lib.hid (heap_alloc_new w6 (.cells #[.string RT.kind, .string RT.text, .int .i64 RT.num, .slice a6 n6 c6] 24))
              have Q6b := Lib.hid (blk_later Q6 (box_below w6 (.cells #[.string RT.kind, .string RT.text, .int .i64 RT.num, .slice a6 n6 c6] 24)))
              clear b6 HRW x0 x1 x2 x3 M5 Q5 Q6 h6
              obtain ⟨x0, x1, x2, x3⟩ := S6b.out.box
              have HS := Lib.hid (same_false _ RT tr _ _ M6b.out (HAT.out _ S6b.out.later) HNE.out)
              go_wp2_with fail
              refine (HS.out).mono ?_
              rintro e w7 ⟨rfl, b7⟩
              have S7 := Lib.hid (S6b.out.on b7)
              have HS2 := Lib.hid (same_true _ RT RT _ _ (P6.out.on b7) (M6b.out.on b7) rfl)
              clear q0 q1 q2 q3
              obtain ⟨q0, q1, q2, q3⟩ := blk4 (blk_later Q6b.out b7)
              obtain ⟨g0, g1, g2, g3⟩ := blk4 (blk_later G6.out b7)
              clear b7 HS x0 x1 x2 x3
              go_wp2_with fail
              refine (HS2.out).mono ?_
              rintro e w8 ⟨rfl, b8⟩
              have S8 := Lib.hid (S7.out.on b8)
              clear b8 HS2
              go_wp2_with fail
              go_ret
              exact ⟨rfl, S8.out.below⟩

end Go.Proofs.YtnhccgbkalpcnaaGreatDoor
