/- Rows of nodes that a call makes. -/
import Derived.Test.YtnhccgbkalpcnaaGreatDoorCopyD
import Derived.Test.YtnhccgbkalpcnaaGreatDoorSameT
import Derived.Test.YtnhccgbkalpcnaaGreatDoorKids
import Derived.Test.YtnhccgbkalpcnaaGreatDoorLast
import Derived.Test.YtnhccgbkalpcnaaGreatDoorTwq
import Derived.Test.YtnhccgbkalpcnaaGreatDoorKindOf
namespace Go.Proofs.YtnhccgbkalpcnaaGreatDoor
open Go.RowKit

theorem infoNode : (Tryz.prog.info? 24).map (fun i => (i.zero, i.size, i.bytes)) = some (some (.agg #[.string ⟨#[]⟩, .string ⟨#[]⟩, .int .i64 0, .slice none 0 0]), 4, 64) := by kernel_rfl

/-- the value of a tree whose kids are kv -/
def nv (t : Tree) (kv : Value) : Value := .agg #[.string t.kind, .string t.text, .int .i64 t.num, kv]
def cells4 (t : Tree) (kv : Value) : List Value := [.string t.kind, .string t.text, .int .i64 t.num, kv]
def flatN : List Tree → List Value → List Value
  | t :: ts, kv :: kvs => cells4 t kv ++ flatN ts kvs
  | _, _ => []
theorem flatN_length : ∀ (ts : List Tree) (kvs : List Value), kvs.length = ts.length → (flatN ts kvs).length = ts.length * 4
  | [], [], _ => rfl
  | t :: ts, kv :: kvs, h => by
    rw [flatN, List.length_append, flatN_length ts kvs (by simpa using h)]
    simp [cells4]
    omega
theorem flatN_snoc : ∀ (ts : List Tree) (kvs : List Value) (t : Tree) (kv : Value), kvs.length = ts.length → flatN (ts ++ [t]) (kvs ++ [kv]) = flatN ts kvs ++ cells4 t kv
  | [], [], _, _, _ => by simp [flatN]
  | a :: ts, b :: kvs, t, kv, h => by
    simp only [List.cons_append, flatN]
    rw [flatN_snoc ts kvs t kv (by simpa using h), List.append_assoc]
theorem flatN_get : ∀ (ts : List Tree) (kvs : List Value) (i : Nat) (h : i < ts.length) (h2 : i < kvs.length) (j : Nat), j < 4 → (flatN ts kvs)[i * 4 + j]? = (cells4 ts[i] kvs[i])[j]?
  | t :: ts, kv :: kvs, 0, _, _, j, hj => by
    rw [flatN, List.getElem?_append_left (by simp [cells4]; omega)]
    simp
  | t :: ts, kv :: kvs, i + 1, h, h2, j, hj => by
    rw [flatN, List.getElem?_append_right (by simp [cells4]; omega)]
    have := flatN_get ts kvs i (by simpa using h) (by simpa using h2) j hj
    simp only [List.getElem_cons_succ]
    rw [← this]
    congr 1
    simp [cells4]
    omega

/-- a tree whose rows are old ones, or made from B on -/
def ITN (I : Nat → Prop) (B : Nat) (w : World) (t : Tree) (v : Value) : Prop := IsT w (NI I B w) t v
theorem ITN.on {I : Nat → Prop} {B : Nat} {w w' : World} {t : Tree} {v : Value} (h : ITN I B w t v) (hb : Below w.heap.size w w') : ITN I B w' t v := (IsT.same (fun i hi => hb.block i hi.2) h).mono fun _ hi => NI.on hb hi
theorem IsT.form {w : World} {I : Nat → Prop} {t : Tree} {v : Value} (h : IsT w I t v) : ∃ a c, v = nv t (.slice a t.kids.length c) := by
  obtain ⟨a, c, rfl, _⟩ := IsT.lay h
  exact ⟨a, c, rfl⟩

/-- the row x holds the trees ts -/
def NInv (I : Nat → Prop) (B : Nat) (w : World) (x : Value) (ts : List Tree) (kvs : List Value) : Prop :=
  kvs.length = ts.length ∧ w.ownsRow B 24 4 x ts.length (flatN ts kvs) ∧ ∀ i (h : i < ts.length) (h2 : i < kvs.length), IsT w (fun b => NI I B w b ∧ some b ≠ x.ownBlock) ts[i] (nv ts[i] kvs[i])

theorem NInv.nil (I : Nat → Prop) (B : Nat) (w : World) : NInv I B w (.slice none 0 0) [] [] := ⟨rfl, World.ownsRow_nil _ _ _ _, fun i h => by simp at h⟩

theorem NInv.below {I : Nat → Prop} {B : Nat} {w w' : World} {x : Value} {ts : List Tree} {kvs : List Value} (h : NInv I B w x ts kvs) (hb : Below w.heap.size w w') : NInv I B w' x ts kvs :=
  ⟨h.1, ownsRow_below h.2.1 hb (Nat.le_refl _), fun i h1 h2 => (IsT.same (fun b hb' => hb.block b hb'.1.2) (h.2.2 i h1 h2)).mono fun _ hi => ⟨NI.on hb hi.1, hi.2⟩⟩

theorem NInv.put {I : Nat → Prop} {B : Nat} {w : World} {x : Value} {ts : List Tree} {kvs : List Value} (h : NInv I B w x ts kvs) {g o : Nat} (hg : g < B) (hI : ∀ i, I i → i ≠ g) (v : Value) : NInv I B (w.setCell ⟨g, o, none⟩ v) x ts kvs := by
  have hz : (w.setCell ⟨g, o, none⟩ v).heap.size = w.heap.size := by simp [World.setCell]
  refine ⟨h.1, ownsRow_setCell_below h.2.1 hg v, fun i h1 h2 => (IsT.same (fun b hb => ?_) (h.2.2 i h1 h2)).mono fun b hb => ⟨⟨hb.1.1, by rw [hz]; exact hb.1.2⟩, hb.2⟩⟩
  refine Below.heap_setCell _ _ _ _ ?_
  rcases hb.1.1 with h3 | h3
  · exact hI b h3
  · exact fun e => by simp at e; omega

/-- one more -/
theorem append_node {I : Nat → Prop} {B : Nat} {wd w2 : World} {x : Value} {ts : List Tree} {kvs : List Value} {t : Tree} {kv : Value} (hB : B ≤ wd.heap.size) (hI : ∀ i, I i → i < B) (hinv : NInv I B wd x ts kvs) (b2 : Below wd.heap.size wd w2)
    (hr : ITN I wd.heap.size w2 t (nv t kv)) (hlen : ts.length ≤ 1000) (hone : kv.oneCell' = true) :
    ∃ v4 w4, (Builtin.append_ #[22, 22] 22 #[x, .slice (some ⟨w2.heap.size, 0, none⟩) 1 1]).run Tryz.prog (w2.alloc (.cells #[.string t.kind, .string t.text, .int .i64 t.num, kv] 24)) = .ok v4 w4 ∧
      NInv I B w4 v4 (ts ++ [t]) (kvs ++ [kv]) ∧ Below B wd w4 ∧ w2.heap.size < w4.heap.size := by
  obtain ⟨i0, hi, hz0, hz1, hz2⟩ := info_parts infoNode
  obtain ⟨hk, hown, hel⟩ := hinv
  have hx := hown.lt
  have hz := b2.size
  obtain ⟨v4, w4, hrun, hown4, hg, _, hat⟩ := run_append_own_at (P := Tryz.prog) (w := w2.alloc (.cells #[.string t.kind, .string t.text, .int .i64 t.num, kv] 24)) B 22 22 24 i0 _ 4 64 Tryz.underlying22 hi hz0 hz1 hz2 rfl (by omega)
    x ts.length (flatN ts kvs) ((ownsRow_below hown b2 (Nat.le_refl _)).alloc _) ⟨w2.heap.size, 0, none⟩ 1 1 (cells4 t kv) rfl (fun j u hj => by
      have h0 := heap_alloc_new w2 (.cells #[.string t.kind, .string t.text, .int .i64 t.num, kv] 24)
      have e : (⟨w2.heap.size, 0, none⟩ : Addr).add j = ⟨w2.heap.size, j, none⟩ := by unfold Addr.add; split <;> simp_all
      rw [e]
      simp only [World.cell?, h0]
      simpa [cells4] using hj)
    (fun u hu => by simp [cells4] at hu; rcases hu with rfl | rfl | rfl | rfl <;> first | rfl | exact hone) (by unfold maxLen; omega) (by omega) (by simp; omega)
  have hgz := hg.size
  simp at hgz
  have hne : ∀ b, b < w2.heap.size → some b ≠ x.ownBlock → some b ≠ v4.ownBlock := fun b h1 h2 h3 => by
    rcases hat with h | h
    · exact h2 (h3.trans h)
    · rw [h] at h3
      simp at h3
      omega
  refine ⟨v4, w4, hrun, ⟨by simp [hk], by rw [flatN_snoc ts kvs t kv hk]; simpa using hown4, fun i h1 h2 => ?_⟩, ?_, by omega⟩
  · rcases Nat.lt_or_ge i ts.length with hlt | hge
    · have h2' : i < kvs.length := by omega
      rw [List.getElem_append_left hlt, List.getElem_append_left h2']
      refine (IsT.same (fun b hb => ?_) (hel i hlt h2')).mono fun b hb => ⟨⟨hb.1.1, by have := hb.1.2; omega⟩, hne b (by have := hb.1.2; omega) hb.2⟩
      rw [hg.block b (by simp; have := hb.1.2; omega) hb.2, Below.heap_alloc _ _ _ (by have := hb.1.2; omega), b2.block b hb.1.2]
    · have hi' : i = ts.length := by simp at h1; omega
      subst hi'
      have e1 : (ts ++ [t])[ts.length] = t := by simp
      have e2 : (kvs ++ [kv])[ts.length] = kv := by simp [← hk]
      rw [e1, e2]
      have hnx : ∀ b, NI I wd.heap.size w2 b → some b ≠ x.ownBlock := fun b hb e => by
        have h3 := hx b e.symm
        rcases hb.1 with h | h
        · have := hI b h; omega
        · omega
      refine (IsT.same (fun b hb => ?_) hr).mono fun b hb => ⟨⟨hb.1.imp id (fun h => by omega), by have := hb.2; omega⟩, hne b hb.2 (hnx b hb)⟩
      rw [hg.block b (by simp; have := hb.2; omega) (hnx b hb), Below.heap_alloc _ _ _ hb.2]
  · exact ((b2.mono hB).alloc (by omega) _).grown hg (by simp; omega) (fun k hk => (hx k hk).1)

theorem NInv.form {I : Nat → Prop} {B : Nat} {w : World} {x : Value} {ts : List Tree} {kvs : List Value} (h : NInv I B w x ts kvs) : ∃ a c, x = .slice a ts.length c := by
  rcases h.2.1.2 with ⟨rfl, h0⟩ | ⟨g, cap, cur, rfl, _⟩
  · exact ⟨none, 0, by rw [h0]⟩
  · exact ⟨_, _, rfl⟩

/-- the row as the kids of a tree -/
theorem NInv.tree {I : Nat → Prop} {B : Nat} {w : World} {x : Value} {ts : List Tree} {kvs : List Value} (h : NInv I B w x ts kvs) (k s : ByteArray) (n : Int) : ITN I B w (.node k s n ts) (.agg #[.string k, .string s, .int .i64 n, x]) := by
  obtain ⟨hk, hown, hel⟩ := h
  have hmx : maxLen = 9223372036854775807 := rfl
  rcases hown.2 with ⟨rfl, h0⟩ | ⟨g, cap, cur, rfl, hg, hh, hcap, hmax, hsz, htake⟩
  · have : ts = [] := List.eq_nil_of_length_eq_zero h0
    subst this
    exact .mk k s n [] none 0 0 0 (fun _ => .nilFunc) (by simp) (by omega) (.inl rfl) (fun i h => by simp at h) (fun i h => by simp at h)
  · have hgl := lt_of_block hh
    refine .mk k s n ts _ cap g 0 (fun i => kvs.getD i .nilFunc) hcap (by omega) (.inr ⟨rfl, .inr hg, hgl⟩) (fun i hi => ?_) (fun i hi => ?_)
    · have h2 : i < kvs.length := by omega
      have hc : ∀ j, j < 4 → w.cell? ⟨g, 0 + i * 4 + j, none⟩ = (cells4 ts[i] kvs[i])[j]? := fun j hj => by
        rw [← flatN_get ts kvs i hi h2 j hj, ← htake, List.getElem?_take_of_lt (by omega)]
        simp [World.cell?, hh]
      have e : kvs.getD i .nilFunc = kvs[i] := by simp [List.getD, h2]
      rw [e]
      exact ⟨hc 0 (by omega), hc 1 (by omega), hc 2 (by omega), hc 3 (by omega)⟩
    · have h2 : i < kvs.length := by omega
      have e : kvs.getD i .nilFunc = kvs[i] := by simp [List.getD, h2]
      rw [e]
      exact (hel i hi h2).mono fun b hb => hb.1

/-- the node that is being made lies in block go -/
structure OutS (ws : World) (go : Nat) (k x : ByteArray) (n : Int) (wr : World) (v : Value) : Prop where
  st : Below go ws wr
  sz : go < wr.heap.size
  out : wr.heap[go]? = some (.cells #[.string k, .string x, .int .i64 n, v] 24 (0, 0))
theorem OutS.over {ws : World} {go : Nat} {k x : ByteArray} {n : Int} {wr w' : World} {v : Value} (h : OutS ws go k x n wr v) (hb : Below (go + 1) wr w') : OutS ws go k x n w' v :=
  ⟨h.st.trans (hb.mono (by omega)), Nat.lt_of_lt_of_le h.sz hb.size, by rw [hb.block go (by omega)]; exact h.out⟩
theorem OutS.on {ws : World} {go : Nat} {k x : ByteArray} {n : Int} {wr w' : World} {v : Value} (h : OutS ws go k x n wr v) (hb : Below wr.heap.size wr w') : OutS ws go k x n w' v := h.over (hb.mono h.sz)
theorem OutS.put {ws : World} {go : Nat} {k x : ByteArray} {n : Int} {wr : World} {v : Value} (h : OutS ws go k x n wr v) (v' : Value) : OutS ws go k x n (wr.setCell ⟨go, 3, none⟩ v') v' :=
  ⟨h.st.setCell (p := ⟨go, 3, none⟩) (Nat.le_refl _) v', by simpa [World.setCell] using h.sz, by simpa using heap_setCell_same (k := 3) (v := v') h.out⟩
theorem OutS.cells {ws : World} {go : Nat} {k x : ByteArray} {n : Int} {wr : World} {v : Value} (h : OutS ws go k x n wr v) : wr.cell? ⟨go, 0, none⟩ = some (.string k) ∧ wr.cell? ⟨go, 1, none⟩ = some (.string x) ∧ wr.cell? ⟨go, 2, none⟩ = some (.int .i64 n) ∧ wr.cell? ⟨go, 3, none⟩ = some v := by
  simp [World.cell?, h.out]
theorem OutS.free {ws : World} {go : Nat} {k x : ByteArray} {n : Int} {wr : World} {v : Value} (h : OutS ws go k x n wr v) : ∀ i, wr.frozen? ⟨go, i, none⟩ = false := fun i => by simp [World.frozen?, h.out]

end Go.Proofs.YtnhccgbkalpcnaaGreatDoor

namespace Go.Proofs.YtnhccgbkalpcnaaGreatDoor
open Go.RowKit

/-- old blocks -/
def OldB (W0 : World) (i : Nat) : Prop := i < W0.heap.size

set_option maxRecDepth 100000 in
set_option maxHeartbeats 2000000 in
theorem name_made (t : ByteArray) (w : World) : Calls Tryz.prog 25 #[.string t] w fun e w' => e = .returned (.agg #[.string ⟨#[78, 97, 109, 101]⟩, .string t, .int .i64 0, .slice none 0 0]) ∧ Below w.heap.size w w' := by
  have B0 := Lib.hid (box_below w (.cells #[.string ⟨#[78, 97, 109, 101]⟩, .string t, .int .i64 0, .slice none 0 0] 24))
  go_enter Tryz.func25, Tryz.ntmps25
  go_wp2_with fail
  (try simp only [Exit.inBlock, Exit.then])
  refine bodyPost_ret (by simp [results, Tryz.results25, go_sem]; try rfl) rfl ?_
  exact ⟨rfl, B0.out⟩

/-- what Renamed makes of a tree -/
def RenOK (W0 : World) (f t s : ByteArray) (tr : Tree) : Prop := ∀ v, At W0 tr v → ∀ w, Later W0 w → Calls Tryz.prog 13 #[v, .string f, .string t, .string s] w fun e w' =>
  (∃ kv, e = .returned (.agg #[.string (renT f t s tr).kind, .string (renT f t s tr).text, .int .i64 (renT f t s tr).num, kv]) ∧ ITN (OldB W0) w.heap.size w' (renT f t s tr) (.agg #[.string (renT f t s tr).kind, .string (renT f t s tr).text, .int .i64 (renT f t s tr).num, kv])) ∧ Below w.heap.size w w'

theorem At.itn {W0 w w' : World} {t : Tree} {v : Value} (h : At W0 t v) (hw : Later W0 w') : ITN (OldB W0) w.heap.size w' t v :=
  (IsT.same (Same.below hw.below (fun _ h => h)) h).mono fun _ h => ⟨.inl h, Nat.lt_of_lt_of_le h hw.below.size⟩

theorem len_szs1 : ∀ (l : List Tree), l.length ≤ Tree.szs l
  | [] => Nat.zero_le _
  | k :: r => by
    have := len_szs1 r
    have h : 1 ≤ k.sz := by cases k; simp only [Tree.sz]; omega
    simp only [List.length_cons, Tree.szs]
    omega
theorem renL_snoc (f t s : ByteArray) (l : List Tree) {j : Nat} (h : j < l.length) : renL f t s (l.take (j + 1)) = renL f t s (l.take j) ++ [renT f t s l[j]] := by
  induction l generalizing j with
  | nil => simp at h
  | cons a r ih =>
    cases j with
    | zero => simp [renL]
    | succ j =>
      simp only [List.take_succ_cons, renL, List.getElem_cons_succ, List.cons_append]
      rw [ih (by simpa using h)]

set_option maxRecDepth 100000 in
set_option maxHeartbeats 2000000 in
theorem ren_skip (W0 : World) (f t s k x : ByteArray) (n : Int) (ks : List Tree) (hs : (k.toList == s.toList) = true) : RenOK W0 f t s (.node k x n ks) := by
  intro v hv w hw
  have HV := Lib.hid hv
  obtain ⟨a, c, rfl, _⟩ := hv.shut
  have S0 := St.start hw (.string k) (.string x) (.int .i64 n) (.slice a ks.length c)
  have S1 := Lib.hid (S0.on (box_below _ (.cells #[.string k, .string x, .int .i64 n, .slice a ks.length c] 24)))
  have HR := Lib.hid (show renT f t s (.node k x n ks) = .node k x n ks by rw [renT, if_pos hs])
  clear hv hw S0
  go_enter Tryz.func13, Tryz.ntmps13
  go_wp2_with fail
  (try simp only [Exit.inBlock, Exit.then])
  refine bodyPost_ret (by simp [results, Tryz.results13, go_sem]; try rfl) rfl ?_
  rw [HR.out]
  exact ⟨⟨_, rfl, HV.out.itn S1.out.later⟩, S1.out.below⟩

set_option maxRecDepth 100000 in
set_option maxHeartbeats 2000000 in
theorem ren_name (W0 : World) (f t s x : ByteArray) (n : Int) (ks : List Tree) (hs : ((⟨#[78, 97, 109, 101]⟩ : ByteArray).toList == s.toList) = false) (hx : (x.toList == f.toList) = true) : RenOK W0 f t s (.node ⟨#[78, 97, 109, 101]⟩ x n ks) := by
  intro v hv w hw
  obtain ⟨a, c, rfl, _⟩ := hv.shut
  have S0 := St.start hw (.string ⟨#[78, 97, 109, 101]⟩) (.string x) (.int .i64 n) (.slice a ks.length c)
  have S1 := Lib.hid (S0.on (box_below _ (.cells #[.string ⟨#[]⟩, .string ⟨#[]⟩, .int .i64 0, .slice none 0 0] 24)))
  have R1 := Lib.hid (show ((w.alloc (.cells #[.string ⟨#[78, 97, 109, 101]⟩, .string x, .int .i64 n, .slice a ks.length c] 24)).alloc (.cells #[.string ⟨#[]⟩, .string ⟨#[]⟩, .int .i64 0, .slice none 0 0] 24)).heap[w.heap.size + 1]? = some (.cells #[.string ⟨#[]⟩, .string ⟨#[]⟩, .int .i64 0, .slice none 0 0] 24 (0, 0)) from by simpa using heap_alloc_new (w.alloc (.cells #[.string ⟨#[78, 97, 109, 101]⟩, .string x, .int .i64 n, .slice a ks.length c] 24)) (.cells #[.string ⟨#[]⟩, .string ⟨#[]⟩, .int .i64 0, .slice none 0 0] 24))
  have HR := Lib.hid (show renT f t s (.node ⟨#[78, 97, 109, 101]⟩ x n ks) = .node ⟨#[78, 97, 109, 101]⟩ t 0 [] by rw [renT, hs, hx, show ((⟨#[78, 97, 109, 101]⟩ : ByteArray).toList == [78, 97, 109, 101]) = true by kernel_rfl]; simp)
  have HN := Lib.hid (fun W => name_made t W)
  have hs' : ([78, 97, 109, 101] == s.toList) = false := by have := hs; simpa using this
  clear hv hw S0 hs
  go_enter Tryz.func13, Tryz.ntmps13
  go_wp2_with fail
  refine (HN.out _).mono ?_
  rintro e w2 ⟨rfl, b2⟩
  have r2 := blk_later R1.out b2
  have S2 := Lib.hid (S1.out.on b2)
  have fr : ∀ i, w2.frozen? ⟨w.heap.size + 1, i, none⟩ = false := fun i => by simp [World.frozen?, r2]
  obtain ⟨z0, z1, z2, z3⟩ : w2.cell? ⟨w.heap.size + 1, 0, none⟩ = some (.string ⟨#[]⟩) ∧ w2.cell? ⟨w.heap.size + 1, 1, none⟩ = some (.string ⟨#[]⟩) ∧ w2.cell? ⟨w.heap.size + 1, 2, none⟩ = some (.int .i64 0) ∧ w2.cell? ⟨w.heap.size + 1, 3, none⟩ = some (.slice none 0 0) := by simp [World.cell?, r2]
  have X := Lib.hid (show ∀ a b c d, Below w.heap.size w ((((w2.setCell ⟨w.heap.size + 1, 0, none⟩ a).setCell ⟨w.heap.size + 1, 1, none⟩ b).setCell ⟨w.heap.size + 1, 2, none⟩ c).setCell ⟨w.heap.size + 1, 3, none⟩ d) from fun a b c d =>
    S2.out.below.trans (((((Below.refl _ w2).setCell (p := ⟨w.heap.size + 1, 0, none⟩) (by simp) a).setCell (p := ⟨w.heap.size + 1, 1, none⟩) (by simp) b).setCell (p := ⟨w.heap.size + 1, 2, none⟩) (by simp) c).setCell (p := ⟨w.heap.size + 1, 3, none⟩) (by simp) d))
  clear b2 r2
  go_wp2_with fail
  (try simp only [Exit.inBlock, Exit.then])
  refine bodyPost_ret (by simp [results, Tryz.results13, go_sem, z0, z1, z2, z3]; try rfl) rfl ?_
  rw [HR.out]
  exact ⟨⟨_, rfl, .mk _ _ _ [] none 0 0 0 (fun _ => .nilFunc) (by simp) (by omega) (.inl rfl) (fun i h => by simp at h) (fun i h => by simp at h)⟩, X.out _ _ _ _⟩

set_option maxRecDepth 100000 in
set_option maxHeartbeats 4000000 in
theorem ren_rest (W0 : World) (f t s k x : ByteArray) (n : Int) (ks : List Tree) (hs : (k.toList == s.toList) = false) (hx : (k.toList == [78, 97, 109, 101] && x.toList == f.toList) = false) (hlen : ks.length ≤ 1000) (ih : ∀ p ∈ ks, RenOK W0 f t s p) : RenOK W0 f t s (.node k x n ks) := by
  intro v hv w hw
  obtain ⟨sv, rfl, a, c, rfl, hc1, hc2, hk⟩ := hv.kids
  have S0 := St.start hw (.string k) (.string x) (.int .i64 n) (.slice a ks.length c)
  have S1 := S0.on (box_below _ (.cells #[.string ⟨#[]⟩, .string ⟨#[]⟩, .int .i64 0, .slice none 0 0] 24))
  have SW := Lib.hid (S1.on (box_below _ (.cells #[.string k, .string x, .int .i64 n, .slice none 0 0] 24)))
  have R1 := Lib.hid (show (((w.alloc (.cells #[.string k, .string x, .int .i64 n, .slice a ks.length c] 24)).alloc (.cells #[.string ⟨#[]⟩, .string ⟨#[]⟩, .int .i64 0, .slice none 0 0] 24)).alloc (.cells #[.string k, .string x, .int .i64 n, .slice none 0 0] 24)).heap[w.heap.size + 1]? = some (.cells #[.string ⟨#[]⟩, .string ⟨#[]⟩, .int .i64 0, .slice none 0 0] 24 (0, 0)) from by
    rw [(box_below _ _).block _ (by simp)]
    simpa using heap_alloc_new (w.alloc (.cells #[.string k, .string x, .int .i64 n, .slice a ks.length c] 24)) (.cells #[.string ⟨#[]⟩, .string ⟨#[]⟩, .int .i64 0, .slice none 0 0] 24))
  have O0 := Lib.hid (show OutS (((w.alloc (.cells #[.string k, .string x, .int .i64 n, .slice a ks.length c] 24)).alloc (.cells #[.string ⟨#[]⟩, .string ⟨#[]⟩, .int .i64 0, .slice none 0 0] 24)).alloc (.cells #[.string k, .string x, .int .i64 n, .slice none 0 0] 24)) (w.heap.size + 2) k x n (((w.alloc (.cells #[.string k, .string x, .int .i64 n, .slice a ks.length c] 24)).alloc (.cells #[.string ⟨#[]⟩, .string ⟨#[]⟩, .int .i64 0, .slice none 0 0] 24)).alloc (.cells #[.string k, .string x, .int .i64 n, .slice none 0 0] 24)) (.slice none 0 0) from ⟨Below.refl _ _, by simp, by simpa using heap_alloc_new ((w.alloc (.cells #[.string k, .string x, .int .i64 n, .slice a ks.length c] 24)).alloc (.cells #[.string ⟨#[]⟩, .string ⟨#[]⟩, .int .i64 0, .slice none 0 0] 24)) (.cells #[.string k, .string x, .int .i64 n, .slice none 0 0] 24)⟩)
  have HRN := Lib.hid (show renT f t s (.node k x n ks) = .node k x n (renL f t s ks) by rw [renT, hs, hx]; simp)
  have HK := Lib.hid hk
  have HW := Lib.hid hw
  have IH0 := Lib.hid (fun (j : Nat) (hj : j < ks.length) => ih ks[j] (List.getElem_mem hj))
  have HSZ := Lib.hid hw.below.size
  have HIB := Lib.hid (show ∀ i, OldB W0 i → i < w.heap.size + 3 from fun i (hi : i < W0.heap.size) => by have := hw.below.size; omega)
  have HIG := Lib.hid (show ∀ i, OldB W0 i → i ≠ w.heap.size + 2 from fun i (hi : i < W0.heap.size) => by have := hw.below.size; omega)
  have HIR := Lib.hid (show ∀ i, OldB W0 i → i ≠ w.heap.size + 1 from fun i (hi : i < W0.heap.size) => by have := hw.below.size; omega)
  have hnl : (ks.length : Int) ≤ 9223372036854775807 := by omega
  have HLN := Lib.hid hlen
  obtain ⟨ws, hws⟩ : ∃ ws, ws = (((w.alloc (.cells #[.string k, .string x, .int .i64 n, .slice a ks.length c] 24)).alloc (.cells #[.string ⟨#[]⟩, .string ⟨#[]⟩, .int .i64 0, .slice none 0 0] 24)).alloc (.cells #[.string k, .string x, .int .i64 n, .slice none 0 0] 24)) := ⟨_, rfl⟩
  clear hk ih hv hc1 hc2 hw S0 S1
  by_cases hkn : (k.toList == [78, 97, 109, 101]) = true
  · have hxf : (x.toList == f.toList) = false := by rw [hkn] at hx; simpa using hx
    clear hx
    go_enter Tryz.func13, Tryz.ntmps13
    go_wp2_with fail
    rw [← hws] at SW R1 O0 ⊢
    clear hws
    go_loopg [38] (ks.length) (fun k' i wr => ∃ j : Nat, j + k' = ks.length ∧ i = .int .i64 j ∧ ∃ xv kvs, Hid (OutS ws (w.heap.size + 2) k x n wr xv) ∧ Hid (NInv (OldB W0) (w.heap.size + 3) wr xv (renL f t s (ks.take j)) kvs))
    case atStart => exact ⟨0, by omega, rfl, _, [], O0.out, by show NInv _ _ _ _ _ _; simp only [List.take_zero, renL]; exact NInv.nil _ _ _⟩
    case round =>
      obtain ⟨j, hj, rfl, xv, kvs, ho, hn⟩ := hrel
      obtain ⟨xa, xc, hxv⟩ := hn.out.form
      obtain ⟨xn, hxn⟩ : ∃ xn, xn = (renL f t s (ks.take j)).length := ⟨_, rfl⟩
      rw [← hxn] at hxv
      have HXN := Lib.hid hxn
      clear hxn
      subst hxv
      have SR := Lib.hid (St.over SW.out HW.out (ho.out.st.mono (by omega)))
      by_cases hlt : j < ks.length
      · obtain ⟨b, off, rfl, hk⟩ := HK.out.resolve_left (by intro e; subst e; simp at hlt)
        obtain ⟨ka, kc, hkid, hat⟩ := hk j hlt
        obtain ⟨p0, p1, p2, p3⟩ := hkid wr SR.out.later
        have SD := Lib.hid ((SR.out.on (box_below wr (.cells #[.string ks[j].kind, .string ks[j].text, .int .i64 ks[j].num, .slice ka ks[j].kids.length kc] 24))).on (Below.refl _ _).drew)
        have BD := (box_below wr (.cells #[.string ks[j].kind, .string ks[j].text, .int .i64 ks[j].num, .slice ka ks[j].kids.length kc] 24)).drew
        have OD := Lib.hid (ho.out.on BD)
        have ND := Lib.hid (hn.out.below BD)
        have o1 := OD.out.cells.2.2.2
        have HWD := Lib.hid (show w.heap.size + 3 ≤ (wr.alloc (.cells #[.string ks[j].kind, .string ks[j].text, .int .i64 ks[j].num, .slice ka ks[j].kids.length kc] 24)).drew.heap.size from by have := ho.out.sz; simp; omega)
        have LEN := Lib.hid (show (renL f t s (ks.take j)).length ≤ 1000 by rw [renL_length, List.length_take]; have := HLN.out; omega)
        have HSN := Lib.hid (renL_snoc f t s ks hlt)
        have IH := Lib.hid (fun W hW => IH0.out j hlt _ hat W hW)
        clear hk hkid hat BD
        generalize renT f t s ks[j] = RT at *
        go_wp2_with fail
        refine wp_region_any (by kernel_rfl) ?_
        change wpAny _ _ _ _ _ _ _ (World.drew _)
        refine wpAny_take_at (i := 0) (some 42) (v := ?_) rfl rfl (by kernel_rfl) (by kernel_rfl) (by kernel_rfl) (fun _ _ _ h => h) (Or.inl ⟨by rfl, ?_⟩) ?_
        rotate_left
        focus (intro w; go_simp; try with_reducible rfl)
        simp only [Act.put, List.setIfInBounds_toArray, List.set_cons_succ, List.set_cons_zero]
        refine wpAny_take_at (i := 3) (some 45) (v := ?_) rfl rfl (by kernel_rfl) (by kernel_rfl) (by kernel_rfl) (fun _ _ _ h => h) (Or.inl ⟨by rfl, ?_⟩) ?_
        rotate_left
        focus (intro w; go_simp; try with_reducible rfl)
        simp only [Act.put, List.setIfInBounds_toArray, List.set_cons_succ, List.set_cons_zero]
        refine wpAny_take_at (i := 4) (some 46) (v := ?_) rfl rfl (by kernel_rfl) (by kernel_rfl) (by kernel_rfl) (fun _ _ _ h => h) (Or.inl ⟨by rfl, ?_⟩) ?_
        rotate_left
        focus (intro w; go_simp; try with_reducible rfl)
        simp only [Act.put, List.setIfInBounds_toArray, List.set_cons_succ, List.set_cons_zero]
        refine wpAny_take_at (i := 5) (some 47) (v := ?_) rfl rfl (by kernel_rfl) (by kernel_rfl) (by kernel_rfl) (fun _ _ _ h => h) (Or.inl ⟨by rfl, ?_⟩) ?_
        rotate_left
        focus (intro w; go_simp; try with_reducible rfl)
        simp only [Act.put, List.setIfInBounds_toArray, List.set_cons_succ, List.set_cons_zero]
        refine wpAny_ready (rs := [1, 2]) (by kernel_rfl) (by simp) ?_
        refine AllReady.cons rfl (fun K hK => ?_) (AllReady.cons rfl (fun K hK => ?_) AllReady.nil)
        · go_simp
          refine hK _ _ ?_
          clear hK K
          refine wpAny_ready (rs := [2]) (by kernel_rfl) (by simp) ?_
          refine AllReady.cons rfl (fun K hK => ?_) AllReady.nil
          go_simp
          refine hK _ _ ?_
          clear hK K
          refine wpAny_ready (rs := [6]) (by kernel_rfl) (by simp) ?_
          refine AllReady.cons rfl (fun K hK => ?_) AllReady.nil
          go_simp
          refine (IH.out _ SD.out.later).mono ?_
          rintro e w2 ⟨⟨kv, rfl, hr⟩, b2⟩
          obtain ⟨ka', kc', hkv⟩ := IsT.form hr
          have hkv' : kv = .slice ka' RT.kids.length kc' := by simpa [nv] using hkv
          subst hkv'
          obtain ⟨v4, w4, hrun, hinv4, b4, hz4⟩ := append_node (B := w.heap.size + 3) HWD.out HIB.out ND.out b2 hr LEN.out rfl
          obtain ⟨a4, c4, hv4⟩ := hinv4.form
          obtain ⟨n4, hn4⟩ : ∃ n4, n4 = (renL f t s (ks.take j) ++ [RT]).length := ⟨_, rfl⟩
          rw [← hn4] at hv4
          clear hn4
          subst hv4
          have HR := Lib.hid hrun
          have O2 := OD.out.on b2
          have o2 := O2.cells.2.2.2
          have o3 := (O2.on (box_below w2 (.cells #[.string RT.kind, .string RT.text, .int .i64 RT.num, .slice ka' RT.kids.length kc'] 24))).cells.2.2.2
          have O4 := Lib.hid (OD.out.over b4)
          have N4 := Lib.hid hinv4
          obtain ⟨y0, y1, y2, y3⟩ := O4.out.cells
          have f4 := O4.out.free
          clear hr hrun hinv4 b2 b4 hkv O2 hz4
          go_wp2_with fail
          refine wpAny_ready (rs := [7]) (by kernel_rfl) (by simp) ?_
          refine AllReady.cons rfl (fun K hK => ?_) AllReady.nil
          go_simp
          refine hK _ _ ?_
          clear hK K
          refine wpAny_ready (rs := [8]) (by kernel_rfl) (by simp) ?_
          refine AllReady.cons rfl (fun K hK => ?_) AllReady.nil
          refine step_append_run rfl _ _ _ _ rfl _ _ _ _ rfl rfl HR.out ?_
          refine hK _ _ ?_
          clear hK K
          simp only [Act.put, List.setIfInBounds_toArray]
          refine wpAny_take_at (i := 9) (some 51) (v := ?_) rfl rfl (by kernel_rfl) (by kernel_rfl) (by kernel_rfl) (fun _ _ _ h => h) (Or.inl ⟨by rfl, ?_⟩) ?_
          rotate_left
          focus (intro w; go_simp; try with_reducible rfl)
          simp only [Act.put]
          refine wpAny_ready (rs := [10]) (by kernel_rfl) (by simp) ?_
          refine AllReady.cons rfl (fun K hK => ?_) AllReady.nil
          go_simp
          refine hK _ _ ?_
          clear hK K
          refine wpAny_done (by kernel_rfl) ?_ _
          go_wp2_with fail
          go_roundg (gk - 1)
          case measure => omega
          case rel => exact ⟨j + 1, by omega, by go_num, _, _, O4.out.put _, by show NInv _ _ _ _ _ _; rw [HSN.out]; exact N4.out.put (g := w.heap.size + 2) (o := 3) (by omega) HIG.out _⟩
        · go_simp
          refine hK _ _ ?_
          clear hK K
          refine wpAny_ready (rs := [1, 6]) (by kernel_rfl) (by simp) ?_
          refine AllReady.cons rfl (fun K hK => ?_) (AllReady.cons rfl (fun K hK => ?_) AllReady.nil)
          · go_simp
            refine hK _ _ ?_
            clear hK K
            refine wpAny_ready (rs := [6]) (by kernel_rfl) (by simp) ?_
            refine AllReady.cons rfl (fun K hK => ?_) AllReady.nil
            go_simp
            refine (IH.out _ SD.out.later).mono ?_
            rintro e w2 ⟨⟨kv, rfl, hr⟩, b2⟩
            obtain ⟨ka', kc', hkv⟩ := IsT.form hr
            have hkv' : kv = .slice ka' RT.kids.length kc' := by simpa [nv] using hkv
            subst hkv'
            obtain ⟨v4, w4, hrun, hinv4, b4, hz4⟩ := append_node (B := w.heap.size + 3) HWD.out HIB.out ND.out b2 hr LEN.out rfl
            obtain ⟨a4, c4, hv4⟩ := hinv4.form
            obtain ⟨n4, hn4⟩ : ∃ n4, n4 = (renL f t s (ks.take j) ++ [RT]).length := ⟨_, rfl⟩
            rw [← hn4] at hv4
            clear hn4
            subst hv4
            have HR := Lib.hid hrun
            have O2 := OD.out.on b2
            have o2 := O2.cells.2.2.2
            have o3 := (O2.on (box_below w2 (.cells #[.string RT.kind, .string RT.text, .int .i64 RT.num, .slice ka' RT.kids.length kc'] 24))).cells.2.2.2
            have O4 := Lib.hid (OD.out.over b4)
            have N4 := Lib.hid hinv4
            obtain ⟨y0, y1, y2, y3⟩ := O4.out.cells
            have f4 := O4.out.free
            clear hr hrun hinv4 b2 b4 hkv O2 hz4
            go_wp2_with fail
            refine wpAny_ready (rs := [7]) (by kernel_rfl) (by simp) ?_
            refine AllReady.cons rfl (fun K hK => ?_) AllReady.nil
            go_simp
            refine hK _ _ ?_
            clear hK K
            refine wpAny_ready (rs := [8]) (by kernel_rfl) (by simp) ?_
            refine AllReady.cons rfl (fun K hK => ?_) AllReady.nil
            refine step_append_run rfl _ _ _ _ rfl _ _ _ _ rfl rfl HR.out ?_
            refine hK _ _ ?_
            clear hK K
            simp only [Act.put, List.setIfInBounds_toArray]
            refine wpAny_take_at (i := 9) (some 51) (v := ?_) rfl rfl (by kernel_rfl) (by kernel_rfl) (by kernel_rfl) (fun _ _ _ h => h) (Or.inl ⟨by rfl, ?_⟩) ?_
            rotate_left
            focus (intro w; go_simp; try with_reducible rfl)
            simp only [Act.put]
            refine wpAny_ready (rs := [10]) (by kernel_rfl) (by simp) ?_
            refine AllReady.cons rfl (fun K hK => ?_) AllReady.nil
            go_simp
            refine hK _ _ ?_
            clear hK K
            refine wpAny_done (by kernel_rfl) ?_ _
            go_wp2_with fail
            go_roundg (gk - 1)
            case measure => omega
            case rel => exact ⟨j + 1, by omega, by go_num, _, _, O4.out.put _, by show NInv _ _ _ _ _ _; rw [HSN.out]; exact N4.out.put (g := w.heap.size + 2) (o := 3) (by omega) HIG.out _⟩
          · go_simp
            refine (IH.out _ SD.out.later).mono ?_
            rintro e w2 ⟨⟨kv, rfl, hr⟩, b2⟩
            obtain ⟨ka', kc', hkv⟩ := IsT.form hr
            have hkv' : kv = .slice ka' RT.kids.length kc' := by simpa [nv] using hkv
            subst hkv'
            obtain ⟨v4, w4, hrun, hinv4, b4, hz4⟩ := append_node (B := w.heap.size + 3) HWD.out HIB.out ND.out b2 hr LEN.out rfl
            obtain ⟨a4, c4, hv4⟩ := hinv4.form
            obtain ⟨n4, hn4⟩ : ∃ n4, n4 = (renL f t s (ks.take j) ++ [RT]).length := ⟨_, rfl⟩
            rw [← hn4] at hv4
            clear hn4
            subst hv4
            have HR := Lib.hid hrun
            have O2 := OD.out.on b2
            have o2 := O2.cells.2.2.2
            have o3 := (O2.on (box_below w2 (.cells #[.string RT.kind, .string RT.text, .int .i64 RT.num, .slice ka' RT.kids.length kc'] 24))).cells.2.2.2
            have O4 := Lib.hid (OD.out.over b4)
            have N4 := Lib.hid hinv4
            obtain ⟨y0, y1, y2, y3⟩ := O4.out.cells
            have f4 := O4.out.free
            clear hr hrun hinv4 b2 b4 hkv O2 hz4
            go_wp2_with fail
            refine wpAny_ready (rs := [1, 7]) (by kernel_rfl) (by simp) ?_
            refine AllReady.cons rfl (fun K hK => ?_) (AllReady.cons rfl (fun K hK => ?_) AllReady.nil)
            · go_simp
              refine hK _ _ ?_
              clear hK K
              refine wpAny_ready (rs := [7]) (by kernel_rfl) (by simp) ?_
              refine AllReady.cons rfl (fun K hK => ?_) AllReady.nil
              go_simp
              refine hK _ _ ?_
              clear hK K
              refine wpAny_ready (rs := [8]) (by kernel_rfl) (by simp) ?_
              refine AllReady.cons rfl (fun K hK => ?_) AllReady.nil
              refine step_append_run rfl _ _ _ _ rfl _ _ _ _ rfl rfl HR.out ?_
              refine hK _ _ ?_
              clear hK K
              simp only [Act.put, List.setIfInBounds_toArray]
              refine wpAny_take_at (i := 9) (some 51) (v := ?_) rfl rfl (by kernel_rfl) (by kernel_rfl) (by kernel_rfl) (fun _ _ _ h => h) (Or.inl ⟨by rfl, ?_⟩) ?_
              rotate_left
              focus (intro w; go_simp; try with_reducible rfl)
              simp only [Act.put]
              refine wpAny_ready (rs := [10]) (by kernel_rfl) (by simp) ?_
              refine AllReady.cons rfl (fun K hK => ?_) AllReady.nil
              go_simp
              refine hK _ _ ?_
              clear hK K
              refine wpAny_done (by kernel_rfl) ?_ _
              go_wp2_with fail
              go_roundg (gk - 1)
              case measure => omega
              case rel => exact ⟨j + 1, by omega, by go_num, _, _, O4.out.put _, by show NInv _ _ _ _ _ _; rw [HSN.out]; exact N4.out.put (g := w.heap.size + 2) (o := 3) (by omega) HIG.out _⟩
            · go_simp
              refine hK _ _ ?_
              clear hK K
              refine wpAny_ready (rs := [1]) (by kernel_rfl) (by simp) ?_
              refine AllReady.cons rfl (fun K hK => ?_) AllReady.nil
              go_simp
              refine hK _ _ ?_
              clear hK K
              refine wpAny_ready (rs := [8]) (by kernel_rfl) (by simp) ?_
              refine AllReady.cons rfl (fun K hK => ?_) AllReady.nil
              refine step_append_run rfl _ _ _ _ rfl _ _ _ _ rfl rfl HR.out ?_
              refine hK _ _ ?_
              clear hK K
              simp only [Act.put, List.setIfInBounds_toArray]
              refine wpAny_take_at (i := 9) (some 51) (v := ?_) rfl rfl (by kernel_rfl) (by kernel_rfl) (by kernel_rfl) (fun _ _ _ h => h) (Or.inl ⟨by rfl, ?_⟩) ?_
              rotate_left
              focus (intro w; go_simp; try with_reducible rfl)
              simp only [Act.put]
              refine wpAny_ready (rs := [10]) (by kernel_rfl) (by simp) ?_
              refine AllReady.cons rfl (fun K hK => ?_) AllReady.nil
              go_simp
              refine hK _ _ ?_
              clear hK K
              refine wpAny_done (by kernel_rfl) ?_ _
              go_wp2_with fail
              go_roundg (gk - 1)
              case measure => omega
              case rel => exact ⟨j + 1, by omega, by go_num, _, _, O4.out.put _, by show NInv _ _ _ _ _ _; rw [HSN.out]; exact N4.out.put (g := w.heap.size + 2) (o := 3) (by omega) HIG.out _⟩
      · have HTK := Lib.hid (show renL f t s (ks.take j) = renL f t s ks by rw [List.take_of_length_le (by omega)])
        have r2 : wr.heap[w.heap.size + 1]? = some (.cells #[.string ⟨#[]⟩, .string ⟨#[]⟩, .int .i64 0, .slice none 0 0] 24 (0, 0)) := by rw [ho.out.st.block _ (by omega)]; exact R1.out
        have fr : ∀ i, wr.frozen? ⟨w.heap.size + 1, i, none⟩ = false := fun i => by simp [World.frozen?, r2]
        obtain ⟨z0, z1, z2, z3⟩ : wr.cell? ⟨w.heap.size + 1, 0, none⟩ = some (.string ⟨#[]⟩) ∧ wr.cell? ⟨w.heap.size + 1, 1, none⟩ = some (.string ⟨#[]⟩) ∧ wr.cell? ⟨w.heap.size + 1, 2, none⟩ = some (.int .i64 0) ∧ wr.cell? ⟨w.heap.size + 1, 3, none⟩ = some (.slice none 0 0) := by simp [World.cell?, r2]
        have X := Lib.hid (show ∀ a b c d, Below w.heap.size w ((((wr.setCell ⟨w.heap.size + 1, 0, none⟩ a).setCell ⟨w.heap.size + 1, 1, none⟩ b).setCell ⟨w.heap.size + 1, 2, none⟩ c).setCell ⟨w.heap.size + 1, 3, none⟩ d) from fun a b c d =>
          SR.out.below.trans (((((Below.refl _ wr).setCell (p := ⟨w.heap.size + 1, 0, none⟩) (by simp) a).setCell (p := ⟨w.heap.size + 1, 1, none⟩) (by simp) b).setCell (p := ⟨w.heap.size + 1, 2, none⟩) (by simp) c).setCell (p := ⟨w.heap.size + 1, 3, none⟩) (by simp) d))
        have NF := Lib.hid (fun a b c d => (((hn.out.put (g := w.heap.size + 1) (o := 0) (by omega) HIR.out a).put (g := w.heap.size + 1) (o := 1) (by omega) HIR.out b).put (g := w.heap.size + 1) (o := 2) (by omega) HIR.out c).put (g := w.heap.size + 1) (o := 3) (by omega) HIR.out d)
        obtain ⟨o0, o1, o2, o3⟩ := ho.out.cells
        clear r2
        go_wp2_with fail
        (try simp only [Exit.inBlock, Exit.then])
        refine bodyPost_ret (by simp [results, Tryz.results13, go_sem, z0, z1, z2, z3]; try rfl) rfl ?_
        rw [HRN.out]
        refine ⟨⟨_, rfl, ?_⟩, X.out _ _ _ _⟩
        have h := (NF.out (.string k) (.string x) (.int .i64 n) (.slice xa xn xc)).tree k x n
        rw [HTK.out] at h
        exact (IsT.mono (fun i hi => ⟨hi.1.imp id (fun h => by omega), hi.2⟩) h)
  · have hkn' : (k.toList == [78, 97, 109, 101]) = false := by simpa using hkn
    clear hx hkn
    go_enter Tryz.func13, Tryz.ntmps13
    go_wp2_with fail
    rw [← hws] at SW R1 O0 ⊢
    clear hws
    go_loopg [38] (ks.length) (fun k' i wr => ∃ j : Nat, j + k' = ks.length ∧ i = .int .i64 j ∧ ∃ xv kvs, Hid (OutS ws (w.heap.size + 2) k x n wr xv) ∧ Hid (NInv (OldB W0) (w.heap.size + 3) wr xv (renL f t s (ks.take j)) kvs))
    case atStart => exact ⟨0, by omega, rfl, _, [], O0.out, by show NInv _ _ _ _ _ _; simp only [List.take_zero, renL]; exact NInv.nil _ _ _⟩
    case round =>
      obtain ⟨j, hj, rfl, xv, kvs, ho, hn⟩ := hrel
      obtain ⟨xa, xc, hxv⟩ := hn.out.form
      obtain ⟨xn, hxn⟩ : ∃ xn, xn = (renL f t s (ks.take j)).length := ⟨_, rfl⟩
      rw [← hxn] at hxv
      have HXN := Lib.hid hxn
      clear hxn
      subst hxv
      have SR := Lib.hid (St.over SW.out HW.out (ho.out.st.mono (by omega)))
      by_cases hlt : j < ks.length
      · obtain ⟨b, off, rfl, hk⟩ := HK.out.resolve_left (by intro e; subst e; simp at hlt)
        obtain ⟨ka, kc, hkid, hat⟩ := hk j hlt
        obtain ⟨p0, p1, p2, p3⟩ := hkid wr SR.out.later
        have SD := Lib.hid ((SR.out.on (box_below wr (.cells #[.string ks[j].kind, .string ks[j].text, .int .i64 ks[j].num, .slice ka ks[j].kids.length kc] 24))).on (Below.refl _ _).drew)
        have BD := (box_below wr (.cells #[.string ks[j].kind, .string ks[j].text, .int .i64 ks[j].num, .slice ka ks[j].kids.length kc] 24)).drew
        have OD := Lib.hid (ho.out.on BD)
        have ND := Lib.hid (hn.out.below BD)
        have o1 := OD.out.cells.2.2.2
        have HWD := Lib.hid (show w.heap.size + 3 ≤ (wr.alloc (.cells #[.string ks[j].kind, .string ks[j].text, .int .i64 ks[j].num, .slice ka ks[j].kids.length kc] 24)).drew.heap.size from by have := ho.out.sz; simp; omega)
        have LEN := Lib.hid (show (renL f t s (ks.take j)).length ≤ 1000 by rw [renL_length, List.length_take]; have := HLN.out; omega)
        have HSN := Lib.hid (renL_snoc f t s ks hlt)
        have IH := Lib.hid (fun W hW => IH0.out j hlt _ hat W hW)
        clear hk hkid hat BD
        generalize renT f t s ks[j] = RT at *
        go_wp2_with fail
        refine wp_region_any (by kernel_rfl) ?_
        change wpAny _ _ _ _ _ _ _ (World.drew _)
        refine wpAny_take_at (i := 0) (some 42) (v := ?_) rfl rfl (by kernel_rfl) (by kernel_rfl) (by kernel_rfl) (fun _ _ _ h => h) (Or.inl ⟨by rfl, ?_⟩) ?_
        rotate_left
        focus (intro w; go_simp; try with_reducible rfl)
        simp only [Act.put, List.setIfInBounds_toArray, List.set_cons_succ, List.set_cons_zero]
        refine wpAny_take_at (i := 3) (some 45) (v := ?_) rfl rfl (by kernel_rfl) (by kernel_rfl) (by kernel_rfl) (fun _ _ _ h => h) (Or.inl ⟨by rfl, ?_⟩) ?_
        rotate_left
        focus (intro w; go_simp; try with_reducible rfl)
        simp only [Act.put, List.setIfInBounds_toArray, List.set_cons_succ, List.set_cons_zero]
        refine wpAny_take_at (i := 4) (some 46) (v := ?_) rfl rfl (by kernel_rfl) (by kernel_rfl) (by kernel_rfl) (fun _ _ _ h => h) (Or.inl ⟨by rfl, ?_⟩) ?_
        rotate_left
        focus (intro w; go_simp; try with_reducible rfl)
        simp only [Act.put, List.setIfInBounds_toArray, List.set_cons_succ, List.set_cons_zero]
        refine wpAny_take_at (i := 5) (some 47) (v := ?_) rfl rfl (by kernel_rfl) (by kernel_rfl) (by kernel_rfl) (fun _ _ _ h => h) (Or.inl ⟨by rfl, ?_⟩) ?_
        rotate_left
        focus (intro w; go_simp; try with_reducible rfl)
        simp only [Act.put, List.setIfInBounds_toArray, List.set_cons_succ, List.set_cons_zero]
        refine wpAny_ready (rs := [1, 2]) (by kernel_rfl) (by simp) ?_
        refine AllReady.cons rfl (fun K hK => ?_) (AllReady.cons rfl (fun K hK => ?_) AllReady.nil)
        · go_simp
          refine hK _ _ ?_
          clear hK K
          refine wpAny_ready (rs := [2]) (by kernel_rfl) (by simp) ?_
          refine AllReady.cons rfl (fun K hK => ?_) AllReady.nil
          go_simp
          refine hK _ _ ?_
          clear hK K
          refine wpAny_ready (rs := [6]) (by kernel_rfl) (by simp) ?_
          refine AllReady.cons rfl (fun K hK => ?_) AllReady.nil
          go_simp
          refine (IH.out _ SD.out.later).mono ?_
          rintro e w2 ⟨⟨kv, rfl, hr⟩, b2⟩
          obtain ⟨ka', kc', hkv⟩ := IsT.form hr
          have hkv' : kv = .slice ka' RT.kids.length kc' := by simpa [nv] using hkv
          subst hkv'
          obtain ⟨v4, w4, hrun, hinv4, b4, hz4⟩ := append_node (B := w.heap.size + 3) HWD.out HIB.out ND.out b2 hr LEN.out rfl
          obtain ⟨a4, c4, hv4⟩ := hinv4.form
          obtain ⟨n4, hn4⟩ : ∃ n4, n4 = (renL f t s (ks.take j) ++ [RT]).length := ⟨_, rfl⟩
          rw [← hn4] at hv4
          clear hn4
          subst hv4
          have HR := Lib.hid hrun
          have O2 := OD.out.on b2
          have o2 := O2.cells.2.2.2
          have o3 := (O2.on (box_below w2 (.cells #[.string RT.kind, .string RT.text, .int .i64 RT.num, .slice ka' RT.kids.length kc'] 24))).cells.2.2.2
          have O4 := Lib.hid (OD.out.over b4)
          have N4 := Lib.hid hinv4
          obtain ⟨y0, y1, y2, y3⟩ := O4.out.cells
          have f4 := O4.out.free
          clear hr hrun hinv4 b2 b4 hkv O2 hz4
          go_wp2_with fail
          refine wpAny_ready (rs := [7]) (by kernel_rfl) (by simp) ?_
          refine AllReady.cons rfl (fun K hK => ?_) AllReady.nil
          go_simp
          refine hK _ _ ?_
          clear hK K
          refine wpAny_ready (rs := [8]) (by kernel_rfl) (by simp) ?_
          refine AllReady.cons rfl (fun K hK => ?_) AllReady.nil
          refine step_append_run rfl _ _ _ _ rfl _ _ _ _ rfl rfl HR.out ?_
          refine hK _ _ ?_
          clear hK K
          simp only [Act.put, List.setIfInBounds_toArray]
          refine wpAny_take_at (i := 9) (some 51) (v := ?_) rfl rfl (by kernel_rfl) (by kernel_rfl) (by kernel_rfl) (fun _ _ _ h => h) (Or.inl ⟨by rfl, ?_⟩) ?_
          rotate_left
          focus (intro w; go_simp; try with_reducible rfl)
          simp only [Act.put]
          refine wpAny_ready (rs := [10]) (by kernel_rfl) (by simp) ?_
          refine AllReady.cons rfl (fun K hK => ?_) AllReady.nil
          go_simp
          refine hK _ _ ?_
          clear hK K
          refine wpAny_done (by kernel_rfl) ?_ _
          go_wp2_with fail
          go_roundg (gk - 1)
          case measure => omega
          case rel => exact ⟨j + 1, by omega, by go_num, _, _, O4.out.put _, by show NInv _ _ _ _ _ _; rw [HSN.out]; exact N4.out.put (g := w.heap.size + 2) (o := 3) (by omega) HIG.out _⟩
        · go_simp
          refine hK _ _ ?_
          clear hK K
          refine wpAny_ready (rs := [1, 6]) (by kernel_rfl) (by simp) ?_
          refine AllReady.cons rfl (fun K hK => ?_) (AllReady.cons rfl (fun K hK => ?_) AllReady.nil)
          · go_simp
            refine hK _ _ ?_
            clear hK K
            refine wpAny_ready (rs := [6]) (by kernel_rfl) (by simp) ?_
            refine AllReady.cons rfl (fun K hK => ?_) AllReady.nil
            go_simp
            refine (IH.out _ SD.out.later).mono ?_
            rintro e w2 ⟨⟨kv, rfl, hr⟩, b2⟩
            obtain ⟨ka', kc', hkv⟩ := IsT.form hr
            have hkv' : kv = .slice ka' RT.kids.length kc' := by simpa [nv] using hkv
            subst hkv'
            obtain ⟨v4, w4, hrun, hinv4, b4, hz4⟩ := append_node (B := w.heap.size + 3) HWD.out HIB.out ND.out b2 hr LEN.out rfl
            obtain ⟨a4, c4, hv4⟩ := hinv4.form
            obtain ⟨n4, hn4⟩ : ∃ n4, n4 = (renL f t s (ks.take j) ++ [RT]).length := ⟨_, rfl⟩
            rw [← hn4] at hv4
            clear hn4
            subst hv4
            have HR := Lib.hid hrun
            have O2 := OD.out.on b2
            have o2 := O2.cells.2.2.2
            have o3 := (O2.on (box_below w2 (.cells #[.string RT.kind, .string RT.text, .int .i64 RT.num, .slice ka' RT.kids.length kc'] 24))).cells.2.2.2
            have O4 := Lib.hid (OD.out.over b4)
            have N4 := Lib.hid hinv4
            obtain ⟨y0, y1, y2, y3⟩ := O4.out.cells
            have f4 := O4.out.free
            clear hr hrun hinv4 b2 b4 hkv O2 hz4
            go_wp2_with fail
            refine wpAny_ready (rs := [7]) (by kernel_rfl) (by simp) ?_
            refine AllReady.cons rfl (fun K hK => ?_) AllReady.nil
            go_simp
            refine hK _ _ ?_
            clear hK K
            refine wpAny_ready (rs := [8]) (by kernel_rfl) (by simp) ?_
            refine AllReady.cons rfl (fun K hK => ?_) AllReady.nil
            refine step_append_run rfl _ _ _ _ rfl _ _ _ _ rfl rfl HR.out ?_
            refine hK _ _ ?_
            clear hK K
            simp only [Act.put, List.setIfInBounds_toArray]
            refine wpAny_take_at (i := 9) (some 51) (v := ?_) rfl rfl (by kernel_rfl) (by kernel_rfl) (by kernel_rfl) (fun _ _ _ h => h) (Or.inl ⟨by rfl, ?_⟩) ?_
            rotate_left
            focus (intro w; go_simp; try with_reducible rfl)
            simp only [Act.put]
            refine wpAny_ready (rs := [10]) (by kernel_rfl) (by simp) ?_
            refine AllReady.cons rfl (fun K hK => ?_) AllReady.nil
            go_simp
            refine hK _ _ ?_
            clear hK K
            refine wpAny_done (by kernel_rfl) ?_ _
            go_wp2_with fail
            go_roundg (gk - 1)
            case measure => omega
            case rel => exact ⟨j + 1, by omega, by go_num, _, _, O4.out.put _, by show NInv _ _ _ _ _ _; rw [HSN.out]; exact N4.out.put (g := w.heap.size + 2) (o := 3) (by omega) HIG.out _⟩
          · go_simp
            refine (IH.out _ SD.out.later).mono ?_
            rintro e w2 ⟨⟨kv, rfl, hr⟩, b2⟩
            obtain ⟨ka', kc', hkv⟩ := IsT.form hr
            have hkv' : kv = .slice ka' RT.kids.length kc' := by simpa [nv] using hkv
            subst hkv'
            obtain ⟨v4, w4, hrun, hinv4, b4, hz4⟩ := append_node (B := w.heap.size + 3) HWD.out HIB.out ND.out b2 hr LEN.out rfl
            obtain ⟨a4, c4, hv4⟩ := hinv4.form
            obtain ⟨n4, hn4⟩ : ∃ n4, n4 = (renL f t s (ks.take j) ++ [RT]).length := ⟨_, rfl⟩
            rw [← hn4] at hv4
            clear hn4
            subst hv4
            have HR := Lib.hid hrun
            have O2 := OD.out.on b2
            have o2 := O2.cells.2.2.2
            have o3 := (O2.on (box_below w2 (.cells #[.string RT.kind, .string RT.text, .int .i64 RT.num, .slice ka' RT.kids.length kc'] 24))).cells.2.2.2
            have O4 := Lib.hid (OD.out.over b4)
            have N4 := Lib.hid hinv4
            obtain ⟨y0, y1, y2, y3⟩ := O4.out.cells
            have f4 := O4.out.free
            clear hr hrun hinv4 b2 b4 hkv O2 hz4
            go_wp2_with fail
            refine wpAny_ready (rs := [1, 7]) (by kernel_rfl) (by simp) ?_
            refine AllReady.cons rfl (fun K hK => ?_) (AllReady.cons rfl (fun K hK => ?_) AllReady.nil)
            · go_simp
              refine hK _ _ ?_
              clear hK K
              refine wpAny_ready (rs := [7]) (by kernel_rfl) (by simp) ?_
              refine AllReady.cons rfl (fun K hK => ?_) AllReady.nil
              go_simp
              refine hK _ _ ?_
              clear hK K
              refine wpAny_ready (rs := [8]) (by kernel_rfl) (by simp) ?_
              refine AllReady.cons rfl (fun K hK => ?_) AllReady.nil
              refine step_append_run rfl _ _ _ _ rfl _ _ _ _ rfl rfl HR.out ?_
              refine hK _ _ ?_
              clear hK K
              simp only [Act.put, List.setIfInBounds_toArray]
              refine wpAny_take_at (i := 9) (some 51) (v := ?_) rfl rfl (by kernel_rfl) (by kernel_rfl) (by kernel_rfl) (fun _ _ _ h => h) (Or.inl ⟨by rfl, ?_⟩) ?_
              rotate_left
              focus (intro w; go_simp; try with_reducible rfl)
              simp only [Act.put]
              refine wpAny_ready (rs := [10]) (by kernel_rfl) (by simp) ?_
              refine AllReady.cons rfl (fun K hK => ?_) AllReady.nil
              go_simp
              refine hK _ _ ?_
              clear hK K
              refine wpAny_done (by kernel_rfl) ?_ _
              go_wp2_with fail
              go_roundg (gk - 1)
              case measure => omega
              case rel => exact ⟨j + 1, by omega, by go_num, _, _, O4.out.put _, by show NInv _ _ _ _ _ _; rw [HSN.out]; exact N4.out.put (g := w.heap.size + 2) (o := 3) (by omega) HIG.out _⟩
            · go_simp
              refine hK _ _ ?_
              clear hK K
              refine wpAny_ready (rs := [1]) (by kernel_rfl) (by simp) ?_
              refine AllReady.cons rfl (fun K hK => ?_) AllReady.nil
              go_simp
              refine hK _ _ ?_
              clear hK K
              refine wpAny_ready (rs := [8]) (by kernel_rfl) (by simp) ?_
              refine AllReady.cons rfl (fun K hK => ?_) AllReady.nil
              refine step_append_run rfl _ _ _ _ rfl _ _ _ _ rfl rfl HR.out ?_
              refine hK _ _ ?_
              clear hK K
              simp only [Act.put, List.setIfInBounds_toArray]
              refine wpAny_take_at (i := 9) (some 51) (v := ?_) rfl rfl (by kernel_rfl) (by kernel_rfl) (by kernel_rfl) (fun _ _ _ h => h) (Or.inl ⟨by rfl, ?_⟩) ?_
              rotate_left
              focus (intro w; go_simp; try with_reducible rfl)
              simp only [Act.put]
              refine wpAny_ready (rs := [10]) (by kernel_rfl) (by simp) ?_
              refine AllReady.cons rfl (fun K hK => ?_) AllReady.nil
              go_simp
              refine hK _ _ ?_
              clear hK K
              refine wpAny_done (by kernel_rfl) ?_ _
              go_wp2_with fail
              go_roundg (gk - 1)
              case measure => omega
              case rel => exact ⟨j + 1, by omega, by go_num, _, _, O4.out.put _, by show NInv _ _ _ _ _ _; rw [HSN.out]; exact N4.out.put (g := w.heap.size + 2) (o := 3) (by omega) HIG.out _⟩
      · have HTK := Lib.hid (show renL f t s (ks.take j) = renL f t s ks by rw [List.take_of_length_le (by omega)])
        have r2 : wr.heap[w.heap.size + 1]? = some (.cells #[.string ⟨#[]⟩, .string ⟨#[]⟩, .int .i64 0, .slice none 0 0] 24 (0, 0)) := by rw [ho.out.st.block _ (by omega)]; exact R1.out
        have fr : ∀ i, wr.frozen? ⟨w.heap.size + 1, i, none⟩ = false := fun i => by simp [World.frozen?, r2]
        obtain ⟨z0, z1, z2, z3⟩ : wr.cell? ⟨w.heap.size + 1, 0, none⟩ = some (.string ⟨#[]⟩) ∧ wr.cell? ⟨w.heap.size + 1, 1, none⟩ = some (.string ⟨#[]⟩) ∧ wr.cell? ⟨w.heap.size + 1, 2, none⟩ = some (.int .i64 0) ∧ wr.cell? ⟨w.heap.size + 1, 3, none⟩ = some (.slice none 0 0) := by simp [World.cell?, r2]
        have X := Lib.hid (show ∀ a b c d, Below w.heap.size w ((((wr.setCell ⟨w.heap.size + 1, 0, none⟩ a).setCell ⟨w.heap.size + 1, 1, none⟩ b).setCell ⟨w.heap.size + 1, 2, none⟩ c).setCell ⟨w.heap.size + 1, 3, none⟩ d) from fun a b c d =>
          SR.out.below.trans (((((Below.refl _ wr).setCell (p := ⟨w.heap.size + 1, 0, none⟩) (by simp) a).setCell (p := ⟨w.heap.size + 1, 1, none⟩) (by simp) b).setCell (p := ⟨w.heap.size + 1, 2, none⟩) (by simp) c).setCell (p := ⟨w.heap.size + 1, 3, none⟩) (by simp) d))
        have NF := Lib.hid (fun a b c d => (((hn.out.put (g := w.heap.size + 1) (o := 0) (by omega) HIR.out a).put (g := w.heap.size + 1) (o := 1) (by omega) HIR.out b).put (g := w.heap.size + 1) (o := 2) (by omega) HIR.out c).put (g := w.heap.size + 1) (o := 3) (by omega) HIR.out d)
        obtain ⟨o0, o1, o2, o3⟩ := ho.out.cells
        clear r2
        go_wp2_with fail
        (try simp only [Exit.inBlock, Exit.then])
        refine bodyPost_ret (by simp [results, Tryz.results13, go_sem, z0, z1, z2, z3]; try rfl) rfl ?_
        rw [HRN.out]
        refine ⟨⟨_, rfl, ?_⟩, X.out _ _ _ _⟩
        have h := (NF.out (.string k) (.string x) (.int .i64 n) (.slice xa xn xc)).tree k x n
        rw [HTK.out] at h
        exact (IsT.mono (fun i hi => ⟨hi.1.imp id (fun h => by omega), hi.2⟩) h)

theorem renamed_ok (W0 : World) (f t s : ByteArray) (tr : Tree) (hz : tr.sz ≤ 500) : RenOK W0 f t s tr := by
  induction hm : tr.sz using Nat.strongRecOn generalizing tr with
  | ind m ih =>
  obtain ⟨k, x, n, ks⟩ := tr
  cases hs : (k.toList == s.toList) with
  | true => exact ren_skip W0 f t s k x n ks hs
  | false =>
    cases hx : (k.toList == [78, 97, 109, 101] && x.toList == f.toList) with
    | true =>
      rw [Bool.and_eq_true] at hx
      obtain rfl := str_of (beq_iff_eq.1 hx.1)
      exact ren_name W0 f t s x n ks hs hx.2
    | false =>
      refine ren_rest W0 f t s k x n ks hs hx ?_ fun p hp => ?_
      · have h1 := len_szs1 ks
        simp only [Tree.sz] at hz
        omega
      · have := Tree.sz_lt (t := .node k x n ks) hp
        exact ih p.sz (by omega) p (by omega) rfl

end Go.Proofs.YtnhccgbkalpcnaaGreatDoor

namespace Go.Proofs.YtnhccgbkalpcnaaGreatDoor
open Go.RowKit

def NF (_ : Nat) : Prop := False
/-- a world in which the elements lie as they did -/
structure MS (w0 : World) (I : Nat → Prop) (wi : World) : Prop where
  same : Same I w0 wi
  lt : ∀ i, I i → i < wi.heap.size
theorem MS.on {w0 : World} {I : Nat → Prop} {wi w' : World} (h : MS w0 I wi) (hb : Below wi.heap.size wi w') : MS w0 I w' := ⟨h.same.trans (Same.below hb h.lt), fun i hi => Nat.lt_of_lt_of_le (h.lt i hi) hb.size⟩

/-- the node that is made of an element -/
def NodeR (t : Tree) (w w' : World) (e : Ending) : Prop := (∃ kv, e = .returned (.agg #[.string t.kind, .string t.text, .int .i64 t.num, kv]) ∧ ITN NF w.heap.size w' t (.agg #[.string t.kind, .string t.text, .int .i64 t.num, kv])) ∧ Below w.heap.size w w'
def MkOK (w0 : World) (I : Nat → Prop) (t : Tree) (u : Value) : Prop := ∀ w, MS w0 I w → Calls Tryz.prog 28 #[u] w fun e w' => NodeR t w w' e

theorem number_ok (b : Bool) (w : World) : Calls Tryz.prog 46 #[.bool b] w fun e w' => e = .returned (.int .i64 (if b = true then 1 else 0)) ∧ w = w' := by
  cases b with
  | false =>
    go_enter Tryz.func46, Tryz.ntmps46
    go_wp2_with fail
    go_ret
    exact ⟨rfl, rfl⟩
  | true =>
    go_enter Tryz.func46, Tryz.ntmps46
    go_wp2_with fail
    go_ret
    exact ⟨rfl, rfl⟩

theorem SliceOf.mone {w : World} {I : Nat → Prop} {v : Value} {us : List Value} (h : SliceOf w I v us) {w' : World} (hb : Below w.heap.size w w') (hI : ∀ i, I i → i < w.heap.size) : SliceOf w' I v us := h.same (Same.below hb hI)

set_option maxRecDepth 100000 in
set_option maxHeartbeats 2000000 in
theorem with_ok {a sv : Value} {us : List Value} {w : World} {J : Nat → Prop} (hs : SliceOf w J sv us) (hJ : ∀ i, J i → i < w.heap.size) (ha : a = .nilIface ∨ ∃ T p, a = .iface T p) (hu : ∀ u ∈ us, u.oneCell' = true) (hl : us.length ≤ 1000) :
    Calls Tryz.prog 47 #[a, sv] w fun e w' => (∃ r, e = .returned r ∧ SliceOf w' (fun i => w.heap.size ≤ i ∧ i < w'.heap.size) r (a :: us)) ∧ Below w.heap.size w w' := by
  obtain ⟨i0, hi, hz0, hz1, hz2⟩ := info_parts infoAST
  have b1 := box_below w (.cells #[a] 38)
  have HS := Lib.hid (hs.mone b1 hJ)
  have OW := Lib.hid (show (w.alloc (.cells #[a] 38)).ownsRow w.heap.size 38 1 (.slice (some ⟨w.heap.size, 0, none⟩) 1 1) 1 [a] from
    ⟨by simp, .inr ⟨w.heap.size, 1, #[a], rfl, Nat.le_refl _, heap_alloc_new w _, Nat.le_refl _, by simp [maxLen], by simp, by simp⟩⟩)
  obtain ⟨sa, sc, rfl, _⟩ := hs.lay
  have B1 := Lib.hid b1
  clear hs b1
  rcases ha with rfl | ⟨T, p, rfl⟩
  · go_enter Tryz.func47, Tryz.ntmps47
    go_wp2_with (first
      | (at_builtin; refine wpList_append_row rfl _ _ 70 rfl w.heap.size 38 i0 .nilIface 16 Tryz.underlying70 hi hz0 hz1 hz2 rfl _ 1 _ rfl OW.out _ us rfl HS.out hu (by unfold maxLen; omega) (by omega) (by simp) ?_
         intro v3 w3 hown3 hg3
         have X := Lib.hid (And.intro hown3 (show World.grownBy _ w3 (some w.heap.size) from hg3))
         clear hown3 hg3))
    go_ret
    refine ⟨⟨_, rfl, ?_⟩, B1.out.grown X.out.2 (by simp) (fun k hk => by have := Option.some.inj hk; omega)⟩
    have h := SliceOf.owned (I := fun i => w.heap.size ≤ i ∧ i < w3.heap.size) X.out.1 (fun i h1 h2 => ⟨h1, h2⟩)
    simpa using h
  · go_enter Tryz.func47, Tryz.ntmps47
    go_wp2_with (first
      | (at_builtin; refine wpList_append_row rfl _ _ 70 rfl w.heap.size 38 i0 .nilIface 16 Tryz.underlying70 hi hz0 hz1 hz2 rfl _ 1 _ rfl OW.out _ us rfl HS.out hu (by unfold maxLen; omega) (by omega) (by simp) ?_
         intro v3 w3 hown3 hg3
         have X := Lib.hid (And.intro hown3 (show World.grownBy _ w3 (some w.heap.size) from hg3))
         clear hown3 hg3))
    go_ret
    refine ⟨⟨_, rfl, ?_⟩, B1.out.grown X.out.2 (by simp) (fun k hk => by have := Option.some.inj hk; omega)⟩
    have h := SliceOf.owned (I := fun i => w.heap.size ≤ i ∧ i < w3.heap.size) X.out.1 (fun i h1 h2 => ⟨h1, h2⟩)
    simpa using h

theorem append_node2 {B : Nat} {wd w2 : World} {x : Value} {ts : List Tree} {kvs : List Value} {t : Tree} {kv : Value} (hB : B ≤ wd.heap.size) (hinv : NInv NF B wd x ts kvs) (b2 : Below wd.heap.size wd w2)
    (hr : ITN NF wd.heap.size w2 t (nv t kv)) (hlen : ts.length ≤ 1000) (hone : kv.oneCell' = true) :
    ∃ v4 w4, (Builtin.append_ #[22, 22] 22 #[x, .slice (some ⟨w2.heap.size, 0, none⟩) 1 1]).run Tryz.prog (w2.alloc (.cells #[.string t.kind, .string t.text, .int .i64 t.num, kv] 24)) = .ok v4 w4 ∧
      NInv NF B w4 v4 (ts ++ [t]) (kvs ++ [kv]) ∧ Below B wd w4 ∧ w2.heap.size < w4.heap.size := append_node hB (fun _ h => h.elim) hinv b2 hr hlen hone

set_option maxRecDepth 100000 in
set_option maxHeartbeats 4000000 in
theorem node_ok {w0 : World} {I J : Nat → Prop} (k x : ByteArray) (n : Int) {sv : Value} {us : List Value} {ts : List Tree} {w : World} (hM : MS w0 I w) (hs : SliceOf w J sv us) (hJ : ∀ i, J i → i < w.heap.size) (hm : us.length = ts.length) (hl : us.length ≤ 1000)
    (hk : ∀ i (h : i < ts.length) (h2 : i < us.length), MkOK w0 I ts[i] us[i]) (hu : ∀ u ∈ us, u.oneCell' = true) :
    Calls Tryz.prog 45 #[.string k, .string x, .int .i64 n, sv] w fun e w' => NodeR (.node k x n ts) w w' e := by
  obtain ⟨sa, sc, rfl, _, hc2, h3⟩ := hs.lay
  have H3 := Lib.hid h3
  have HM := Lib.hid hm
  have HL := Lib.hid hl
  have HK := Lib.hid hk
  have HJ := Lib.hid hJ
  have HMS := Lib.hid hM
  have HU := Lib.hid hu
  have BS := Lib.hid (show Below w.heap.size w ((w.alloc (.cells #[.string ⟨#[]⟩, .string ⟨#[]⟩, .int .i64 0, .slice none 0 0] 24)).alloc (.cells #[.string k, .string x, .int .i64 n, .slice none 0 0] 24)) from (box_below w _).trans ((box_below _ _).mono (by simp)))
  have R1 := Lib.hid (show ((w.alloc (.cells #[.string ⟨#[]⟩, .string ⟨#[]⟩, .int .i64 0, .slice none 0 0] 24)).alloc (.cells #[.string k, .string x, .int .i64 n, .slice none 0 0] 24)).heap[w.heap.size]? = some (.cells #[.string ⟨#[]⟩, .string ⟨#[]⟩, .int .i64 0, .slice none 0 0] 24 (0, 0)) from by
    rw [(box_below _ _).block _ (by simp)]
    exact heap_alloc_new w (.cells #[.string ⟨#[]⟩, .string ⟨#[]⟩, .int .i64 0, .slice none 0 0] 24))
  have O0 := Lib.hid (show OutS ((w.alloc (.cells #[.string ⟨#[]⟩, .string ⟨#[]⟩, .int .i64 0, .slice none 0 0] 24)).alloc (.cells #[.string k, .string x, .int .i64 n, .slice none 0 0] 24)) (w.heap.size + 1) k x n ((w.alloc (.cells #[.string ⟨#[]⟩, .string ⟨#[]⟩, .int .i64 0, .slice none 0 0] 24)).alloc (.cells #[.string k, .string x, .int .i64 n, .slice none 0 0] 24)) (.slice none 0 0) from ⟨Below.refl _ _, by simp, by simpa using heap_alloc_new (w.alloc (.cells #[.string ⟨#[]⟩, .string ⟨#[]⟩, .int .i64 0, .slice none 0 0] 24)) (.cells #[.string k, .string x, .int .i64 n, .slice none 0 0] 24)⟩)
  obtain ⟨ws, hws⟩ : ∃ ws, ws = ((w.alloc (.cells #[.string ⟨#[]⟩, .string ⟨#[]⟩, .int .i64 0, .slice none 0 0] 24)).alloc (.cells #[.string k, .string x, .int .i64 n, .slice none 0 0] 24)) := ⟨_, rfl⟩
  clear hs h3 hm hk hJ hM hu
  have hnl : (us.length : Int) ≤ 9223372036854775807 := by omega
  clear hc2
  go_enter Tryz.func45, Tryz.ntmps45
  go_wp2_with fail
  rw [← hws] at BS R1 O0 ⊢
  clear hws
  go_loopg [18] (us.length) (fun k' i wr => ∃ j : Nat, j + k' = us.length ∧ i = .int .i64 j ∧ ∃ xv kvs, Hid (OutS ws (w.heap.size + 1) k x n wr xv) ∧ Hid (NInv NF (w.heap.size + 2) wr xv (ts.take j) kvs))
  case atStart => exact ⟨0, by omega, rfl, _, [], O0.out, by show NInv _ _ _ _ _ _; simp only [List.take_zero]; exact NInv.nil _ _ _⟩
  case round =>
    obtain ⟨j, hj, rfl, xv, kvs, ho, hn⟩ := hrel
    obtain ⟨xa, xc, hxv⟩ := hn.out.form
    obtain ⟨xn, hxn⟩ : ∃ xn, xn = (ts.take j).length := ⟨_, rfl⟩
    rw [← hxn] at hxv
    clear hxn
    subst hxv
    have BR := Lib.hid (BS.out.trans (ho.out.st.mono (by omega)))
    by_cases hlt : j < us.length
    · have hlt' : j < ts.length := by have := HM.out; omega
      obtain ⟨bb, off, rfl, hbb, hcell⟩ := H3.out.resolve_left (by intro e; rw [e] at hlt; simp at hlt)
      have hc3 : wr.cell? ⟨bb, off + j, none⟩ = some us[j] := by
        rw [BR.out.cell (p := ⟨bb, off + j, none⟩) (HJ.out _ hbb)]
        exact hcell j _ (List.getElem?_eq_getElem hlt)
      have hone := HU.out us[j] (List.getElem_mem hlt)
      have SR := HMS.out.on BR.out
      have SD := Lib.hid (show MS w0 I wr.drew from ⟨SR.same, SR.lt⟩)
      have OD := Lib.hid (ho.out.on (Below.refl _ _).drew)
      have ND := Lib.hid (hn.out.below (Below.refl _ _).drew)
      have o1 := OD.out.cells.2.2.2
      have HWD := Lib.hid (show w.heap.size + 2 ≤ wr.drew.heap.size from by have := ho.out.sz; show _ ≤ wr.heap.size; omega)
      have LEN := Lib.hid (show (ts.take j).length ≤ 1000 by rw [List.length_take]; have := HL.out; omega)
      have HSN := Lib.hid (show ts.take (j + 1) = ts.take j ++ [ts[j]] from List.take_succ_eq_append_getElem hlt')
      have CK := Lib.hid (fun W hW => HK.out j hlt' hlt W hW)
      clear hcell hbb SR
      generalize ts[j] = RT at *
      generalize us[j] = uj at *
      go_wp2_with fail
      refine wp_region_any (by kernel_rfl) ?_
      change wpAny _ _ _ _ _ _ _ (World.drew _)
      refine wpAny_take_at (i := 0) (some 22) (v := ?_) rfl rfl (by kernel_rfl) (by kernel_rfl) (by kernel_rfl) (fun _ _ _ h => h) (Or.inl ⟨by rfl, ?_⟩) ?_
      rotate_left
      focus (intro w; go_simp; try with_reducible rfl)
      simp only [Act.put, List.setIfInBounds_toArray, List.set_cons_succ, List.set_cons_zero]
      refine wpAny_take_at (i := 2) (some 24) (v := ?_) rfl rfl (by kernel_rfl) (by kernel_rfl) (by kernel_rfl) (fun _ _ _ h => h) (Or.inl ⟨by rfl, ?_⟩) ?_
      rotate_left
      focus (intro w; go_simp; try with_reducible rfl)
      simp only [Act.put, List.setIfInBounds_toArray, List.set_cons_succ, List.set_cons_zero]
      refine wpAny_ready (rs := [1, 3]) (by kernel_rfl) (by simp) ?_
      refine AllReady.cons rfl (fun K hK => ?_) (AllReady.cons rfl (fun K hK => ?_) AllReady.nil)
      · go_simp
        refine hK _ _ ?_
        clear hK K
        refine wpAny_ready (rs := [3]) (by kernel_rfl) (by simp) ?_
        refine AllReady.cons rfl (fun K hK => ?_) AllReady.nil
        go_simp
        refine (CK.out _ SD.out).mono ?_
        rintro e w2 ⟨⟨kv, rfl, hr⟩, b2⟩
        obtain ⟨ka', kc', hkv⟩ := IsT.form hr
        have hkv' : kv = .slice ka' RT.kids.length kc' := by simpa [nv] using hkv
        subst hkv'
        obtain ⟨v4, w4, hrun, hinv4, b4, hz4⟩ := append_node2 (B := w.heap.size + 2) HWD.out ND.out b2 hr LEN.out rfl
        obtain ⟨a4, c4, hv4⟩ := hinv4.form
        obtain ⟨n4, hn4⟩ : ∃ n4, n4 = (ts.take j ++ [RT]).length := ⟨_, rfl⟩
        rw [← hn4] at hv4
        clear hn4
        subst hv4
        have HR := Lib.hid hrun
        have O2 := OD.out.on b2
        have o2 := O2.cells.2.2.2
        have o3 := (O2.on (box_below w2 (.cells #[.string RT.kind, .string RT.text, .int .i64 RT.num, .slice ka' RT.kids.length kc'] 24))).cells.2.2.2
        have O4 := Lib.hid (OD.out.over b4)
        have N4 := Lib.hid hinv4
        obtain ⟨y0, y1, y2, y3⟩ := O4.out.cells
        have f4 := O4.out.free
        clear hr hrun hinv4 b2 b4 hkv O2 hz4
        go_wp2_with fail
        refine wpAny_ready (rs := [4]) (by kernel_rfl) (by simp) ?_
        refine AllReady.cons rfl (fun K hK => ?_) AllReady.nil
        go_simp
        refine hK _ _ ?_
        clear hK K
        refine wpAny_ready (rs := [5]) (by kernel_rfl) (by simp) ?_
        refine AllReady.cons rfl (fun K hK => ?_) AllReady.nil
        refine step_append_run rfl _ _ _ _ rfl _ _ _ _ rfl rfl HR.out ?_
        refine hK _ _ ?_
        clear hK K
        simp only [Act.put, List.setIfInBounds_toArray]
        refine wpAny_take_at (i := 6) (some 28) (v := ?_) rfl rfl (by kernel_rfl) (by kernel_rfl) (by kernel_rfl) (fun _ _ _ h => h) (Or.inl ⟨by rfl, ?_⟩) ?_
        rotate_left
        focus (intro w; go_simp; try with_reducible rfl)
        simp only [Act.put]
        refine wpAny_ready (rs := [7]) (by kernel_rfl) (by simp) ?_
        refine AllReady.cons rfl (fun K hK => ?_) AllReady.nil
        go_simp
        refine hK _ _ ?_
        clear hK K
        refine wpAny_done (by kernel_rfl) ?_ _
        go_wp2_with fail
        go_roundg (gk - 1)
        case measure => omega
        case rel => exact ⟨j + 1, by omega, by go_num, _, _, O4.out.put _, by show NInv _ _ _ _ _ _; rw [HSN.out]; exact N4.out.put (g := w.heap.size + 1) (o := 3) (by omega) (fun _ h => h.elim) _⟩
      · go_simp
        refine (CK.out _ SD.out).mono ?_
        rintro e w2 ⟨⟨kv, rfl, hr⟩, b2⟩
        obtain ⟨ka', kc', hkv⟩ := IsT.form hr
        have hkv' : kv = .slice ka' RT.kids.length kc' := by simpa [nv] using hkv
        subst hkv'
        obtain ⟨v4, w4, hrun, hinv4, b4, hz4⟩ := append_node2 (B := w.heap.size + 2) HWD.out ND.out b2 hr LEN.out rfl
        obtain ⟨a4, c4, hv4⟩ := hinv4.form
        obtain ⟨n4, hn4⟩ : ∃ n4, n4 = (ts.take j ++ [RT]).length := ⟨_, rfl⟩
        rw [← hn4] at hv4
        clear hn4
        subst hv4
        have HR := Lib.hid hrun
        have O2 := OD.out.on b2
        have o2 := O2.cells.2.2.2
        have o3 := (O2.on (box_below w2 (.cells #[.string RT.kind, .string RT.text, .int .i64 RT.num, .slice ka' RT.kids.length kc'] 24))).cells.2.2.2
        have O4 := Lib.hid (OD.out.over b4)
        have N4 := Lib.hid hinv4
        obtain ⟨y0, y1, y2, y3⟩ := O4.out.cells
        have f4 := O4.out.free
        clear hr hrun hinv4 b2 b4 hkv O2 hz4
        go_wp2_with fail
        refine wpAny_ready (rs := [1, 4]) (by kernel_rfl) (by simp) ?_
        refine AllReady.cons rfl (fun K hK => ?_) (AllReady.cons rfl (fun K hK => ?_) AllReady.nil)
        · go_simp
          refine hK _ _ ?_
          clear hK K
          refine wpAny_ready (rs := [4]) (by kernel_rfl) (by simp) ?_
          refine AllReady.cons rfl (fun K hK => ?_) AllReady.nil
          go_simp
          refine hK _ _ ?_
          clear hK K
          refine wpAny_ready (rs := [5]) (by kernel_rfl) (by simp) ?_
          refine AllReady.cons rfl (fun K hK => ?_) AllReady.nil
          refine step_append_run rfl _ _ _ _ rfl _ _ _ _ rfl rfl HR.out ?_
          refine hK _ _ ?_
          clear hK K
          simp only [Act.put, List.setIfInBounds_toArray]
          refine wpAny_take_at (i := 6) (some 28) (v := ?_) rfl rfl (by kernel_rfl) (by kernel_rfl) (by kernel_rfl) (fun _ _ _ h => h) (Or.inl ⟨by rfl, ?_⟩) ?_
          rotate_left
          focus (intro w; go_simp; try with_reducible rfl)
          simp only [Act.put]
          refine wpAny_ready (rs := [7]) (by kernel_rfl) (by simp) ?_
          refine AllReady.cons rfl (fun K hK => ?_) AllReady.nil
          go_simp
          refine hK _ _ ?_
          clear hK K
          refine wpAny_done (by kernel_rfl) ?_ _
          go_wp2_with fail
          go_roundg (gk - 1)
          case measure => omega
          case rel => exact ⟨j + 1, by omega, by go_num, _, _, O4.out.put _, by show NInv _ _ _ _ _ _; rw [HSN.out]; exact N4.out.put (g := w.heap.size + 1) (o := 3) (by omega) (fun _ h => h.elim) _⟩
        · go_simp
          refine hK _ _ ?_
          clear hK K
          refine wpAny_ready (rs := [1]) (by kernel_rfl) (by simp) ?_
          refine AllReady.cons rfl (fun K hK => ?_) AllReady.nil
          go_simp
          refine hK _ _ ?_
          clear hK K
          refine wpAny_ready (rs := [5]) (by kernel_rfl) (by simp) ?_
          refine AllReady.cons rfl (fun K hK => ?_) AllReady.nil
          refine step_append_run rfl _ _ _ _ rfl _ _ _ _ rfl rfl HR.out ?_
          refine hK _ _ ?_
          clear hK K
          simp only [Act.put, List.setIfInBounds_toArray]
          refine wpAny_take_at (i := 6) (some 28) (v := ?_) rfl rfl (by kernel_rfl) (by kernel_rfl) (by kernel_rfl) (fun _ _ _ h => h) (Or.inl ⟨by rfl, ?_⟩) ?_
          rotate_left
          focus (intro w; go_simp; try with_reducible rfl)
          simp only [Act.put]
          refine wpAny_ready (rs := [7]) (by kernel_rfl) (by simp) ?_
          refine AllReady.cons rfl (fun K hK => ?_) AllReady.nil
          go_simp
          refine hK _ _ ?_
          clear hK K
          refine wpAny_done (by kernel_rfl) ?_ _
          go_wp2_with fail
          go_roundg (gk - 1)
          case measure => omega
          case rel => exact ⟨j + 1, by omega, by go_num, _, _, O4.out.put _, by show NInv _ _ _ _ _ _; rw [HSN.out]; exact N4.out.put (g := w.heap.size + 1) (o := 3) (by omega) (fun _ h => h.elim) _⟩
    · have HTK := Lib.hid (show ts.take j = ts by rw [List.take_of_length_le (by have := HM.out; omega)])
      have r2 : wr.heap[w.heap.size]? = some (.cells #[.string ⟨#[]⟩, .string ⟨#[]⟩, .int .i64 0, .slice none 0 0] 24 (0, 0)) := by rw [ho.out.st.block _ (by omega)]; exact R1.out
      have fr : ∀ i, wr.frozen? ⟨w.heap.size, i, none⟩ = false := fun i => by simp [World.frozen?, r2]
      obtain ⟨z0, z1, z2, z3⟩ : wr.cell? ⟨w.heap.size, 0, none⟩ = some (.string ⟨#[]⟩) ∧ wr.cell? ⟨w.heap.size, 1, none⟩ = some (.string ⟨#[]⟩) ∧ wr.cell? ⟨w.heap.size, 2, none⟩ = some (.int .i64 0) ∧ wr.cell? ⟨w.heap.size, 3, none⟩ = some (.slice none 0 0) := by simp [World.cell?, r2]
      have X := Lib.hid (show ∀ a b c d, Below w.heap.size w ((((wr.setCell ⟨w.heap.size, 0, none⟩ a).setCell ⟨w.heap.size, 1, none⟩ b).setCell ⟨w.heap.size, 2, none⟩ c).setCell ⟨w.heap.size, 3, none⟩ d) from fun a b c d =>
        BR.out.trans (((((Below.refl _ wr).setCell (p := ⟨w.heap.size, 0, none⟩) (by simp) a).setCell (p := ⟨w.heap.size, 1, none⟩) (by simp) b).setCell (p := ⟨w.heap.size, 2, none⟩) (by simp) c).setCell (p := ⟨w.heap.size, 3, none⟩) (by simp) d))
      have NFN := Lib.hid (fun a b c d => (((hn.out.put (g := w.heap.size) (o := 0) (by omega) (fun _ h => h.elim) a).put (g := w.heap.size) (o := 1) (by omega) (fun _ h => h.elim) b).put (g := w.heap.size) (o := 2) (by omega) (fun _ h => h.elim) c).put (g := w.heap.size) (o := 3) (by omega) (fun _ h => h.elim) d)
      obtain ⟨o0, o1, o2, o3⟩ := ho.out.cells
      clear r2
      go_wp2_with fail
      (try simp only [Exit.inBlock, Exit.then])
      refine bodyPost_ret (by simp [results, Tryz.results45, go_sem, z0, z1, z2, z3]; try rfl) rfl ?_
      refine ⟨⟨.slice xa xn xc, rfl, ?_⟩, X.out _ _ _ _⟩
      have h := (NFN.out (.string k) (.string x) (.int .i64 n) (.slice xa xn xc)).tree k x n
      rw [HTK.out] at h
      exact (IsT.mono (fun i hi => ⟨hi.1.imp id (fun h => by omega), hi.2⟩) h)

end Go.Proofs.YtnhccgbkalpcnaaGreatDoor

namespace Go.Proofs.YtnhccgbkalpcnaaGreatDoor
open Go.RowKit

theorem node_fin {w w2 w3 : World} {t : Tree} {kv : Value} (B2 : Below w.heap.size w w2) (R2 : w2.heap[w.heap.size]? = some (.cells #[.string ⟨#[]⟩, .string ⟨#[]⟩, .int .i64 0, .slice none 0 0] 24 (0, 0))) (hr : ITN NF w2.heap.size w3 t (nv t kv)) (b3 : Below w2.heap.size w2 w3) :
    ((w3.cell? ⟨w.heap.size, 0, none⟩ = some (.string ⟨#[]⟩) ∧ w3.cell? ⟨w.heap.size, 1, none⟩ = some (.string ⟨#[]⟩) ∧ w3.cell? ⟨w.heap.size, 2, none⟩ = some (.int .i64 0) ∧ w3.cell? ⟨w.heap.size, 3, none⟩ = some (.slice none 0 0)) ∧ ∀ i, w3.frozen? ⟨w.heap.size, i, none⟩ = false) ∧
      (∃ a n c, kv = .slice a n c) ∧ ∀ a b c d, NodeR t w ((((w3.setCell ⟨w.heap.size, 0, none⟩ a).setCell ⟨w.heap.size, 1, none⟩ b).setCell ⟨w.heap.size, 2, none⟩ c).setCell ⟨w.heap.size, 3, none⟩ d) (.returned (nv t kv)) := by
  have hlt := lt_of_block R2
  have r3 : w3.heap[w.heap.size]? = some (.cells #[.string ⟨#[]⟩, .string ⟨#[]⟩, .int .i64 0, .slice none 0 0] 24 (0, 0)) := by rw [b3.block _ hlt]; exact R2
  refine ⟨⟨by simp [World.cell?, r3], fun i => by simp [World.frozen?, r3]⟩, ?_, fun a b c d => ⟨⟨kv, rfl, ?_⟩, ?_⟩⟩
  · obtain ⟨a, c, h⟩ := IsT.form hr
    exact ⟨a, _, c, by simpa [nv] using h⟩
  · refine (IsT.same (fun i hi => ?_) hr).mono fun i hi => ⟨.inr (by have := hi.1.resolve_left (fun h => h.elim); omega), by simpa [World.setCell] using hi.2⟩
    have hi2 := hi.1.resolve_left (fun h => h.elim)
    have hne : i ≠ w.heap.size := by omega
    rw [Below.heap_setCell _ _ _ _ hne, Below.heap_setCell _ _ _ _ hne, Below.heap_setCell _ _ _ _ hne, Below.heap_setCell _ _ _ _ hne]
  · exact (B2.trans (b3.mono (by omega))).trans (((((Below.refl _ w3).setCell (p := ⟨w.heap.size, 0, none⟩) (by simp) a).setCell (p := ⟨w.heap.size, 1, none⟩) (by simp) b).setCell (p := ⟨w.heap.size, 2, none⟩) (by simp) c).setCell (p := ⟨w.heap.size, 3, none⟩) (by simp) d)

theorem node_of0 {w0 : World} {I : Nat → Prop} (k x : ByteArray) (n : Int) {w1 : World} (M1 : MS w0 I w1) : Calls Tryz.prog 45 #[.string k, .string x, .int .i64 n, .slice none 0 0] w1 fun e w' => NodeR (.node k x n []) w1 w' e :=
  node_ok k x n (us := []) (J := fun _ => False) M1 (SliceOf.nil _ _) (fun _ h => h.elim) rfl (by simp) (fun i h => by simp at h) (fun u h => by simp at h)

theorem slice_one {w1 : World} (u : Value) : SliceOf (w1.alloc (.cells #[u] 38)) (fun i => i = w1.heap.size) (.slice (some ⟨w1.heap.size, 0, none⟩) 1 1) [u] := SliceOf.one w1 _ u _ rfl rfl
theorem slice_two {w1 : World} (u y : Value) : SliceOf (w1.alloc (.cells #[u, y] 38)) (fun i => i = w1.heap.size) (.slice (some ⟨w1.heap.size, 0, none⟩) 2 2) [u, y] := by
  refine .inr ⟨_, 2, rfl, Nat.le_refl _, by unfold maxLen; omega, fun _ => rfl, fun i x hx => ?_⟩
  have h := heap_alloc_new w1 (.cells #[u, y] 38)
  match i, hx with
  | 0, hx =>
    obtain rfl := Option.some.inj hx
    exact (cells2 h).1
  | 1, hx =>
    obtain rfl := Option.some.inj hx
    exact (cells2 h).2
  | i + 2, hx => simp at hx

theorem node_of1 {w0 : World} {I : Nat → Prop} (k x : ByteArray) (n : Int) {a : Tree} {u : Value} (hu : MkOK w0 I a u) (fu : u.oneCell' = true) {w1 : World} (M1 : MS w0 I w1) :
    Calls Tryz.prog 45 #[.string k, .string x, .int .i64 n, .slice (some ⟨w1.heap.size, 0, none⟩) 1 1] (w1.alloc (.cells #[u] 38)) fun e w' => NodeR (.node k x n [a]) (w1.alloc (.cells #[u] 38)) w' e :=
  node_ok k x n (us := [u]) (M1.on (box_below w1 _)) (slice_one u) (fun i h => by simp; omega) rfl (by simp) (fun i h h2 => by
    obtain rfl : i = 0 := by simpa using h
    exact hu) (fun v h => by obtain rfl : v = u := by simpa using h
                             exact fu)
theorem node_of2 {w0 : World} {I : Nat → Prop} (k x : ByteArray) (n : Int) {a c : Tree} {u y : Value} (hu : MkOK w0 I a u) (hy : MkOK w0 I c y) (fu : u.oneCell' = true) (fy : y.oneCell' = true) {w1 : World} (M1 : MS w0 I w1) :
    Calls Tryz.prog 45 #[.string k, .string x, .int .i64 n, .slice (some ⟨w1.heap.size, 0, none⟩) 2 2] (w1.alloc (.cells #[u, y] 38)) fun e w' => NodeR (.node k x n [a, c]) (w1.alloc (.cells #[u, y] 38)) w' e :=
  node_ok k x n (us := [u, y]) (M1.on (box_below w1 _)) (slice_two u y) (fun i h => by simp; omega) rfl (by simp) (fun i h h2 => by
    match i, h with
    | 0, _ => exact hu
    | 1, _ => exact hy) (fun v h => by
      rcases List.mem_cons.1 h with rfl | h
      · exact fu
      · obtain rfl : v = y := by simpa using h
        exact fy)
/-- the elements of a slice of kids -/
structure MkL (w0 : World) (I : Nat → Prop) (l : List Tree) (kv : List Value) : Prop where
  len : kv.length = l.length
  max : kv.length ≤ 900
  ok : ∀ i (h : i < l.length) (h2 : i < kv.length), MkOK w0 I l[i] kv[i]
  one : ∀ u ∈ kv, u.oneCell' = true
theorem node_ofs {w0 : World} {I : Nat → Prop} (k x : ByteArray) (n : Int) {l : List Tree} {sv : Value} {kv : List Value} (hs : SliceOf w0 I sv kv) (hl : MkL w0 I l kv) {w1 : World} (M1 : MS w0 I w1) :
    Calls Tryz.prog 45 #[.string k, .string x, .int .i64 n, sv] w1 fun e w' => NodeR (.node k x n l) w1 w' e :=
  node_ok k x n M1 (hs.same M1.same) M1.lt hl.len (by have := hl.max; omega) hl.ok hl.one
/-- with, then node -/
theorem with_of {w0 : World} {I : Nat → Prop} {u sv : Value} {kv : List Value} (hs : SliceOf w0 I sv kv) (hn : kv.length ≤ 900) (ho : ∀ u ∈ kv, u.oneCell' = true) (fu : u = .nilIface ∨ ∃ T p, u = .iface T p) {w1 : World} (M1 : MS w0 I w1) :
    Calls Tryz.prog 47 #[u, sv] w1 fun e w' => (∃ a n c, e = .returned (.slice a n c) ∧ SliceOf w' (fun i => w1.heap.size ≤ i ∧ i < w'.heap.size) (.slice a n c) (u :: kv)) ∧ Below w1.heap.size w1 w' := by
  refine (with_ok (hs.same M1.same) M1.lt fu ho (by omega)).mono ?_
  rintro e w' ⟨⟨r, rfl, hr⟩, b⟩
  obtain ⟨a, c, rfl, _⟩ := hr.lay
  exact ⟨⟨a, _, c, rfl, hr⟩, b⟩
theorem node_ofw {w0 : World} {I : Nat → Prop} (k x : ByteArray) (n : Int) {t : Tree} {u sv : Value} {l : List Tree} {kv : List Value} {B : Nat} (hu : MkOK w0 I t u) (fu : u.oneCell' = true) (hl : MkL w0 I l kv) {w1 : World} (M1 : MS w0 I w1) (hs : SliceOf w1 (fun i => B ≤ i ∧ i < w1.heap.size) sv (u :: kv)) :
    Calls Tryz.prog 45 #[.string k, .string x, .int .i64 n, sv] w1 fun e w' => NodeR (.node k x n (t :: l)) w1 w' e :=
  node_ok k x n M1 hs (fun i h => h.2) (by simp [hl.len]) (by have := hl.max; simp; omega) (fun i h h2 => by
    match i, h, h2 with
    | 0, _, _ => exact hu
    | i + 1, h, h2 => exact hl.ok i (by simpa using h) (by simpa using h2)) (fun v h => by
      rcases List.mem_cons.1 h with rfl | h
      · exact fu
      · exact hl.one v h)
theorem number_f (W : World) : Calls Tryz.prog 46 #[.bool false] W fun e w' => e = .returned (.int .i64 0) ∧ W = w' := (number_ok false W).mono fun e w' h => ⟨by simpa using h.1, h.2⟩
theorem number_n {n : Int} (hn : n = 0 ∨ n = 1) (W : World) : Calls Tryz.prog 46 #[.bool (n == 1)] W fun e w' => e = .returned (.int .i64 n) ∧ W = w' := (number_ok (n == 1) W).mono fun e w' h => ⟨by rw [h.1]; rcases hn with rfl | rfl <;> rfl, h.2⟩

/-- nodeOfMore, of an element whose kind is known -/
def MoreOK (w0 : World) (I : Nat → Prop) (k : ByteArray) (t : Tree) (u : Value) : Prop := ∀ w, MS w0 I w → Calls Tryz.prog 48 #[.string k, u] w fun e w' => NodeR t w w' e

set_option maxRecDepth 100000 in
set_option maxHeartbeats 4000000 in
theorem more_nil (w0 : World) (I : Nat → Prop) : MoreOK w0 I ⟨#[]⟩ nilT .nilIface := by
  intro w hM
  have B0 := Lib.hid (box_below w (.cells #[.string ⟨#[]⟩, .string ⟨#[]⟩, .int .i64 0, .slice none 0 0] 24))
  have tArrayType := fun W => (show (Instr.typeAssert .nilIface 38 108 true).run Tryz.prog W = .ok (.tuple #[.pointer none, .bool false]) W from by kernel_rfl)
  have tVectorType := fun W => (show (Instr.typeAssert .nilIface 38 111 true).run Tryz.prog W = .ok (.tuple #[.pointer none, .bool false]) W from by kernel_rfl)
  have tPtrMem := fun W => (show (Instr.typeAssert .nilIface 38 114 true).run Tryz.prog W = .ok (.tuple #[.pointer none, .bool false]) W from by kernel_rfl)
  have tVendorQualifier := fun W => (show (Instr.typeAssert .nilIface 38 117 true).run Tryz.prog W = .ok (.tuple #[.pointer none, .bool false]) W from by kernel_rfl)
  have tSpecial := fun W => (show (Instr.typeAssert .nilIface 38 120 true).run Tryz.prog W = .ok (.tuple #[.pointer none, .bool false]) W from by kernel_rfl)
  have tSpecial2 := fun W => (show (Instr.typeAssert .nilIface 38 123 true).run Tryz.prog W = .ok (.tuple #[.pointer none, .bool false]) W from by kernel_rfl)
  have tLiteral := fun W => (show (Instr.typeAssert .nilIface 38 126 true).run Tryz.prog W = .ok (.tuple #[.pointer none, .bool false]) W from by kernel_rfl)
  have tArgumentPack := fun W => (show (Instr.typeAssert .nilIface 38 129 true).run Tryz.prog W = .ok (.tuple #[.pointer none, .bool false]) W from by kernel_rfl)
  have tPackExpansion := fun W => (show (Instr.typeAssert .nilIface 38 133 true).run Tryz.prog W = .ok (.tuple #[.pointer none, .bool false]) W from by kernel_rfl)
  have tClosure := fun W => (show (Instr.typeAssert .nilIface 38 136 true).run Tryz.prog W = .ok (.tuple #[.pointer none, .bool false]) W from by kernel_rfl)
  have tUnnamedType := fun W => (show (Instr.typeAssert .nilIface 38 139 true).run Tryz.prog W = .ok (.tuple #[.pointer none, .bool false]) W from by kernel_rfl)
  have tTaggedName := fun W => (show (Instr.typeAssert .nilIface 38 142 true).run Tryz.prog W = .ok (.tuple #[.pointer none, .bool false]) W from by kernel_rfl)
  have tDefaultArg := fun W => (show (Instr.typeAssert .nilIface 38 145 true).run Tryz.prog W = .ok (.tuple #[.pointer none, .bool false]) W from by kernel_rfl)
  have tClone := fun W => (show (Instr.typeAssert .nilIface 38 148 true).run Tryz.prog W = .ok (.tuple #[.pointer none, .bool false]) W from by kernel_rfl)
  have tGlobalCDtor := fun W => (show (Instr.typeAssert .nilIface 38 151 true).run Tryz.prog W = .ok (.tuple #[.pointer none, .bool false]) W from by kernel_rfl)
  have tCast := fun W => (show (Instr.typeAssert .nilIface 38 154 true).run Tryz.prog W = .ok (.tuple #[.pointer none, .bool false]) W from by kernel_rfl)
  have tTemplateParam := fun W => (show (Instr.typeAssert .nilIface 38 157 true).run Tryz.prog W = .ok (.tuple #[.pointer none, .bool false]) W from by kernel_rfl)
  go_enter Tryz.func48, Tryz.ntmps48
  go_wp2_with fail
  (try simp only [Exit.inBlock, Exit.then])
  refine bodyPost_ret (by simp [results, Tryz.results48, go_sem]; try rfl) rfl ?_
  exact ⟨⟨_, rfl, .mk _ _ _ [] none 0 0 0 (fun _ => .nilFunc) (by simp) (by omega) (.inl rfl) (fun i h => by simp at h) (fun i h => by simp at h)⟩, B0.out⟩

set_option maxRecDepth 100000 in
set_option maxHeartbeats 2000000 in
theorem kindOf_nil (w : World) : Calls Tryz.prog 23 #[.nilIface] w fun e w' => e = .returned (.string ⟨#[]⟩) ∧ w = w' := by
  have hnil := fun W => nil_yes W
  go_enter Tryz.func23, Tryz.ntmps23
  go_wp2_with fail
  go_ret
  exact ⟨rfl, rfl⟩

set_option maxRecDepth 100000 in
set_option maxHeartbeats 4000000 in
theorem node_nil (w0 : World) (I : Nat → Prop) : MkOK w0 I nilT .nilIface := by
  intro w hM
  have BB := Lib.hid (box_below w (.cells #[.string ⟨#[]⟩, .string ⟨#[]⟩, .int .i64 0, .slice none 0 0] 24))
  have RR := Lib.hid (show (w.alloc (.cells #[.string ⟨#[]⟩, .string ⟨#[]⟩, .int .i64 0, .slice none 0 0] 24)).heap[w.heap.size]? = some (.cells #[.string ⟨#[]⟩, .string ⟨#[]⟩, .int .i64 0, .slice none 0 0] 24 (0, 0)) from heap_alloc_new w _)
  have MM := Lib.hid (hM.on (box_below w (.cells #[.string ⟨#[]⟩, .string ⟨#[]⟩, .int .i64 0, .slice none 0 0] 24)))
  obtain ⟨w1, hw1⟩ : ∃ w1, w1 = w.alloc (.cells #[.string ⟨#[]⟩, .string ⟨#[]⟩, .int .i64 0, .slice none 0 0] 24) := ⟨_, rfl⟩
  clear hM
  have HK := Lib.hid (fun W => kindOf_nil W)
  have HM := Lib.hid (fun W h => more_nil w0 I W h)
  have tName := fun W => (show (Instr.typeAssert .nilIface 38 45 true).run Tryz.prog W = .ok (.tuple #[.pointer none, .bool false]) W from by kernel_rfl)
  have tBuiltinType := fun W => (show (Instr.typeAssert .nilIface 38 53 true).run Tryz.prog W = .ok (.tuple #[.pointer none, .bool false]) W from by kernel_rfl)
  have tOperator := fun W => (show (Instr.typeAssert .nilIface 38 55 true).run Tryz.prog W = .ok (.tuple #[.pointer none, .bool false]) W from by kernel_rfl)
  have tConstructor := fun W => (show (Instr.typeAssert .nilIface 38 59 true).run Tryz.prog W = .ok (.tuple #[.pointer none, .bool false]) W from by kernel_rfl)
  have tDestructor := fun W => (show (Instr.typeAssert .nilIface 38 63 true).run Tryz.prog W = .ok (.tuple #[.pointer none, .bool false]) W from by kernel_rfl)
  have tQualified := fun W => (show (Instr.typeAssert .nilIface 38 66 true).run Tryz.prog W = .ok (.tuple #[.pointer none, .bool false]) W from by kernel_rfl)
  have tTemplate := fun W => (show (Instr.typeAssert .nilIface 38 69 true).run Tryz.prog W = .ok (.tuple #[.pointer none, .bool false]) W from by kernel_rfl)
  have tTyped := fun W => (show (Instr.typeAssert .nilIface 38 74 true).run Tryz.prog W = .ok (.tuple #[.pointer none, .bool false]) W from by kernel_rfl)
  have tFunctionType := fun W => (show (Instr.typeAssert .nilIface 38 77 true).run Tryz.prog W = .ok (.tuple #[.pointer none, .bool false]) W from by kernel_rfl)
  have tPointerType := fun W => (show (Instr.typeAssert .nilIface 38 80 true).run Tryz.prog W = .ok (.tuple #[.pointer none, .bool false]) W from by kernel_rfl)
  have tReferenceType := fun W => (show (Instr.typeAssert .nilIface 38 83 true).run Tryz.prog W = .ok (.tuple #[.pointer none, .bool false]) W from by kernel_rfl)
  have tRvalueReferenceType := fun W => (show (Instr.typeAssert .nilIface 38 85 true).run Tryz.prog W = .ok (.tuple #[.pointer none, .bool false]) W from by kernel_rfl)
  have tComplexType := fun W => (show (Instr.typeAssert .nilIface 38 87 true).run Tryz.prog W = .ok (.tuple #[.pointer none, .bool false]) W from by kernel_rfl)
  have tImaginaryType := fun W => (show (Instr.typeAssert .nilIface 38 89 true).run Tryz.prog W = .ok (.tuple #[.pointer none, .bool false]) W from by kernel_rfl)
  have tTypeWithQualifiers := fun W => (show (Instr.typeAssert .nilIface 38 91 true).run Tryz.prog W = .ok (.tuple #[.pointer none, .bool false]) W from by kernel_rfl)
  have tQualifiers := fun W => (show (Instr.typeAssert .nilIface 38 94 true).run Tryz.prog W = .ok (.tuple #[.pointer none, .bool false]) W from by kernel_rfl)
  have tQualifier := fun W => (show (Instr.typeAssert .nilIface 38 97 true).run Tryz.prog W = .ok (.tuple #[.pointer none, .bool false]) W from by kernel_rfl)
  have tMethodWithQualifiers := fun W => (show (Instr.typeAssert .nilIface 38 100 true).run Tryz.prog W = .ok (.tuple #[.pointer none, .bool false]) W from by kernel_rfl)
  go_enter Tryz.func28, Tryz.ntmps28
  go_wp2_with fail
  rw [← hw1] at BB RR MM ⊢
  refine (HK.out _).mono ?_
  rintro e w2 ⟨rfl, rfl⟩
  clear hw1 HK
  go_wp2_with fail
  refine (HM.out _ MM.out).mono ?_
  rintro e w3 ⟨⟨kv3, rfl, hr3⟩, b3⟩
  obtain ⟨⟨⟨z0, z1, z2, z3⟩, fr⟩, ⟨ka, kn, kc, hkv⟩, X0⟩ := node_fin BB.out RR.out hr3 b3
  subst hkv
  have X := Lib.hid X0
  clear hr3 b3 X0
  go_wp2_with fail
  (try simp only [Exit.inBlock, Exit.then])
  refine bodyPost_ret (by simp [results, Tryz.results28, go_sem, z0, z1, z2, z3]; try rfl) rfl ?_
  exact X.out _ _ _ _

end Go.Proofs.YtnhccgbkalpcnaaGreatDoor
