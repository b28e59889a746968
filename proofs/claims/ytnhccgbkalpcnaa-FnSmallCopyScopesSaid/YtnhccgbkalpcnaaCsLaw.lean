/- FnSmallCopyScopes returns true, whatever it is given. -/
import Derived.Test.YtnhccgbkalpcnaaCsWalk
import Derived.Test.YtnhccgbkalpcnaaCsLists
namespace Go.Proofs.Ytnhccgbkalpcnaa
open Go.RowKit

theorem hits_back (f first : ByteArray) (L : List ByteArray) : hits f (back first L) = hits f (first :: L) := by
  unfold hits back
  rw [List.any_reverse]

/-- the append of an operation behind a guard that lets it through -/
theorem wpList_append_guarded {P : Program} {w : World} {ops : Array Oper} {rest : List Oper} {o : Oper} {a : Act} {Q : Exit → Act → World → Prop} (hwant : Region.wanted o (yielded ops a.tmps) = true) (s x : Operand) (t : TypeId)
    (ho : o.op = .call { callee := .builtin .append, args := #[s, x], argTypes := #[t, t] })
    (base : Nat) (e : TypeId) (i : TypeInfo) (z : Value) (bytes : Nat) (ht : P.underlying t = some (.slice e)) (hi : P.info? e = some i) (hz : i.zero = some z)
    (hsize : i.size = 1) (hby : i.bytes = bytes) (hzs : z.cells.size = 1)
    (v : Value) (n : Nat) (xs : List Value) (hs : a.eval s = v) (hown : w.ownsRow base e 1 v n xs)
    (sv : Value) (news : List Value) (hx : a.eval x = sv) {I : Nat → Prop} (hsv : SliceOf w I sv news) (h1 : ∀ u ∈ news, u.oneCell' = true)
    (h63 : n + news.length ≤ maxLen) (hbytes : (n + news.length) * bytes ≤ 140737488355328) (hbase : base ≤ w.heap.size)
    (h : ∀ v' w', w'.ownsRow base e 1 v' (n + news.length) (xs ++ news) → w.grownBy w' v.ownBlock → wpList P ops Q rest (a.put o.dst v') w') : wpList P ops Q (o :: rest) a w := by
  refine wpList_step fun K hK => ?_
  rw [if_pos hwant]
  obtain ⟨v', w', hr, h2, h3⟩ := run_append_row (P := P) w base t o.type e i z bytes ht hi hz hsize hby hzs v n xs hown sv news hsv h1 h63 hbytes hbase
  unfold Oper.wp execOp
  simp only [ho, resolve, invoke, builtin, Sem.run_bind, Sem.run_pure, Result.andThen_ok, List.map_toArray, List.map_cons, List.map_nil, hs, hx, hr]
  exact hK _ _ (h v' w' h2 h3)

set_option maxRecDepth 100000 in
set_option maxHeartbeats 2000000 in
theorem csLaw_main (w : World) (first : ByteArray) (la : Option Addr) (lc : Nat) (L : List ByteArray) (f t : ByteArray) (hl : SliceOf w (Old w) (.slice la L.length lc) (strv L))
    (h1 : first.size ≤ 2147483647) (h2 : fitsB L = true) (h3 : f.size ≤ 2147483647) (h4 : t.size ≤ 2147483647) (h5 : L.length ≤ 1000) (h6 : L ≠ []) :
    Calls Try.prog 4 #[.string first, .slice la L.length lc, .string f, .string t] w fun e w' => e = .returned (.bool true) ∧ Below w.heap.size w w' := by
  have HF := Lib.hid (fits_any _ L w hl)
  have hpos : 0 < L.length := List.length_pos_iff.2 h6
  have e1 : ((L.length : Int) == 0) = false := beq_eq_false_iff_ne.2 (by omega)
  have H6 := Lib.hid h6
  have HL := Lib.hid (fun W (k : Below w.heap.size w W) => hl.same (Same.below k fun _ h => h))
  have F2 := Lib.hid h2
  clear hl h6 h2
  obtain ⟨i0, hi, hz0, hz1, hz2⟩ := info_parts infoS2
  go_enter Try.func4, Try.ntmps4
  go_wp2_with fail
  refine (HF.out).mono ?_
  rintro e w' ⟨rfl, rfl⟩
  have F2' := F2.out
  have own0 := World.ownsRow_lit (base := w.heap.size) (size := 1) (e := 9) w #[.string first] 1 (by omega) (by unfold maxLen; omega) rfl
  have O0 := Lib.hid own0
  clear own0
  have HL1 := Lib.hid (HL.out _ ((Below.refl w.heap.size w).alloc (Nat.le_refl _) (.cells #[.string first] 9)))
  go_wp2_with (at_builtin; refine wpList_append_row rfl _ _ 22 rfl w.heap.size 9 i0 (.string ByteArray.empty) 16 Try.underlying22 hi hz0 hz1 hz2 rfl (.slice (some ⟨w.heap.size, 0, none⟩) 1 1) 1 [.string first] rfl O0.out (.slice la L.length lc) (strv L) rfl HL1.out (strv_one _) ?c1 ?c2 ?c3 ?_
               rotate_left 3
               intro v' w3 hown3 hg3
               have O3 := Lib.hid hown3
               have G3 := Lib.hid hg3
               clear hown3 hg3)
  case c1 => simp [strv, maxLen]; omega
  case c2 => simp [strv]; omega
  case c3 => simp
  have b3 : Below w.heap.size w w3 := ((Below.refl w.heap.size w).alloc (Nat.le_refl _) _).grown G3.out (by simp) (fun k hk => by simp [Value.ownBlock] at hk; omega)
  have hs3 : SliceOf w3 (Old w3) v' (strv (first :: L)) := SliceOf.owned (I := Old w3) O3.out (fun i _ h => h)
  have HR := Lib.hid (smRenamed_any w3 (I := Old w3) (fun _ h => h) v' (first :: L) f t hs3 (by simp; omega))
  have B3 := Lib.hid b3
  clear b3 hs3 O0 O3 G3
  refine (HR.out).mono ?_
  rintro e w4 ⟨u, rfl, hsu, hb4⟩
  have b4 := B3.out.trans (hb4.mono B3.out.size)
  have HC := Lib.hid (copyScopes_any w4 (I := Old w) (fun i (h : i < w.heap.size) => Nat.lt_of_lt_of_le h b4.size) first (.slice la L.length lc) L f t (HL.out w4 b4) H6.out h5)
  have HSU := Lib.hid hsu
  have B4 := Lib.hid b4
  have hib : ∀ i, Made w3 w4 i → i < w4.heap.size := fun i h => h.2
  clear hsu hb4 b4 HR
  rcases hh : hits f (first :: L) with _ | _
  · have hbk : hits f (back first L) = false := by rw [hits_back]; exact hh
    have HH := Lib.hid hbk
    clear hbk hib
    go_wp2_with fail
    refine (HC.out).mono ?_
    rintro e w5 ⟨hb5, ⟨_, rfl⟩ | ⟨hx, _⟩⟩
    · have B5 := Lib.hid (B4.out.trans (hb5.mono B4.out.size))
      clear hb5
      go_wp2_with fail
      go_ret
      exact ⟨rfl, B5.out⟩
    · rw [HH.out] at hx
      cases hx
  · have hbk : hits f (back first L) = true := by rw [hits_back]; exact hh
    have HH := Lib.hid hbk
    clear hbk
    go_wp2_with fail
    refine (HC.out).mono ?_
    rintro e w5 ⟨hb5, ⟨hx, _⟩ | ⟨_, x, rfl, hsx⟩⟩
    · rw [HH.out] at hx
      cases hx
    · have B5 := Lib.hid (B4.out.trans (hb5.mono B4.out.size))
      have hb5size := hb5.size
      have HSU5 := Lib.hid (HSU.out.same (Same.below hb5 hib))
      have own5 := World.ownsRow_lit (base := w5.heap.size) (size := 1) (e := 9) w5 #[.string (ren f t first)] 1 (by omega) (by unfold maxLen; omega) rfl
      have O5 := Lib.hid own5
      have HSX := Lib.hid (hsx.same (Same.below ((Below.refl w5.heap.size w5).alloc (Nat.le_refl _) (.cells #[.string (ren f t first)] 9)) (fun i h => h.2)))
      clear own5 hsx hb5
      go_wp2_with (at_builtin; refine wpList_append_guarded (by rfl) _ _ 22 rfl w5.heap.size 9 i0 (.string ByteArray.empty) 16 Try.underlying22 hi hz0 hz1 hz2 rfl (.slice (some ⟨w5.heap.size, 0, none⟩) 1 1) 1 [.string (ren f t first)] rfl O5.out x (strv (L.map (ren f t))) rfl HSX.out (strv_one _) ?d1 ?d2 ?d3 ?_
                   rotate_left 3
                   intro v6 w6 hown6 hg6
                   have O6 := Lib.hid hown6
                   have G6 := Lib.hid hg6
                   clear hown6 hg6)

      case d1 => simp [strv, maxLen]; omega
      case d2 => simp [strv]; omega
      case d3 => simp
      have b6 : Below w5.heap.size w5 w6 := ((Below.refl w5.heap.size w5).alloc (Nat.le_refl _) _).grown G6.out (by simp) (fun k hk => by simp [Value.ownBlock] at hk; omega)
      have hs6 : SliceOf w6 (Old w6) v6 (strv ((first :: L).map (ren f t))) := SliceOf.owned (I := Old w6) O6.out (fun i _ h => h)
      have hw45 := B5.out.size
      have hs7 := HSU5.out.same (Same.below b6 fun i h => Nat.lt_of_lt_of_le (hib i h) (by have := hb5size; exact this))
      have HSM := Lib.hid (smSame_any w6 v6 u ((first :: L).map (ren f t)) hs6 hs7 (by simp; omega))
      have B6 := Lib.hid (B5.out.trans (b6.mono B5.out.size))
      clear b6 hs6 hs7 hib
      refine (HSM.out).mono ?_
      rintro e w7 ⟨rfl, b7⟩
      have B7 := Lib.hid (B6.out.trans (b7.mono B6.out.size))
      clear b7
      go_wp2_with fail
      go_ret
      exact ⟨rfl, B7.out⟩

end Go.Proofs.Ytnhccgbkalpcnaa
