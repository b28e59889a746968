/- The two tables; trees in a base world; the small tests. -/
import Derived.Test.YtnhccgbkalpcnaaGreatDoorStrs
namespace Go.Proofs.YtnhccgbkalpcnaaGreatDoor
open Go.RowKit

/-- the two tables hold texts -/
def Tables (w : World) : Prop := 1 < w.heap.size ∧ (∀ i, i < 56 → ∃ s, w.cell? ⟨0, i, none⟩ = some (.string s)) ∧ ∀ i, i < 84 → ∃ s, w.cell? ⟨1, i, none⟩ = some (.string s)

theorem Tables.later {w w' : World} (h : Tables w) (hb : Below w.heap.size w w') : Tables w' := by
  obtain ⟨h0, h1, h2⟩ := h
  refine ⟨Nat.lt_of_lt_of_le h0 hb.size, fun i hi => ?_, fun i hi => ?_⟩
  · obtain ⟨s, hs⟩ := h1 i hi
    exact ⟨s, by rw [hb.cell (p := ⟨0, i, none⟩) (by show 0 < _; omega)]; exact hs⟩
  · obtain ⟨s, hs⟩ := h2 i hi
    exact ⟨s, by rw [hb.cell (p := ⟨1, i, none⟩) (by show 1 < _; omega)]; exact hs⟩

/-- some text -/
def Text (e : Ending) : Prop := ∃ s, e = .returned (.string s)

set_option maxRecDepth 100000 in
set_option maxHeartbeats 2000000 in
theorem code_any (s : ByteArray) (w : World) (hT : Tables w) : Calls Tryz.prog 64 #[.string s] w fun e w' => Text e ∧ w = w' := by
  have HT := Lib.hid hT.2.1
  clear hT
  go_enter Tryz.func64, Tryz.ntmps64
  go_wp2_with fail
  go_loopg [3] 28 (fun k i wr => w = wr ∧ ∃ j : Nat, j + k = 28 ∧ i = .int .i64 (2 * j : Nat))
  case atStart => exact ⟨rfl, 0, by omega, rfl⟩
  case round =>
    obtain ⟨rfl, j, hj, rfl⟩ := hrel
    by_cases hlt : j < 28
    · obtain ⟨s1, c1⟩ := HT.out (2 * j + 1) (by omega)
      obtain ⟨s0, c0⟩ := HT.out (2 * j) (by omega)
      go_wp2_with fail
      · go_ret
        exact ⟨⟨_, rfl⟩, rfl⟩
      · go_roundg (gk - 1)
        case measure => omega
        case rel => exact ⟨rfl, j + 1, by omega, by rw [show ((2 * (j + 1) : Nat) : Int) = 2 * (j : Int) + 2 by omega]⟩
    · go_wp2_with fail
      go_ret
      exact ⟨⟨_, rfl⟩, rfl⟩

set_option maxRecDepth 100000 in
set_option maxHeartbeats 2000000 in
theorem opCode_any (s : ByteArray) (w : World) (hT : Tables w) : Calls Tryz.prog 74 #[.string s] w fun e w' => Text e ∧ w = w' := by
  have HT := Lib.hid hT.2.2
  clear hT
  go_enter Tryz.func74, Tryz.ntmps74
  go_wp2_with fail
  go_loopg [3] 42 (fun k i wr => w = wr ∧ ∃ j : Nat, j + k = 42 ∧ i = .int .i64 (2 * j : Nat))
  case atStart => exact ⟨rfl, 0, by omega, rfl⟩
  case round =>
    obtain ⟨rfl, j, hj, rfl⟩ := hrel
    by_cases hlt : j < 42
    · obtain ⟨s1, c1⟩ := HT.out (2 * j + 1) (by omega)
      obtain ⟨s0, c0⟩ := HT.out (2 * j) (by omega)
      go_wp2_with fail
      · go_ret
        exact ⟨⟨_, rfl⟩, rfl⟩
      · go_roundg (gk - 1)
        case measure => omega
        case rel => exact ⟨rfl, j + 1, by omega, by rw [show ((2 * (j + 1) : Nat) : Int) = 2 * (j : Int) + 2 by omega]⟩
    · go_wp2_with fail
      go_ret
      exact ⟨⟨_, rfl⟩, rfl⟩

/-- a tree in the base world -/
def At (W0 : World) (t : Tree) (v : Value) : Prop := IsT W0 (fun i => i < W0.heap.size) t v

/-- a later world of the base world, in which the tables hold texts -/
structure Later (W0 w : World) : Prop where
  below : Below W0.heap.size W0 w
  tables : Tables w

theorem Later.on {W0 w w' : World} (h : Later W0 w) (hb : Below w.heap.size w w') : Later W0 w' := ⟨h.below.trans (hb.mono h.below.size), h.tables.later hb⟩
theorem Later.box {W0 w : World} (h : Later W0 w) (o : Obj) : Later W0 (w.alloc o) := h.on (box_below w o)

/-- what a walk wants of one kid -/
def Kid (w : World) (b o : Nat) (k : Tree) (ka : Option Addr) (kc : Nat) : Prop :=
  w.cell? ⟨b, o, none⟩ = some (.string k.kind) ∧ w.cell? ⟨b, o + 1, none⟩ = some (.string k.text) ∧ w.cell? ⟨b, o + 2, none⟩ = some (.int .i64 k.num) ∧ w.cell? ⟨b, o + 3, none⟩ = some (.slice ka k.kids.length kc)

/-- the value of a tree whose kids lie at a -/
def val (t : Tree) (a : Option Addr) (c : Nat) : Value := .agg #[.string t.kind, .string t.text, .int .i64 t.num, .slice a t.kids.length c]

theorem At.lay {W0 : World} {t : Tree} {v : Value} (h : At W0 t v) : ∃ a c, v = val t a c ∧ t.kids.length ≤ c ∧ c ≤ 9223372036854775807 ∧
    (t.kids = [] ∨ ∃ b off, a = some ⟨b, off, none⟩ ∧ ∀ i (h : i < t.kids.length), ∃ ka kc, (∀ w, Later W0 w → Kid w b (off + i * 4) t.kids[i] ka kc) ∧ At W0 t.kids[i] (val t.kids[i] ka kc)) := by
  obtain ⟨a, c, rfl, h1, h2, h3⟩ := IsT.lay h
  refine ⟨a, c, rfl, h1, h2, h3.imp id ?_⟩
  rintro ⟨b, off, ha, hb, hk⟩
  refine ⟨b, off, ha, fun i hi => ?_⟩
  obtain ⟨ka, kc, c0, c1, c2, c3, hr⟩ := hk i hi
  refine ⟨ka, kc, fun w hw => ?_, hr⟩
  have e : ∀ o, w.cell? ⟨b, o, none⟩ = W0.cell? ⟨b, o, none⟩ := fun o => hw.below.cell (p := ⟨b, o, none⟩) hb
  exact ⟨by rw [e]; exact c0, by rw [e]; exact c1, by rw [e]; exact c2, by rw [e]; exact c3⟩

/-- the box of a parameter, later -/
theorem box_at {w w' : World} {a b c d : Value} (hb : Below (w.heap.size + 1) (w.alloc (.cells #[a, b, c, d] 24)) w') :
    w'.cell? ⟨w.heap.size, 0, none⟩ = some a ∧ w'.cell? ⟨w.heap.size, 1, none⟩ = some b ∧ w'.cell? ⟨w.heap.size, 2, none⟩ = some c ∧ w'.cell? ⟨w.heap.size, 3, none⟩ = some d := by
  have h : w'.heap[w.heap.size]? = some (.cells #[a, b, c, d] 24 (0, 0)) := by
    rw [hb.block _ (by omega)]
    exact heap_alloc_new w _
  have c : ∀ (k : Nat) (v : Value), (#[a, b, c, d] : Array Value)[k]? = some v → w'.cell? ⟨w.heap.size, k, none⟩ = some v := fun k v hk => by simp [World.cell?, h, hk]
  exact ⟨c 0 _ rfl, c 1 _ rfl, c 2 _ rfl, c 3 _ rfl⟩

set_option maxRecDepth 100000 in
set_option maxHeartbeats 1000000 in
theorem isName_any (w : World) (k x : ByteArray) (n : Int) (l : Nat) (a : Option Addr) (cap : Nat) :
    Calls Tryz.prog 55 #[.agg #[.string k, .string x, .int .i64 n, .slice a l cap]] w fun e w' => Says (k = ⟨#[78, 97, 109, 101]⟩ ∧ n = 0 ∧ l = 0) e ∧ Below w.heap.size w w' := by
  have HI := Lib.hid (ident_any x)
  go_enter Tryz.func55, Tryz.ntmps55
  go_wp2_with fail
  all_goals first
    | (refine (HI.out _).mono ?_
       rintro e w1 ⟨⟨r, rfl, _⟩, rfl⟩
       have hk : k = ⟨#[78, 97, 109, 101]⟩ := str_of (l := [78, 97, 109, 101]) (by assumption)
       have X := Lib.hid (And.intro hk (And.intro (show n = 0 by assumption) (show l = 0 by assumption)))
       go_wp2_with fail
       go_ret
       exact ⟨⟨_, rfl, fun _ => X.out⟩, box_below _ _⟩)
    | (go_ret; exact ⟨says_no rfl, box_below _ _⟩)

end Go.Proofs.YtnhccgbkalpcnaaGreatDoor
