/-
  copyEntries (9): a copy of the entries in a new block; copyInts (18) likewise.
-/
import Derived.Test.YoefgwMem
namespace Go.Proofs.Yoefgw
open Go.RowKit

/-- 'make([]ErrEntry, n)' -/
theorem make22 (n : Nat) (hn : n ≤ 1000000) : ∃ cs : Array Value, cs.size = n * 5 ∧ ∀ w : World, (Instr.makeSlice 22 (.int .i64 (n : Int)) (.int .i64 (n : Int))).run Efgg.prog w = .ok (.slice (some ⟨w.heap.size, 0, none⟩) n n) (w.alloc (.cells cs 33)) := by
  obtain ⟨i, hi, hz0, hz1, hz2⟩ := info_parts info33
  refine ⟨_, ?_, fun w => (run_make (P := Efgg.prog) w 22 33 i _ Efgg.underlying22 hi hz0 .i64 .i64 n n (by omega) (Int.le_refl _) (by rw [hz2]; omega) (by omega)).trans (by rw [Int.toNat_natCast])⟩
  rw [size_madeCells, hz1]

/-- the first k entries lie in the array, five cells each -/
def Row5 (cs : Array Value) (k : Nat) (E : Nat → Ent) : Prop :=
  ∀ i, i < k → cs[i * 5]? = some (.string (E i).f) ∧ cs[i * 5 + 1]? = some (.int .i64 (E i).o) ∧ cs[i * 5 + 2]? = some (.int .i64 (E i).l) ∧ cs[i * 5 + 3]? = some (.int .i64 (E i).c) ∧ cs[i * 5 + 4]? = some (.string (E i).m)

theorem row5_step {w : World} {B n k : Nat} {cs : Array Value} {E : Nat → Ent} (hcs : w.heap[B]? = some (.cells cs 33 (0, 0))) (hsz : cs.size = n * 5) (hrow : Row5 cs k E) (hk : k < n) :
    ∃ cs', (((((w.setCell ⟨B, k * 5, none⟩ (.string (E k).f)).setCell ⟨B, k * 5 + 1, none⟩ (.int .i64 (E k).o)).setCell ⟨B, k * 5 + 2, none⟩ (.int .i64 (E k).l)).setCell ⟨B, k * 5 + 3, none⟩ (.int .i64 (E k).c)).setCell ⟨B, k * 5 + 4, none⟩ (.string (E k).m)).heap[B]? = some (.cells cs' 33 (0, 0)) ∧
      cs'.size = n * 5 ∧ Row5 cs' (k + 1) E := by
  refine ⟨_, heap_setCell_same _ _ _ _ _ _ (heap_setCell_same _ _ _ _ _ _ (heap_setCell_same _ _ _ _ _ _ (heap_setCell_same _ _ _ _ _ _ (heap_setCell_same _ _ _ _ _ _ hcs)))), by simp [hsz], ?_⟩
  intro i hi
  simp only [Array.getElem?_setIfInBounds, Array.size_setIfInBounds]
  by_cases hik : i = k
  · subst hik
    refine ⟨?_, ?_, ?_, ?_, ?_⟩
    · rw [if_neg (by omega), if_neg (by omega), if_neg (by omega), if_neg (by omega), if_pos rfl, if_pos (by omega)]
    · rw [if_neg (by omega), if_neg (by omega), if_neg (by omega), if_pos rfl, if_pos (by omega)]
    · rw [if_neg (by omega), if_neg (by omega), if_pos rfl, if_pos (by omega)]
    · rw [if_neg (by omega), if_pos rfl, if_pos (by omega)]
    · rw [if_pos rfl, if_pos (by omega)]
  · obtain ⟨h0, h1, h2, h3, h4⟩ := hrow i (by omega)
    refine ⟨?_, ?_, ?_, ?_, ?_⟩
    · rw [if_neg (by omega), if_neg (by omega), if_neg (by omega), if_neg (by omega), if_neg (by omega)]; exact h0
    · rw [if_neg (by omega), if_neg (by omega), if_neg (by omega), if_neg (by omega), if_neg (by omega)]; exact h1
    · rw [if_neg (by omega), if_neg (by omega), if_neg (by omega), if_neg (by omega), if_neg (by omega)]; exact h2
    · rw [if_neg (by omega), if_neg (by omega), if_neg (by omega), if_neg (by omega), if_neg (by omega)]; exact h3
    · rw [if_neg (by omega), if_neg (by omega), if_neg (by omega), if_neg (by omega), if_neg (by omega)]; exact h4

theorem below5 {w0 w : World} {B : Nat} (h : Below B w0 w) (o0 o1 o2 o3 o4 : Nat) (v0 v1 v2 v3 v4 : Value) :
    Below B w0 (((((w.setCell ⟨B, o0, none⟩ v0).setCell ⟨B, o1, none⟩ v1).setCell ⟨B, o2, none⟩ v2).setCell ⟨B, o3, none⟩ v3).setCell ⟨B, o4, none⟩ v4) :=
  ((((h.setCell (Nat.le_refl _) _).setCell (Nat.le_refl _) _).setCell (Nat.le_refl _) _).setCell (Nat.le_refl _) _).setCell (Nat.le_refl _) _

theorem ents_of_row {w : World} {B n : Nat} {cs : Array Value} {E : Nat → Ent} (hcs : w.heap[B]? = some (.cells cs 33 (0, 0))) (hrow : Row5 cs n E) : Ents w B 0 n E := by
  intro i hi
  obtain ⟨h0, h1, h2, h3, h4⟩ := hrow i hi
  simp only [Nat.zero_add]
  refine ⟨?_, ?_, ?_, ?_, ?_⟩ <;> simp [World.cell?, hcs, h0, h1, h2, h3, h4]

set_option maxHeartbeats 400000 in
theorem c9_yes (a : Addr) (b off n cap : Nat) (E : Nat → Ent) (w : World) (hao : 0 < n → a = ⟨b, off, none⟩) (hE : Ents w b off n E) (hn : n ≤ 1000000) :
    Calls Efgg.prog 9 #[.slice (some a) n cap] w fun e w' => e = .returned (.slice (some ⟨w.heap.size, 0, none⟩) n n) ∧ Below w.heap.size w w' ∧ Ents w' w.heap.size 0 n E := by
  obtain ⟨cs0, hcs0, hmk⟩ := make22 n hn
  have heq := fun w a n c => Lib.run_eql_slice_nil (P := Efgg.prog) w 22 33 a n c 0 0 Efgg.underlying22
  go_enter Efgg.func9, Efgg.ntmps9
  go_wp2
  go_loopw [4] (fun i wr => ∃ (k : Nat) (cs : Array Value), k ≤ n ∧ i = .int .i64 k ∧ wr.heap[w.heap.size]? = some (.cells cs 33 (0, 0)) ∧ cs.size = n * 5 ∧ Row5 cs k E ∧ Below w.heap.size w wr) (fun i _ => n - (intOf i).toNat)
  case atStart => exact ⟨0, cs0, Nat.zero_le _, rfl, heap_alloc_new w _, hcs0, fun i hi => absurd hi (Nat.not_lt_zero _), (Below.refl _ _).alloc (Nat.le_refl _) _⟩
  case round =>
    obtain ⟨k, cs, hk, rfl, hcs, hsz, hrow, hbel⟩ := hrel
    by_cases hlt : k < n
    · have hb : b < w.heap.size := hE.lt (by omega)
      have h1 := hao (by omega)
      subst h1
      obtain ⟨c0, c1, c2, c3, c4⟩ := hE k hlt
      rw [← hbel.cell (by exact hb)] at c0 c1 c2 c3 c4
      obtain ⟨v0, d0⟩ := cellAt hcs (j := k * 5) (by omega)
      obtain ⟨v1, d1⟩ := cellAt hcs (j := k * 5 + 1) (by omega)
      obtain ⟨v2, d2⟩ := cellAt hcs (j := k * 5 + 2) (by omega)
      obtain ⟨v3, d3⟩ := cellAt hcs (j := k * 5 + 3) (by omega)
      obtain ⟨v4, d4⟩ := cellAt hcs (j := k * 5 + 4) (by omega)
      have g0 := freeAt hcs (k * 5)
      have g1 := freeAt hcs (k * 5 + 1)
      have g2 := freeAt hcs (k * 5 + 2)
      have g3 := freeAt hcs (k * 5 + 3)
      have g4 := freeAt hcs (k * 5 + 4)
      have R := row5_step hcs hsz hrow hlt
      clear hE hao hmk heq
      go_wp2
      go_roundw
      case rel =>
        obtain ⟨cs', r1, r2, r3⟩ := R
        exact ⟨k + 1, cs', by omega, by go_num, r1, r2, r3, below5 hbel _ _ _ _ _ _ _ _ _ _⟩
      case measure => simp [intOf]; omega
    · clear hE hao hmk heq
      go_wp2
      go_ret
      have : k = n := by omega
      subst this
      exact ⟨rfl, hbel, ents_of_row hcs hrow⟩

set_option maxHeartbeats 400000 in
theorem c9_no (w : World) :
    Calls Efgg.prog 9 #[.slice none 0 0] w fun e w' => e = .returned (.slice none 0 0) ∧ w' = w := by
  have heq := fun w a n c => Lib.run_eql_slice_nil (P := Efgg.prog) w 22 33 a n c 0 0 Efgg.underlying22
  go_enter Efgg.func9, Efgg.ntmps9
  go_wp2
  go_ret
  exact ⟨rfl, rfl⟩

/-- copyEntries, nil or not -/
theorem c9 (ao : Option Addr) (b off n cap : Nat) (E : Nat → Ent) (w : World) (hnil : ao = none → n = 0 ∧ cap = 0) (hao : 0 < n → ao = some ⟨b, off, none⟩) (hE : Ents w b off n E) (hn : n ≤ 1000000) :
    Calls Efgg.prog 9 #[.slice ao n cap] w fun e w' => ∃ ao' cap', e = .returned (.slice ao' n cap') ∧ (0 < n → ao' = some ⟨w.heap.size, 0, none⟩) ∧ Below w.heap.size w w' ∧ Ents w' w.heap.size 0 n E := by
  cases ao with
  | none =>
    obtain ⟨rfl, rfl⟩ := hnil rfl
    refine (c9_no w).mono ?_
    rintro e w' ⟨rfl, rfl⟩
    exact ⟨none, 0, rfl, fun h => absurd h (Nat.lt_irrefl _), Below.refl _ _, fun i hi => absurd hi (Nat.not_lt_zero _)⟩
  | some a =>
    refine (c9_yes a b off n cap E w (fun h => Option.some.inj (hao h)) hE hn).mono ?_
    rintro e w' ⟨rfl, h1, h2⟩
    exact ⟨_, _, rfl, fun _ => rfl, h1, h2⟩

/-! ### copyInts -/
/-- n numbers lie in w from ⟨b, off⟩ on -/
def Ints (w : World) (b off n : Nat) (Z : Nat → Int) : Prop := ∀ i, i < n → w.cell? ⟨b, off + i, none⟩ = some (.int .i64 (Z i))

theorem Ints.lt {w : World} {b off n : Nat} {Z : Nat → Int} (h : Ints w b off n Z) (hn : 0 < n) : b < w.heap.size :=
  World.block_lt_of_cell? w _ (h 0 hn)

theorem Ints.below {B : Nat} {w w' : World} {b off n : Nat} {Z : Nat → Int} (h : Ints w b off n Z) (hb : Below B w w') (hlt : 0 < n → b < B) : Ints w' b off n Z := by
  intro i hi
  have hl : b < B := hlt (by omega)
  exact (hb.cell hl).trans (h i hi)

theorem info3 : (Efgg.prog.info? 3).map (fun i => (i.zero, i.size, i.bytes)) = some (some (.int .i64 0), 1, 8) := by kernel_rfl

/-- 'make([]int, n)' -/
theorem make43 (n : Nat) (hn : n ≤ 1000000) : ∃ cs : Array Value, cs.size = n ∧ ∀ w : World, (Instr.makeSlice 43 (.int .i64 (n : Int)) (.int .i64 (n : Int))).run Efgg.prog w = .ok (.slice (some ⟨w.heap.size, 0, none⟩) n n) (w.alloc (.cells cs 3)) := by
  obtain ⟨i, hi, hz0, hz1, hz2⟩ := info_parts info3
  refine ⟨_, ?_, fun w => (run_make (P := Efgg.prog) w 43 3 i _ Efgg.underlying43 hi hz0 .i64 .i64 n n (by omega) (Int.le_refl _) (by rw [hz2]; omega) (by omega)).trans (by rw [Int.toNat_natCast])⟩
  rw [size_madeCells, hz1, Nat.mul_one]

def Row1 (cs : Array Value) (k : Nat) (Z : Nat → Int) : Prop := ∀ i, i < k → cs[i]? = some (.int .i64 (Z i))

theorem row1_step {w : World} {B n k : Nat} {cs : Array Value} {Z : Nat → Int} (hcs : w.heap[B]? = some (.cells cs 3 (0, 0))) (hsz : cs.size = n) (hrow : Row1 cs k Z) (hk : k < n) :
    ∃ cs', (w.setCell ⟨B, k, none⟩ (.int .i64 (Z k))).heap[B]? = some (.cells cs' 3 (0, 0)) ∧ cs'.size = n ∧ Row1 cs' (k + 1) Z := by
  refine ⟨_, heap_setCell_same _ _ _ _ _ _ hcs, by simp [hsz], ?_⟩
  intro i hi
  simp only [Array.getElem?_setIfInBounds]
  by_cases hik : i = k
  · subst hik
    rw [if_pos rfl, if_pos (by omega)]
  · rw [if_neg (by omega)]
    exact hrow i (by omega)

set_option maxHeartbeats 400000 in
theorem c18_yes (a : Addr) (b off n cap : Nat) (Z : Nat → Int) (w : World) (hao : 0 < n → a = ⟨b, off, none⟩) (hZ : Ints w b off n Z) (hn : n ≤ 1000000) :
    Calls Efgg.prog 18 #[.slice (some a) n cap] w fun e w' => e = .returned (.slice (some ⟨w.heap.size, 0, none⟩) n n) ∧ Below w.heap.size w w' ∧ Ints w' w.heap.size 0 n Z := by
  obtain ⟨cs0, hcs0, hmk⟩ := make43 n hn
  have heq := fun w a n c => Lib.run_eql_slice_nil (P := Efgg.prog) w 43 3 a n c 0 0 Efgg.underlying43
  go_enter Efgg.func18, Efgg.ntmps18
  go_wp2
  go_loopw [4] (fun i wr => ∃ (k : Nat) (cs : Array Value), k ≤ n ∧ i = .int .i64 k ∧ wr.heap[w.heap.size]? = some (.cells cs 3 (0, 0)) ∧ cs.size = n ∧ Row1 cs k Z ∧ Below w.heap.size w wr) (fun i _ => n - (intOf i).toNat)
  case atStart => exact ⟨0, cs0, Nat.zero_le _, rfl, heap_alloc_new w _, hcs0, fun i hi => absurd hi (Nat.not_lt_zero _), (Below.refl _ _).alloc (Nat.le_refl _) _⟩
  case round =>
    obtain ⟨k, cs, hk, rfl, hcs, hsz, hrow, hbel⟩ := hrel
    by_cases hlt : k < n
    · have hb : b < w.heap.size := hZ.lt (by omega)
      have h1 := hao (by omega)
      subst h1
      have c0 := hZ k hlt
      rw [← hbel.cell (by exact hb)] at c0
      obtain ⟨v0, d0⟩ := cellAt hcs (j := k) (by omega)
      have g0 := freeAt hcs k
      have R := row1_step hcs hsz hrow hlt
      clear hZ hao hmk heq hsz
      go_wp2
      go_roundw
      case rel =>
        obtain ⟨cs', r1, r2, r3⟩ := R
        exact ⟨k + 1, cs', by omega, by go_num, r1, r2, r3, hbel.setCell (Nat.le_refl _) _⟩
      case measure => simp [intOf]; omega
    · clear hZ hao hmk heq hsz
      go_wp2
      go_ret
      have : k = n := by omega
      subst this
      refine ⟨rfl, hbel, fun i hi => ?_⟩
      have := hrow i hi
      simp [World.cell?, hcs, this]

set_option maxHeartbeats 400000 in
theorem c18_no (w : World) :
    Calls Efgg.prog 18 #[.slice none 0 0] w fun e w' => e = .returned (.slice none 0 0) ∧ w' = w := by
  have heq := fun w a n c => Lib.run_eql_slice_nil (P := Efgg.prog) w 43 3 a n c 0 0 Efgg.underlying43
  go_enter Efgg.func18, Efgg.ntmps18
  go_wp2
  go_ret
  exact ⟨rfl, rfl⟩

/-- copyInts, nil or not -/
theorem c18 (ao : Option Addr) (b off n cap : Nat) (Z : Nat → Int) (w : World) (hnil : ao = none → n = 0 ∧ cap = 0) (hao : 0 < n → ao = some ⟨b, off, none⟩) (hZ : Ints w b off n Z) (hn : n ≤ 1000000) :
    Calls Efgg.prog 18 #[.slice ao n cap] w fun e w' => ∃ ao' cap', e = .returned (.slice ao' n cap') ∧ (0 < n → ao' = some ⟨w.heap.size, 0, none⟩) ∧ Below w.heap.size w w' ∧ Ints w' w.heap.size 0 n Z := by
  cases ao with
  | none =>
    obtain ⟨rfl, rfl⟩ := hnil rfl
    refine (c18_no w).mono ?_
    rintro e w' ⟨rfl, rfl⟩
    exact ⟨none, 0, rfl, fun h => absurd h (Nat.lt_irrefl _), Below.refl _ _, fun i hi => absurd hi (Nat.not_lt_zero _)⟩
  | some a =>
    refine (c18_yes a b off n cap Z w (fun h => Option.some.inj (hao h)) hZ hn).mono ?_
    rintro e w' ⟨rfl, h1, h2⟩
    exact ⟨_, _, rfl, fun _ => rfl, h1, h2⟩
end Go.Proofs.Yoefgw
