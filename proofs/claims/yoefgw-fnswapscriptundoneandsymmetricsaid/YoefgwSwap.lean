/-
  Swap (16): two cells of the row exchanged.
-/
import Derived.Test.YoefgwBuild
import Derived.BigRegion
namespace Go.Proofs.Yoefgw
open Go.RowKit

/-- two places of a list exchanged -/
def swapL (ps : List Nat) (i j : Nat) : List Nat := (ps.set i (ps.getD j 0)).set j (ps.getD i 0)

theorem swapL_length (ps : List Nat) (i j : Nat) : (swapL ps i j).length = ps.length := by simp [swapL]

theorem rowP_cell {B : Nat} {w : World} {g cap : Nat} {ps : List Nat} (h : RowP B w (some ⟨g, 0, none⟩) cap ps) {i : Nat} (hi : i < ps.length) : w.cell? ⟨g, i, none⟩ = some (.pointer (some ⟨ps.getD i 0, 0, none⟩)) := by
  have := World.ownsRow.cellAt h i (by omega)
  rw [this]
  simp [ptrs, hi]

theorem rowP_free {B : Nat} {w : World} {g cap : Nat} {ps : List Nat} (h : RowP B w (some ⟨g, 0, none⟩) cap ps) (i : Nat) : w.frozen? ⟨g, i, none⟩ = false := World.ownsRow.frozenAt h i

theorem ptrs_set (ps : List Nat) (i p : Nat) : ptrs (ps.set i p) = (ptrs ps).set i (.pointer (some ⟨p, 0, none⟩)) := by simp [ptrs, List.map_set]

theorem grownBy_trans {a b c : World} {r : Option Nat} (h : a.grownBy b r) (k : b.grownBy c r) : a.grownBy c r :=
  ⟨k.os.trans h.os, k.tape.trans h.tape, k.output.trans h.output, Nat.le_trans h.size k.size, fun x hx hr => (k.block x (Nat.lt_of_lt_of_le hx h.size) hr).trans (h.block x hx hr)⟩

/-- one store into the row -/
theorem rowP_set {B : Nat} {w : World} {g cap : Nat} {ps : List Nat} (h : RowP B w (some ⟨g, 0, none⟩) cap ps) (i p : Nat) :
    RowP B (w.setCell ⟨g, i, none⟩ (.pointer (some ⟨p, 0, none⟩))) (some ⟨g, 0, none⟩) cap (ps.set i p) ∧ w.grownBy (w.setCell ⟨g, i, none⟩ (.pointer (some ⟨p, 0, none⟩))) (some g) := by
  have h2 := World.ownsRow.stored h i (.pointer (some ⟨p, 0, none⟩))
  refine ⟨?_, h2.2⟩
  unfold RowP
  rw [ptrs_set, List.length_set]
  exact h2.1

theorem rowP_swap {B : Nat} {w : World} {g cap : Nat} {ps : List Nat} (h : RowP B w (some ⟨g, 0, none⟩) cap ps) (i j : Nat) :
    RowP B ((w.setCell ⟨g, i, none⟩ (.pointer (some ⟨ps.getD j 0, 0, none⟩))).setCell ⟨g, j, none⟩ (.pointer (some ⟨ps.getD i 0, 0, none⟩))).drew (some ⟨g, 0, none⟩) cap (swapL ps i j) ∧
      w.grownBy ((w.setCell ⟨g, i, none⟩ (.pointer (some ⟨ps.getD j 0, 0, none⟩))).setCell ⟨g, j, none⟩ (.pointer (some ⟨ps.getD i 0, 0, none⟩))).drew (some g) := by
  have h1 := rowP_set h i (ps.getD j 0)
  have h2 := rowP_set h1.1 j (ps.getD i 0)
  have h3 := grownBy_trans h1.2 h2.2
  exact ⟨h2.1, ⟨h3.os, h3.tape, h3.output, h3.size, h3.block⟩⟩

set_option maxHeartbeats 400000 in
theorem c16 (w : World) (B g cap : Nat) (ps : List Nat) (i j : Nat) (hrow : RowP B w (some ⟨g, 0, none⟩) cap ps) (hi : i < ps.length) (hj : j < ps.length) :
    Calls Efgg.prog 16 #[.slice (some ⟨g, 0, none⟩) ps.length cap, .int .i64 (i : Int), .int .i64 (j : Int)] w fun e w' => e = .returned (.tuple #[]) ∧ RowP B w' (some ⟨g, 0, none⟩) cap (swapL ps i j) ∧ w.grownBy w' (some g) := by
  have ci := rowP_cell hrow hi
  have cj := rowP_cell hrow hj
  have fi := rowP_free hrow i
  have fj := rowP_free hrow j
  generalize hpi : ps.getD i 0 = pi at *
  generalize hpj : ps.getD j 0 = pj at *
  have HP : Hid (ps.getD i 0 = pi ∧ ps.getD j 0 = pj) := ⟨hpi, hpj⟩
  clear hpi hpj
  obtain ⟨v1, e1⟩ := cell?_setCell_some (w := w) (p := ⟨g, i, none⟩) (x := .pointer (some ⟨pj, 0, none⟩)) (q := ⟨g, j, none⟩) cj
  obtain ⟨v2, e2⟩ := cell?_setCell_some (w := w) (p := ⟨g, j, none⟩) (x := .pointer (some ⟨pi, 0, none⟩)) (q := ⟨g, i, none⟩) ci
  go_enter Efgg.func16, Efgg.ntmps16
  go_wp2
  go_region
  all_goals go_end0
  all_goals
    obtain ⟨hpi, hpj⟩ := HP.out
    subst hpi hpj
    exact ⟨rfl, rowP_swap hrow i j⟩
end Go.Proofs.Yoefgw
