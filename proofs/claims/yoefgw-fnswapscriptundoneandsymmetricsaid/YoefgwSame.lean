/-
  sameEntry (12): an error that holds the entry is the same as the entry.
-/
import Derived.Test.YoefgwBuild
import Derived.Deep.QuietTactic
import Derived.BigQuiet
namespace Go.Proofs.Yoefgw
open Go.RowKit

theorem errObj_cells {w : World} {p : Nat} {e : Ent} (h : w.heap[p]? = some (errObj e)) :
    w.cell? ⟨p, 0, none⟩ = some (.string e.f) ∧ w.cell? ⟨p, 1, none⟩ = some (.int .i64 e.o) ∧ w.cell? ⟨p, 2, none⟩ = some (.int .i64 e.l) ∧ w.cell? ⟨p, 3, none⟩ = some (.int .i64 e.c) ∧ w.cell? ⟨p, 4, none⟩ = some (.string e.m) := by
  simp [World.cell?, h, errObj]

set_option maxHeartbeats 400000 in
theorem c12 (w : World) (p : Nat) (e : Ent) (hobj : w.heap[p]? = some (errObj e)) :
    Calls Efgg.prog 12 #[.pointer (some ⟨p, 0, none⟩), .agg #[.string e.f, .int .i64 e.o, .int .i64 e.l, .int .i64 e.c, .string e.m]] w fun r w' => r = .returned (.bool true) ∧ Below w.heap.size w w' := by
  obtain ⟨c0, c1, c2, c3, c4⟩ := errObj_cells hobj
  have hlt := lt_of_block hobj
  clear hobj
  go_enter Efgg.func12, Efgg.ntmps12
  go_wp2
  go_quiet (fail)
  go_wp2
  go_ret
  exact ⟨rfl, below_drewN ((Below.refl _ _).alloc (Nat.le_refl _) _) _⟩
end Go.Proofs.Yoefgw
