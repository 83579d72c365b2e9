/-
  buildList (10): the list of errors, one a entry, in order, each in a block of its own.
-/
import Derived.Test.YoefgwAdd
namespace Go.Proofs.Yoefgw
open Go.RowKit

/-- the cells of a row of pointers to the blocks ps -/
def ptrs (ps : List Nat) : List Value := ps.map fun p => .pointer (some ⟨p, 0, none⟩)

theorem ptrs_length (ps : List Nat) : (ptrs ps).length = ps.length := by simp [ptrs]
theorem ptrs_snoc (ps : List Nat) (p : Nat) : ptrs (ps ++ [p]) = ptrs ps ++ [.pointer (some ⟨p, 0, none⟩)] := by simp [ptrs]
theorem ptrs_take (ps : List Nat) (k : Nat) : ptrs (ps.take k) = (ptrs ps).take k := by simp [ptrs, List.map_take]

/-- the object of one error -/
def errObj (e : Ent) : Obj := .cells #[.string e.f, .int .i64 e.o, .int .i64 e.l, .int .i64 e.c, .string e.m] 37 (0, 0)

/-- the error blocks ps hold the entries E 0, E 1, .. and are pairwise distinct -/
structure Objs (B : Nat) (w : World) (ps : List Nat) (E : Nat → Ent) : Prop where
  obj : ∀ i p, ps[i]? = some p → w.heap[p]? = some (errObj (E i))
  ge : ∀ p, p ∈ ps → B ≤ p
  nodup : ps.Nodup

/-- the slice ⟨ao, length, cap⟩ is a row of pointers to the blocks ps -/
def RowP (B : Nat) (w : World) (ao : Option Addr) (cap : Nat) (ps : List Nat) : Prop := w.ownsRow B 31 1 (.slice ao ps.length cap) ps.length (ptrs ps)

theorem Objs.lt {B : Nat} {w : World} {ps : List Nat} {E : Nat → Ent} (h : Objs B w ps E) {p : Nat} (hp : p ∈ ps) : p < w.heap.size := by
  obtain ⟨i, hi⟩ := List.getElem?_of_mem hp
  exact lt_of_block (h.obj i p hi)

/-- the blocks of the errors are no block of another element type -/
theorem Objs.ne {B : Nat} {w : World} {ps : List Nat} {E : Nat → Ent} (h : Objs B w ps E) {p b : Nat} (hp : p ∈ ps) {cs : Array Value} {t : TypeId} {fr : Nat × Nat} (hb : w.heap[b]? = some (.cells cs t fr)) (ht : t ≠ 37) : p ≠ b := by
  obtain ⟨i, hi⟩ := List.getElem?_of_mem hp
  rintro rfl
  rw [h.obj i p hi] at hb
  simp only [errObj, Option.some.injEq, Obj.cells.injEq] at hb
  exact ht hb.2.1.symm

/-- what holds of the errors holds in every world in which their blocks are as they were -/
theorem Objs.same {B : Nat} {w w' : World} {ps : List Nat} {E : Nat → Ent} (h : Objs B w ps E) (hb : ∀ p, p ∈ ps → w'.heap[p]? = w.heap[p]?) : Objs B w' ps E :=
  ⟨fun i p hi => (hb p (List.mem_of_getElem? hi)).trans (h.obj i p hi), h.ge, h.nodup⟩

theorem Objs.below {B : Nat} {w w' : World} {ps : List Nat} {E : Nat → Ent} (h : Objs B w ps E) (hb : Below w.heap.size w w') : Objs B w' ps E :=
  h.same fun p hp => hb.block p (h.lt hp)

theorem Pushed.objs {B lb cap g cap' p : Nat} {ao : Option Addr} {ps : List Nat} {w w' : World} {E : Nat → Ent} (hbox : w.heap[lb]? = some (.cells #[.slice ao ps.length cap] 27 (0, 0))) (hrow : RowP B w ao cap ps) (hobj : Objs B w ps E)
    (h : Pushed B w w' lb ao ps.length cap (ptrs ps) (E ps.length) p g cap') (hB : B ≤ w.heap.size) : Objs B w' (ps ++ [p]) E := by
  have hold : ∀ q, q ∈ ps → w'.heap[q]? = w.heap[q]? := fun q hq =>
    h.block q (hobj.lt hq) (hobj.ne hq hbox (by decide)) (by
      obtain ⟨i, hi⟩ := List.getElem?_of_mem hq
      exact row_ne hrow (hobj.obj i q hi) (by decide))
  refine ⟨?_, ?_, ?_⟩
  · intro i q hi
    rw [List.getElem?_append] at hi
    split at hi
    · exact (hold q (List.mem_of_getElem? hi)).trans (hobj.obj i q hi)
    · rename_i hlt
      have hi0 : i = ps.length := by
        rcases Nat.lt_or_ge (i - ps.length) 1 with h1 | h1
        · omega
        · rw [List.getElem?_eq_none (by simpa using h1)] at hi
          cases hi
      subst hi0
      simp at hi
      subst hi
      exact h.obj
  · intro q hq
    rcases List.mem_append.1 hq with h1 | h1
    · exact hobj.ge q h1
    · simp at h1
      subst h1
      exact Nat.le_trans hB h.fresh
  · rw [List.nodup_append]
    refine ⟨hobj.nodup, by simp, ?_⟩
    intro a ha b hb
    simp at hb
    subst hb
    have := hobj.lt ha
    have := h.fresh
    omega

theorem Pushed.row {B lb n cap g cap' p : Nat} {ao : Option Addr} {ps : List Nat} {w w' : World} {e : Ent} (h : Pushed B w w' lb ao n cap (ptrs ps) e p g cap') (hn : n = ps.length) : RowP B w' (some ⟨g, 0, none⟩) cap' (ps ++ [p]) := by
  subst hn
  unfold RowP
  rw [ptrs_snoc, List.length_append]
  exact h.own

/-- below the first block of the call's own nothing has turned -/
theorem Pushed.below {B0 B lb n cap g cap' p : Nat} {ao : Option Addr} {xs : List Value} {w w' : World} {e : Ent} (h : Pushed B w w' lb ao n cap xs e p g cap') (hown : w.ownsRow B 31 1 (.slice ao n cap) n xs) (hlb : B0 ≤ lb) (hB : B0 ≤ B) (hs : B0 ≤ w.heap.size) : Below B0 w w' :=
  ⟨h.os, h.tape, h.output, h.size, fun k hk => h.block k (by omega) (by omega) (fun e => by have := (hown.lt k e.symm).1; omega)⟩

set_option maxHeartbeats 400000 in
theorem c10 (ao : Option Addr) (b off n cap : Nat) (E : Nat → Ent) (w : World) (hao : 0 < n → ao = some ⟨b, off, none⟩) (hE : Ents w b off n E) (hn : n ≤ 65536) :
    Calls Efgg.prog 10 #[.slice ao n cap] w fun e w' => ∃ ao' cap' ps, e = .returned (.slice ao' n cap') ∧ ps.length = n ∧ RowP w.heap.size w' ao' cap' ps ∧ Objs w.heap.size w' ps E ∧ Below w.heap.size w w' := by
  go_enter Efgg.func10, Efgg.ntmps10
  go_wp2
  go_loopw [4] (fun i wr => ∃ (k : Nat) (ao' : Option Addr) (cap' : Nat) (ps : List Nat), k ≤ n ∧ i = .int .i64 k ∧ ps.length = k ∧ wr.heap[w.heap.size]? = some (.cells #[.slice ao' k cap'] 27 (0, 0)) ∧
      RowP w.heap.size wr ao' cap' ps ∧ Objs w.heap.size wr ps E ∧ Below w.heap.size w wr) (fun i _ => n - (intOf i).toNat)
  case atStart => exact ⟨0, none, 0, [], Nat.zero_le _, rfl, rfl, heap_alloc_new w _, World.ownsRow_nil _ _ _ _, ⟨fun i p h => by simp at h, fun p h => by simp at h, List.nodup_nil⟩, (Below.refl _ _).alloc (Nat.le_refl _) _⟩
  case round =>
    obtain ⟨k, ao', cap', ps, hk, rfl, hps, hbox, hrow, hobj, hbel⟩ := hrel
    by_cases hlt : k < n
    · have hb : b < w.heap.size := hE.lt (by omega)
      have h1 := hao (by omega)
      subst h1
      obtain ⟨c0, c1, c2, c3, c4⟩ := hE k hlt
      rw [← hbel.cell (by exact hb)] at c0 c1 c2 c3 c4
      subst hps
      have Hbox : Hid (wr.heap[w.heap.size]? = some (.cells #[.slice ao' ps.length cap'] 27 (0, 0))) := hbox
      clear hE hao hbox
      go_wp2_with fail
      refine (c14 wr w.heap.size w.heap.size ps.length cap' ao' (ptrs ps) (E ps.length) Hbox.out hrow (by omega) hbel.size).mono ?_
      rintro e w1 ⟨rfl, p, g, cap2, hp⟩
      go_wp2_with fail
      go_roundw
      case rel => exact ⟨ps.length + 1, _, cap2, ps ++ [p], by omega, by go_num, by simp, hp.box, hp.row rfl, hp.objs Hbox.out hrow hobj hbel.size, hbel.trans (hp.below hrow (Nat.le_refl _) (Nat.le_refl _) hbel.size)⟩
      case measure => simp [intOf]; omega
    · have hkn : k = n := by omega
      subst hkn
      have hc := cell_of_one hbox
      clear hE hao hbox
      go_wp2
      go_ret
      exact ⟨_, _, _, rfl, hps, hrow, hobj, hbel⟩
end Go.Proofs.Yoefgw
