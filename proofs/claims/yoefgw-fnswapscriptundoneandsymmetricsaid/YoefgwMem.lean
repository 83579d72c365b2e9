/-
  WORLD FACTS FOR SEAT oefg: a slice of entries in memory; the list of errors that Add builds.
-/
import Derived.Test.YoefgwRows
import Derived.WalkKit
import Derived.WalkSpells
import Derived.WalkLawsBesides
namespace Go.Proofs.Yoefgw
open Go.RowKit

structure Ent where
  f : ByteArray
  o : Int
  l : Int
  c : Int
  m : ByteArray

/-- n entries lie in w from ⟨b, off⟩ on, five cells each -/
def Ents (w : World) (b off n : Nat) (E : Nat → Ent) : Prop :=
  ∀ i, i < n → w.cell? ⟨b, off + i * 5, none⟩ = some (.string (E i).f) ∧ w.cell? ⟨b, off + i * 5 + 1, none⟩ = some (.int .i64 (E i).o) ∧
    w.cell? ⟨b, off + i * 5 + 2, none⟩ = some (.int .i64 (E i).l) ∧ w.cell? ⟨b, off + i * 5 + 3, none⟩ = some (.int .i64 (E i).c) ∧
    w.cell? ⟨b, off + i * 5 + 4, none⟩ = some (.string (E i).m)

theorem Ents.lt {w : World} {b off n : Nat} {E : Nat → Ent} (h : Ents w b off n E) (hn : 0 < n) : b < w.heap.size :=
  World.block_lt_of_cell? w _ (h 0 hn).1

theorem Ents.below {B : Nat} {w w' : World} {b off n : Nat} {E : Nat → Ent} (h : Ents w b off n E) (hb : Below B w w') (hlt : 0 < n → b < B) : Ents w' b off n E := by
  intro i hi
  have hl : b < B := hlt (by omega)
  obtain ⟨h0, h1, h2, h3, h4⟩ := h i hi
  exact ⟨(hb.cell hl).trans h0, (hb.cell hl).trans h1, (hb.cell hl).trans h2, (hb.cell hl).trans h3, (hb.cell hl).trans h4⟩

theorem info31 : (Efgg.prog.info? 31).map (fun i => (i.zero, i.size, i.bytes)) = some (some (.pointer none), 1, 8) := by kernel_rfl
theorem info33 : (Efgg.prog.info? 33).map (fun i => (i.zero, i.size, i.bytes)) = some (some (.agg #[.string ByteArray.empty, .int .i64 0, .int .i64 0, .int .i64 0, .string ByteArray.empty]), 5, 56) := by kernel_rfl

theorem cellAt {w : World} {B : Nat} {cs : Array Value} {t : TypeId} (h : w.heap[B]? = some (.cells cs t (0, 0))) {j : Nat} (hj : j < cs.size) : ∃ v, w.cell? ⟨B, j, none⟩ = some v :=
  ⟨cs[j], by simp [World.cell?, h, hj]⟩
theorem freeAt {w : World} {B : Nat} {cs : Array Value} {t : TypeId} (h : w.heap[B]? = some (.cells cs t (0, 0))) (j : Nat) : w.frozen? ⟨B, j, none⟩ = false := by
  simp [World.frozen?, h]

/-- what 'append(list, p)' leaves: the row, the frame, where the new row lies, and that every earlier view of the first cells still reads them -/
structure Added (B : Nat) (w w' : World) (ao : Option Addr) (n cap : Nat) (xs : List Value) (u : Value) (g cap' : Nat) : Prop where
  own : w'.ownsRow B 31 1 (.slice (some ⟨g, 0, none⟩) (n + 1) cap') (n + 1) (xs ++ [u])
  grown : w.grownBy w' (Value.ownBlock (.slice ao n cap))
  place : Value.ownBlock (.slice ao n cap) = some g ∨ w.heap.size ≤ g
  keeps : ∀ vs k, k ≤ n → w.ownsRow B 31 1 vs k (xs.take k) → w'.ownsRow B 31 1 vs k (xs.take k)

theorem run_add (w : World) (B : Nat) (t ty : TypeId) (ht : Efgg.prog.underlying t = some (.slice 31)) (ao : Option Addr) (n cap : Nat) (xs : List Value) (hown : w.ownsRow B 31 1 (.slice ao n cap) n xs)
    (a : Addr) (c : Nat) (u : Value) (hu : w.cell? a = some u) (h1 : u.oneCell' = true) (hn : n ≤ 1000000) (hB : B ≤ w.heap.size) :
    ∃ g cap' w', (Builtin.append_ #[t, t] ty #[.slice ao n cap, .slice (some a) 1 c]).run Efgg.prog w = .ok (.slice (some ⟨g, 0, none⟩) (n + 1) cap') w' ∧ Added B w w' ao n cap xs u g cap' := by
  obtain ⟨i, hi, hz, hsz, hby⟩ := info_parts info31
  have hl : [u].length = 1 * i.size := by rw [hsz]; rfl
  have hnews : ∀ j v, [u][j]? = some v → w.cell? (a.add j) = some v := by
    intro j v hj
    match j, hj with
    | 0, hj =>
      simp at hj
      subst hj
      have : a.add 0 = a := by unfold Addr.add; simp
      rw [this]
      exact hu
  have hlen : (xs ++ [u]).length = (n + 1) * 1 := by rw [List.length_append, hown.1]; simp
  have grown : ∀ (old : Nat), (w.drew.alloc (.cells (xs.toArray ++ [u].toArray ++ Builtin.zeroCells (Value.pointer none).cells (grownCap w (n + 1) old 31 - (n + 1))) 31)).ownsRow B 31 1
        (.slice (some ⟨w.heap.size, 0, none⟩) (n + 1) (grownCap w (n + 1) old 31)) (n + 1) (xs ++ [u]) ∧
      ∀ row, w.grownBy (w.drew.alloc (.cells (xs.toArray ++ [u].toArray ++ Builtin.zeroCells (Value.pointer none).cells (grownCap w (n + 1) old 31 - (n + 1))) 31)) row := by
    intro old
    have hge := grownCap_ge w (n + 1) old 31
    have hcm : grownCap w (n + 1) old 31 ≤ maxLen := grownCap_le_maxLen w (n + 1) old 31 (by unfold maxLen; omega)
    refine ⟨⟨hlen, .inr ⟨w.heap.size, _, _, rfl, hB, heap_alloc_new w.drew _, hge, hcm, ?_, ?_⟩⟩, fun row => ⟨rfl, rfl, rfl, by simp, fun k hk _ => Below.heap_alloc w.drew _ k hk⟩⟩
    · simp only [Array.size_append, List.size_toArray, size_zeroCells, hown.1, Value.cells]
      simp
      omega
    · simp only [Array.toList_append, List.append_assoc]
      rw [← List.append_assoc, ← hlen]
      exact List.take_left
  have keeps_new : ∀ (w' : World), w.grownBy w' none → ∀ vs k, k ≤ n → w.ownsRow B 31 1 vs k (xs.take k) → w'.ownsRow B 31 1 vs k (xs.take k) := by
    intro w' hg vs k _ hvs
    exact hvs.kept hg (by cases vs.ownBlock <;> simp)
  rcases hown.2 with ⟨hv, hn0⟩ | ⟨g, cap0, cur, hv, hbg, hg, hnc, hcm, hcs, htake⟩
  · simp only [Value.slice.injEq] at hv
    obtain ⟨rfl, rfl, rfl⟩ := hv
    have hx : xs = [] := List.eq_nil_of_length_eq_zero (by simpa using hown.1)
    subst hx
    have hr := run_append_nil (P := Efgg.prog) w t ty 31 i (.pointer none) ht hi hz a 1 c [u] hl hnews (by omega) (by omega) (by rw [hby]; omega)
    have hgr := grown 0
    simp only [Nat.zero_add, List.nil_append, Array.empty_append] at hgr ⊢
    exact ⟨_, _, _, hr, hgr.1, hgr.2 _, .inr (Nat.le_refl _), keeps_new _ (hgr.2 none)⟩
  · simp only [Value.slice.injEq] at hv
    obtain ⟨rfl, -, rfl⟩ := hv
    by_cases hroom : n + 1 ≤ cap
    · have hfit : n * i.size + [u].length ≤ cur.size := by rw [hl, hcs, hsz]; omega
      have hr := run_append_room (P := Efgg.prog) w t ty 31 i ht hi g n cap cur hg a 1 c [u] hl hnews (by intro v hv; simp at hv; subst hv; exact h1) hroom hfit
      rw [hsz] at hr
      simp only [Nat.mul_one, List.length_cons, List.length_nil, Nat.zero_add] at hr htake hcs
      have hrow := setRow_heap w g cur (cur.toList.take n ++ [u] ++ cur.toList.drop (n + 1)).toArray 31 (0, 0) hg
      have hsize : (cur.toList.take n ++ [u] ++ cur.toList.drop (n + 1)).toArray.size = cap := by
        simp only [List.size_toArray, List.length_append, List.length_take, List.length_drop, Array.length_toList, List.length_cons, List.length_nil]
        omega
      refine ⟨g, cap, _, hr, ⟨hlen, .inr ⟨g, cap, _, rfl, hbg, hrow, hroom, hcm, by rw [Nat.mul_one]; exact hsize, ?_⟩⟩, ⟨rfl, rfl, rfl, by simp, fun k _ hk => setRow_other w g k _ (fun e => hk (by simp [Value.ownBlock, e]))⟩, .inl rfl, ?_⟩
      · rw [htake, ← hlen]
        exact List.take_left
      · intro vs k hk hvs
        refine ⟨hvs.1, ?_⟩
        rcases hvs.2 with h | ⟨g', cap', cur', rfl, hb', hg', hn', hm', hc', ht'⟩
        · exact .inl h
        · by_cases hgg : g' = g
          · subst hgg
            rw [hg] at hg'
            simp only [Option.some.injEq, Obj.cells.injEq, and_true] at hg'
            obtain rfl := hg'
            refine .inr ⟨g', cap', _, rfl, hb', hrow, hn', hm', by rw [hsize]; omega, ?_⟩
            rw [Nat.mul_one] at ht' ⊢
            rw [← ht', htake, List.append_assoc, List.take_append_of_le_length (by rw [hown.1]; omega), ← htake, List.take_take, Nat.min_eq_left (by omega)]
          · exact .inr ⟨g', cap', cur', rfl, hb', by rw [setRow_other w g g' _ hgg]; exact hg', hn', hm', hc', ht'⟩
    · have holds : ∀ j v, xs[j]? = some v → w.cell? ((⟨g, 0, none⟩ : Addr).add j) = some v := hown.cells (g := g) rfl
      have hr := run_append_grow (P := Efgg.prog) w t ty 31 i (.pointer none) ht hi hz ⟨g, 0, none⟩ n cap xs (by rw [hsz]; exact hown.1) holds a 1 c [u] hl hnews (by omega) (by omega) (growslice_fits (by omega) (by rw [hby]; omega))
      have hgr := grown cap
      exact ⟨_, _, _, hr, hgr.1, hgr.2 _, .inr (Nat.le_refl _), keeps_new _ (hgr.2 none)⟩

end Go.Proofs.Yoefgw
