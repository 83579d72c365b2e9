/-
  FnAddKeepsEarlierElements (4): the walk.
-/
import Derived.Test.YoefgwBuilds
import Derived.Deep.RegionHeld3
import Derived.Lib.Builder
namespace Go.Proofs.Yoefgw
open Go.RowKit

/-- 'make([]*Error, n)', 'make(ErrorList, n)' -/
theorem make_ptrs (t : TypeId) (ht : Efgg.prog.underlying t = some (.slice 31)) (n : Nat) (hn : n ≤ 1000000) : ∃ cs : Array Value, cs.size = n ∧ ∀ w : World, (Instr.makeSlice t (.int .i64 (n : Int)) (.int .i64 (n : Int))).run Efgg.prog w = .ok (.slice (some ⟨w.heap.size, 0, none⟩) n n) (w.alloc (.cells cs 31)) := by
  obtain ⟨i, hi, hz0, hz1, hz2⟩ := info_parts info31
  refine ⟨_, ?_, fun w => (run_make (P := Efgg.prog) w t 31 i _ ht hi hz0 .i64 .i64 n n (by omega) (Int.le_refl _) (by rw [hz2]; omega) (by omega)).trans (by rw [Int.toNat_natCast])⟩
  rw [size_madeCells, hz1, Nat.mul_one]

/-- a row that is being filled with the pointers ps: its first k cells -/
def Fill (w : World) (g n : Nat) (ps : List Nat) (k : Nat) : Prop := ∃ cs : Array Value, w.heap[g]? = some (.cells cs 31 (0, 0)) ∧ cs.size = n ∧ ∀ i p, i < k → ps[i]? = some p → cs[i]? = some (.pointer (some ⟨p, 0, none⟩))

theorem Fill.start {w : World} {n : Nat} {ps : List Nat} {cs : Array Value} (h : cs.size = n) : Fill (w.alloc (.cells cs 31)) w.heap.size n ps 0 :=
  ⟨cs, heap_alloc_new w _, h, fun _ _ hi => absurd hi (Nat.not_lt_zero _)⟩

theorem Fill.step {w : World} {g n k p : Nat} {ps : List Nat} (h : Fill w g n ps k) (hk : k < n) (hp : ps[k]? = some p) : Fill (w.setCell ⟨g, k, none⟩ (.pointer (some ⟨p, 0, none⟩))) g n ps (k + 1) := by
  obtain ⟨cs, h1, h2, h3⟩ := h
  refine ⟨_, heap_setCell_same _ _ _ _ _ _ h1, by simp [h2], ?_⟩
  intro i q hi hq
  simp only [Array.getElem?_setIfInBounds]
  by_cases hik : i = k
  · subst hik
    rw [hp] at hq
    simp at hq
    subst hq
    rw [if_pos rfl, if_pos (by omega)]
  · rw [if_neg (by omega)]
    exact h3 i q (by omega) hq

/-- the row is full -/
theorem Fill.row {w : World} {B g : Nat} {ps : List Nat} (h : Fill w g ps.length ps ps.length) (hB : B ≤ g) (hm : ps.length ≤ 1000000) : RowP B w (some ⟨g, 0, none⟩) ps.length ps := by
  obtain ⟨cs, h1, h2, h3⟩ := h
  refine ⟨by simp [ptrs_length], .inr ⟨g, ps.length, cs, rfl, hB, h1, Nat.le_refl _, by unfold maxLen; omega, by omega, ?_⟩⟩
  rw [Nat.mul_one, List.take_of_length_le (by rw [Array.length_toList]; omega)]
  apply List.ext_getElem?
  intro i
  by_cases hi : i < ps.length
  · have hp : ps[i]? = some ps[i] := List.getElem?_eq_getElem hi
    have := h3 i _ hi hp
    simp [ptrs, hp, this]
  · rw [List.getElem?_eq_none (by rw [Array.length_toList]; omega), List.getElem?_eq_none (by rw [ptrs_length]; omega)]

theorem Fill.facts {w : World} {g n k : Nat} {ps : List Nat} (h : Fill w g n ps k) {j : Nat} (hj : j < n) : (∃ v, w.cell? ⟨g, j, none⟩ = some v) ∧ w.frozen? ⟨g, j, none⟩ = false := by
  obtain ⟨cs, h1, h2, -⟩ := h
  exact ⟨cellAt h1 (by omega), freeAt h1 j⟩

/-- the list behind further Adds; the copy of the list value taken behind the k-th (snap) and the pointers taken then (gp) still read the first k -/
structure Keep (B gp k : Nat) (aoS : Option Addr) (capS : Nat) (ps : List Nat) (E : Nat → Ent) (w : World) (aoL : Option Addr) (capL : Nat) (qs : List Nat) : Prop where
  box : w.heap[B]? = some (.cells #[.slice aoL qs.length capL] 27 (0, 0))
  le : k ≤ qs.length
  pre : qs.take k = ps
  row : RowP B w aoL capL qs
  obj : Objs B w qs E
  snap : RowP B w aoS capS ps
  ptr : RowP B w (some ⟨gp, 0, none⟩) k ps

theorem Keep.below {B gp k : Nat} {aoS : Option Addr} {capS : Nat} {ps : List Nat} {E : Nat → Ent} {w w' : World} {aoL : Option Addr} {capL : Nat} {qs : List Nat} (h : Keep B gp k aoS capS ps E w aoL capL qs) (hb : Below w.heap.size w w') :
    Keep B gp k aoS capS ps E w' aoL capL qs :=
  ⟨(hb.block B (lt_of_block h.box)).trans h.box, h.le, h.pre, rowP_below h.row hb, h.obj.below hb, rowP_below h.snap hb, rowP_below h.ptr hb⟩

theorem Keep.push {B gp k : Nat} {aoS : Option Addr} {capS : Nat} {ps : List Nat} {E : Nat → Ent} {w w' : World} {aoL : Option Addr} {capL : Nat} {qs : List Nat} {p g cap' : Nat} (h : Keep B gp k aoS capS ps E w aoL capL qs)
    (hp : Pushed B w w' B aoL qs.length capL (ptrs qs) (E qs.length) p g cap') : Keep B gp k aoS capS ps E w' (some ⟨g, 0, none⟩) cap' (qs ++ [p]) := by
  have hle := h.le
  have hlen : ps.length = k := by rw [← h.pre, List.length_take]; omega
  have hps : ptrs ps = (ptrs qs).take k := by rw [← h.pre, ptrs_take]
  have keep : ∀ vs, w.ownsRow B 31 1 vs ps.length (ptrs ps) → w'.ownsRow B 31 1 vs ps.length (ptrs ps) := by
    intro vs hvs
    rw [hlen, hps] at hvs ⊢
    exact hp.keeps vs k hle hvs
  refine ⟨?_, by simp; omega, ?_, hp.row rfl, hp.objs h.box h.row h.obj (Nat.le_of_lt (lt_of_block h.box)), keep _ h.snap, keep _ h.ptr⟩
  · rw [List.length_append]
    exact hp.box
  · rw [List.take_append_of_le_length hle]
    exact h.pre

theorem info37 : (Efgg.prog.info? 37).isSome = true := by kernel_rfl

/-- a pointer to an error held against itself -/
theorem neq31 (w : World) (a : Addr) : (binOp .neq 31 (.pointer (some a)) (.pointer (some a))).run Efgg.prog w = .ok (.bool false) w := by
  obtain ⟨i, hi⟩ := Option.isSome_iff_exists.1 info37
  exact Lib.run_neq_ptr_same w a Efgg.underlying31 hi

theorem below_of_drew {B : Nat} {w w' : World} (h : Below B w.drew w') : Below B w w' := ⟨h.os, h.tape, h.output, h.size, h.block⟩

theorem below_of_drews {B n : Nat} {w w' : World} (h : Below B (w.drewN n).drew w') : Below B w w' := ⟨h.os, h.tape, h.output, h.size, h.block⟩

set_option maxHeartbeats 2000000 in
theorem walk4 (ao : Option Addr) (b off n cap : Nat) (k : Int) (E : Nat → Ent) (w : World) (hnil : ao = none → n = 0 ∧ cap = 0) (hao : 0 < n → ao = some ⟨b, off, none⟩) (hE : Ents w b off n E) (hn : n ≤ 1000000000000000) :
    Calls Efgg.prog 4 #[.slice ao n cap, .int .i64 k] w fun e w' => e = .returned (.bool true) ∧ Below w.heap.size w w' := by
  go_enter Efgg.func4, Efgg.ntmps4
  go_wp2_with fail
  refine (c13 k ao b off n cap E _ hao hE hn).mono ?_
  rintro e w ⟨⟨t, rfl⟩, rfl⟩
  cases t with
  | false =>
    go_wp2_with fail
    go_ret
    exact ⟨rfl, Below.refl _ _⟩
  | true =>
  by_cases hbig : 65536 < n
  · go_wp2_with fail
    go_ret
    exact ⟨rfl, Below.refl _ _⟩
  go_wp2_with fail
  refine (c8 ao b off n cap E _ hao hE hn).mono ?_
  rintro e w ⟨⟨t, rfl⟩, rfl⟩
  by_cases ht : 1048576 < t
  · go_wp2_with fail
    go_ret
    exact ⟨rfl, Below.refl _ _⟩
  by_cases hk0 : k < 0
  · go_wp2_with fail
    go_ret
    exact ⟨rfl, Below.refl _ _⟩
  by_cases hk1 : (n : Int) < k
  · go_wp2_with fail
    go_ret
    exact ⟨rfl, Below.refl _ _⟩
  obtain ⟨k, rfl⟩ := Int.eq_ofNat_of_zero_le (show 0 ≤ k by omega)
  have hkn : k ≤ n := by omega
  have e0 : decide ((k : Int) < 0) = false := by simp
  have e1 : decide ((n : Int) < (k : Int)) = false := by simp; omega
  clear hk0 hk1
  go_wp2_with fail
  refine (c9 ao b off n cap E _ hnil hao hE (by omega)).mono ?_
  rintro e w1 ⟨ao1, cap1, rfl, hao1, hbel1, hE1⟩
  clear hE hao hnil e0 e1
  go_wp2_with (go_at_call 11; refine (c11 _ _ _ _).mono ?_; rintro e w' ⟨rfl, rfl⟩)
  go_loopw [7] (fun i wr => ∃ (j : Nat) (aoL : Option Addr) (capL : Nat) (ps : List Nat), j ≤ k ∧ i = .int .i64 j ∧ ps.length = j ∧ wr.heap[w1.heap.size]? = some (.cells #[.slice aoL j capL] 27 (0, 0)) ∧
      RowP w1.heap.size wr aoL capL ps ∧ Objs w1.heap.size wr ps E ∧ Below w1.heap.size w1 wr) (fun i _ => k - (intOf i).toNat)
  case atStart => exact ⟨0, none, 0, [], Nat.zero_le _, rfl, rfl, heap_alloc_new w1 _, World.ownsRow_nil _ _ _ _, ⟨fun i p h => by simp at h, fun p h => by simp at h, List.nodup_nil⟩, (Below.refl _ _).alloc (Nat.le_refl _) _⟩
  case round =>
  obtain ⟨j, aoL, capL, ps, hj, rfl, hps, hbox, hrow, hobj, hbel2⟩ := hrel
  by_cases hlt : j < k
  · have hb : w.heap.size < w1.heap.size := hE1.lt (by omega)
    have h1 := hao1 (by omega)
    subst h1
    obtain ⟨c0, c1, c2, c3, c4⟩ := hE1 j (by omega)
    simp only [Nat.zero_add] at c0 c1 c2 c3 c4
    rw [← hbel2.cell (by exact hb)] at c0 c1 c2 c3 c4
    subst hps
    have Hbox : Hid (wr.heap[w1.heap.size]? = some (.cells #[.slice aoL ps.length capL] 27 (0, 0))) := hbox
    clear hE1 hao1 hbox
    go_wp2_with fail
    refine (c14 wr w1.heap.size w1.heap.size ps.length capL aoL (ptrs ps) (E ps.length) Hbox.out hrow (by omega) hbel2.size).mono ?_
    rintro e w2 ⟨rfl, p, g, cap2, hp⟩
    go_wp2_with fail
    go_roundw
    case rel => exact ⟨ps.length + 1, _, cap2, ps ++ [p], by omega, by go_num, by simp, hp.box, hp.row rfl, hp.objs Hbox.out hrow hobj hbel2.size, hbel2.trans (hp.below hrow (Nat.le_refl _) (Nat.le_refl _) hbel2.size)⟩
    case measure => simp [intOf]; omega
  · have hjk : k = j := by omega
    subst hjk
    clear hlt
    obtain ⟨w3, hw3⟩ : ∃ w3, w3 = wr := ⟨_, rfl⟩
    subst hw3
    have hc := cell_of_one hbox
    have hltB := lt_of_block hbox
    have Hbox : Hid (w3.heap[w1.heap.size]? = some (.cells #[.slice aoL k capL] 27 (0, 0))) := hbox
    clear hbox
    obtain ⟨cs0, hcs0, hmk⟩ := make_ptrs 26 Efgg.underlying26 k (by omega)
    go_wp2_with fail
    clear hmk
    go_loopw [10] (fun i wx => ∃ j : Nat, j ≤ k ∧ i = .int .i64 j ∧ Fill wx w3.heap.size k ps j ∧ Below w3.heap.size w3 wx) (fun i _ => k - (intOf i).toNat)
    case atStart => exact ⟨0, Nat.zero_le _, rfl, Fill.start hcs0, (Below.refl _ _).alloc (Nat.le_refl _) _⟩
    case round =>
    clear hc
    obtain ⟨j, hj, rfl, hfill, hbel3⟩ := hrel
    by_cases hlt : j < k
    · obtain ⟨g, hg, hg1, hg2, -⟩ := rowP_some hrow (by omega)
      subst hg
      obtain ⟨p, hp⟩ : ∃ p, ps[j]? = some p := ⟨_, List.getElem?_eq_getElem (by omega)⟩
      have cb : wr.cell? ⟨w1.heap.size, 0, none⟩ = some (.slice (some ⟨g, 0, none⟩) k capL) := (hbel3.cell hltB).trans (cell_of_one Hbox.out)
      have cl : wr.cell? ⟨g, j, none⟩ = some (.pointer (some ⟨p, 0, none⟩)) := by
        rw [rowP_cell (rowP_below hrow hbel3) (by omega), List.getD, hp]; rfl
      obtain ⟨⟨v0, d0⟩, f0⟩ := hfill.facts hlt
      have R := hfill.step hlt hp
      clear hp hfill
      go_wp2_with fail
      go_roundw
      case rel => exact ⟨j + 1, by omega, by go_num, R, hbel3.setCell (Nat.le_refl _) _⟩
      case measure => simp [intOf]; omega
    · have hjk : k = j := by omega
      subst hjk
      clear hlt
      obtain ⟨w4, hw4⟩ : ∃ w4, w4 = wr := ⟨_, rfl⟩
      subst hw4
      have hK : Keep w1.heap.size w3.heap.size k aoL capL ps E w4 aoL capL ps := by
        subst hps
        exact ⟨(hbel3.block _ hltB).trans Hbox.out, Nat.le_refl _, List.take_of_length_le (Nat.le_refl _), rowP_below hrow hbel3, hobj.below hbel3, rowP_below hrow hbel3, hfill.row hbel2.size (by omega)⟩
      have hbel4 : Below w1.heap.size w1 w4 := hbel2.trans (hbel3.mono hbel2.size)
      clear hrow hobj hbel2 hbel3 hfill Hbox hcs0 hltB
      go_wp2_with fail
      go_loopw [11] (fun i wx => ∃ (j : Nat) (aoM : Option Addr) (capM : Nat) (qs : List Nat), k ≤ j ∧ j ≤ n ∧ i = .int .i64 j ∧ qs.length = j ∧ Keep w1.heap.size w3.heap.size k aoL capL ps E wx aoM capM qs ∧ Below w1.heap.size w1 wx) (fun i _ => n - (intOf i).toNat)
      case atStart => exact ⟨k, aoL, capL, ps, Nat.le_refl _, hkn, rfl, hps, hK, hbel4⟩
      case round =>
      clear hK hbel4
      obtain ⟨j, aoM, capM, qs, hj1, hj2, rfl, hqs, hK, hbel4⟩ := hrel
      by_cases hlt : j < n
      · subst hqs
        have hb : w.heap.size < w1.heap.size := hE1.lt (by omega)
        have h1 := hao1 (by omega)
        subst h1
        obtain ⟨c0, c1, c2, c3, c4⟩ := hE1 qs.length hlt
        simp only [Nat.zero_add] at c0 c1 c2 c3 c4
        rw [← hbel4.cell (by exact hb)] at c0 c1 c2 c3 c4
        have cb := cell_of_one hK.box
        go_wp2_with (go_at_call 11; refine (c11 _ _ _ _).mono ?_; rintro e w' ⟨rfl, rfl⟩)
        refine (c14 wr w1.heap.size w1.heap.size qs.length capM aoM (ptrs qs) (E qs.length) hK.box hK.row (by omega) hbel4.size).mono ?_
        rintro e w5 ⟨rfl, p, g, cap2, hp⟩
        have hK5 := hK.push hp
        have hbel5 := hbel4.trans (hp.below hK.row (Nat.le_refl _) (Nat.le_refl _) hbel4.size)
        have cb5 := cell_of_one hp.box
        have hb5 : Below w1.heap.size w1 w5 := hbel5
        have cl : w5.cell? ⟨g, qs.length, none⟩ = some (.pointer (some ⟨p, 0, none⟩)) := by
          rw [rowP_cell hK5.row (by simp)]; simp
        have Hob : Hid (w5.heap[p]? = some (errObj (E qs.length))) := hp.obj
        rw [hbel4.cell (by exact hb), ← hbel5.cell (by exact hb)] at c0 c1 c2 c3 c4
        clear cb
        have hlp : (qs ++ [p]).length = qs.length + 1 := by simp
        clear hp hK hbel4
        go_wp2_with (go_at_call 11; refine (c11 _ _ _ _).mono ?_; rintro e w' ⟨rfl, rfl⟩)
        have hq0 : qs.length ≤ 65536 := by omega
        have hx1 : IntKind.i64.wrap (qs.length : Int) = qs.length := by rw [IntKind.wrap_i64]; omega
        have hy1 : (qs.length : Int) < (qs.length : Int) + 1 := by omega
        go_region_held3 (fun w' => w'.cell? ⟨w1.heap.size, 0, none⟩ = some (.slice (some ⟨g, 0, none⟩) (qs.length + 1) cap2) ∧ w'.cell? ⟨g, qs.length, none⟩ = some (.pointer (some ⟨p, 0, none⟩)) ∧
            w'.cell? ⟨w.heap.size, qs.length * 5, none⟩ = some (.string (E qs.length).f) ∧ w'.cell? ⟨w.heap.size, qs.length * 5 + 1, none⟩ = some (.int .i64 (E qs.length).o) ∧ w'.cell? ⟨w.heap.size, qs.length * 5 + 2, none⟩ = some (.int .i64 (E qs.length).l) ∧
            w'.cell? ⟨w.heap.size, qs.length * 5 + 3, none⟩ = some (.int .i64 (E qs.length).c) ∧ w'.cell? ⟨w.heap.size, qs.length * 5 + 4, none⟩ = some (.string (E qs.length).m)) (go_keep)
          (first
            | (go_at_call 11; refine (c11 _ _ _ _).mono ?_; rintro e w' ⟨rfl, rfl⟩)
            | (go_at_call 12; refine (c12 _ p (E qs.length) ?_).mono ?_; (exact Hob.out); rintro e w6 ⟨rfl, hb6⟩; have k0 := (cell_later hb6 cb5); have k1 := (cell_later hb6 cl); have k2 := (cell_later hb6 c0); have k3 := (cell_later hb6 c1); have k4 := (cell_later hb6 c2); have k5 := (cell_later hb6 c3); have k6 := (cell_later hb6 c4)))
        go_wp2_with fail
        go_roundw
        case rel => exact ⟨qs.length + 1, _, cap2, qs ++ [p], by omega, by omega, by go_num, hlp, hK5.below (below_of_drew hb6), hbel5.trans ((below_of_drew hb6).mono hbel5.size)⟩
        case measure => simp [intOf]; omega
      · have hjn : n = j := by omega
        subst hjn
        clear hlt
        obtain ⟨w5, hw5⟩ : ∃ w5, w5 = wr := ⟨_, rfl⟩
        subst hw5
        have cb := cell_of_one hK.box
        rw [hqs] at cb
        go_wp2_with (go_at_call 11; refine (c11 _ _ _ _).mono ?_; rintro e w' ⟨rfl, rfl⟩)
        clear cb
        go_loopw [13] (fun i wx => ∃ j : Nat, j ≤ k ∧ i = .int .i64 j ∧ Keep w1.heap.size w3.heap.size k aoL capL ps E wx aoM capM qs ∧ Below w1.heap.size w1 wx) (fun i _ => k - (intOf i).toNat)
        case atStart => exact ⟨0, Nat.zero_le _, rfl, hK, hbel4⟩
        case round =>
        clear hK hbel4
        obtain ⟨j, hj, rfl, hK, hbel4⟩ := hrel
        by_cases hlt : j < k
        · obtain ⟨p, hp⟩ : ∃ p, ps[j]? = some p := ⟨_, List.getElem?_eq_getElem (by omega)⟩
          have hq : qs[j]? = some p := by
            have := hK.pre
            rw [← this, List.getElem?_take, if_pos hlt] at hp
            exact hp
          obtain ⟨gs, hgs, -⟩ := rowP_some hK.snap (by omega)
          obtain ⟨gm, hgm, -⟩ := rowP_some hK.row (by omega)
          subst hgs hgm
          have h1 := hao1 (by omega)
          subst h1
          have hb : w.heap.size < w1.heap.size := hE1.lt (by omega)
          obtain ⟨c0, c1, c2, c3, c4⟩ := hE1 j (by omega)
          simp only [Nat.zero_add] at c0 c1 c2 c3 c4
          rw [← hbel4.cell (by exact hb)] at c0 c1 c2 c3 c4
          have cb := cell_of_one hK.box
          rw [hqs] at cb
          have cs : wr.cell? ⟨gs, j, none⟩ = some (.pointer (some ⟨p, 0, none⟩)) := by rw [rowP_cell hK.snap (by omega), List.getD, hp]; rfl
          have cp : wr.cell? ⟨w3.heap.size, j, none⟩ = some (.pointer (some ⟨p, 0, none⟩)) := by rw [rowP_cell hK.ptr (by omega), List.getD, hp]; rfl
          have cm : wr.cell? ⟨gm, j, none⟩ = some (.pointer (some ⟨p, 0, none⟩)) := by rw [rowP_cell hK.row (by omega), List.getD, hq]; rfl
          have Hob : Hid (wr.heap[p]? = some (errObj (E j))) := hK.obj.obj j p hq
          have hjn : (j : Int) < (n : Int) := by omega
          clear hp hq
          have hne := neq31
          go_wp2_with fail
          go_quiet (fail)
          go_wp2_with fail
          go_region_held3 (fun w' => w'.cell? ⟨w1.heap.size, 0, none⟩ = some (.slice (some ⟨gm, 0, none⟩) n capM) ∧ w'.cell? ⟨gm, j, none⟩ = some (.pointer (some ⟨p, 0, none⟩)) ∧
              w'.cell? ⟨w.heap.size, j * 5, none⟩ = some (.string (E j).f) ∧ w'.cell? ⟨w.heap.size, j * 5 + 1, none⟩ = some (.int .i64 (E j).o) ∧ w'.cell? ⟨w.heap.size, j * 5 + 2, none⟩ = some (.int .i64 (E j).l) ∧
              w'.cell? ⟨w.heap.size, j * 5 + 3, none⟩ = some (.int .i64 (E j).c) ∧ w'.cell? ⟨w.heap.size, j * 5 + 4, none⟩ = some (.string (E j).m)) (go_keep)
            (first
              | (go_at_call 12; refine (c12 _ p (E j) ?_).mono ?_; (exact Hob.out); rintro e w6 ⟨rfl, hb6⟩; have k0 := (cell_later hb6 cb); have k1 := (cell_later hb6 cm); have k2 := (cell_later hb6 c0); have k3 := (cell_later hb6 c1); have k4 := (cell_later hb6 c2); have k5 := (cell_later hb6 c3); have k6 := (cell_later hb6 c4)))
          go_wp2_with fail
          go_roundw
          case rel => exact ⟨j + 1, by omega, by go_num, hK.below (below_of_drews hb6), hbel4.trans ((below_of_drews hb6).mono hbel4.size)⟩
          case measure => simp [intOf]; omega
        · go_wp2_with fail
          go_ret
          exact ⟨rfl, hbel1.trans (hbel4.mono hbel1.size)⟩
end Go.Proofs.Yoefgw
