/-
  FnSwapScriptUndoneAndSymmetric (6): the walk.
-/
import Derived.Test.YoefgwScript
import Derived.Deep.CutRange
namespace Go.Proofs.Yoefgw
open Go.RowKit

/-- the list, its second copy, the old pointers and the errors, in one world -/
structure Scr (B : Nat) (ao : Option Addr) (cap go gl n : Nat) (ps : List Nat) (E : Nat → Ent) (w : World) (qs rs : List Nat) : Prop where
  list : RowP B w ao cap qs
  two : RowP B w (some ⟨gl, 0, none⟩) n rs
  old : RowP B w (some ⟨go, 0, none⟩) n ps
  obj : Objs B w ps E

theorem Scr.below {B : Nat} {ao : Option Addr} {cap go gl n : Nat} {ps : List Nat} {E : Nat → Ent} {w w' : World} {qs rs : List Nat} (h : Scr B ao cap go gl n ps E w qs rs) (hb : Below w.heap.size w w') : Scr B ao cap go gl n ps E w' qs rs :=
  ⟨rowP_below h.list hb, rowP_below h.two hb, rowP_below h.old hb, h.obj.below hb⟩

theorem rowP_block {B : Nat} {w : World} {g cap : Nat} {ps : List Nat} (h : RowP B w (some ⟨g, 0, none⟩) cap ps) : ∃ cs, w.heap[g]? = some (.cells cs 31 (0, 0)) := by
  rcases h.2 with ⟨h', _⟩ | ⟨g', cap', cur, hv, _, hg, _⟩
  · simp at h'
  · simp only [Value.slice.injEq, Option.some.injEq, Addr.mk.injEq, and_true] at hv
    obtain ⟨rfl, -⟩ := hv
    exact ⟨cur, hg⟩

theorem rowP_kept {B : Nat} {w w' : World} {g cap g' : Nat} {ps : List Nat} (h : RowP B w (some ⟨g, 0, none⟩) cap ps) (hg : w.grownBy w' (some g')) (hne : g ≠ g') : RowP B w' (some ⟨g, 0, none⟩) cap ps :=
  World.ownsRow.kept h hg (.inr (by simpa [Value.ownBlock] using hne))

theorem Scr.swap1 {B g cap go gl n : Nat} {ps : List Nat} {E : Nat → Ent} {w w' : World} {qs rs qs' : List Nat} (h : Scr B (some ⟨g, 0, none⟩) cap go gl n ps E w qs rs) (hr : RowP B w' (some ⟨g, 0, none⟩) cap qs') (hg : w.grownBy w' (some g)) (h1 : go ≠ g) (h2 : gl ≠ g) :
    Scr B (some ⟨g, 0, none⟩) cap go gl n ps E w' qs' rs := by
  obtain ⟨cs, hc⟩ := rowP_block h.list
  exact ⟨hr, rowP_kept h.two hg h2, rowP_kept h.old hg h1, h.obj.grown hg fun p hp => h.obj.ne hp hc (by decide)⟩

theorem Scr.swap2 {B g cap go gl n : Nat} {ps : List Nat} {E : Nat → Ent} {w w' : World} {qs rs rs' : List Nat} (h : Scr B (some ⟨g, 0, none⟩) cap go gl n ps E w qs rs) (hr : RowP B w' (some ⟨gl, 0, none⟩) n rs') (hg : w.grownBy w' (some gl)) (h1 : go ≠ gl) (h2 : gl ≠ g) :
    Scr B (some ⟨g, 0, none⟩) cap go gl n ps E w' qs rs' := by
  obtain ⟨cs, hc⟩ := rowP_block h.two
  exact ⟨rowP_kept h.list hg (fun e => h2 e.symm), hr, rowP_kept h.old hg h1, h.obj.grown hg fun p hp => h.obj.ne hp hc (by decide)⟩

theorem Fill.same {w w' : World} {g n k : Nat} {ps : List Nat} (h : Fill w g n ps k) (hb : w'.heap[g]? = w.heap[g]?) : Fill w' g n ps k := by
  obtain ⟨cs, h1, h2⟩ := h
  exact ⟨cs, hb.trans h1, h2⟩

theorem fill2_start {w : World} {n : Nat} {ps : List Nat} {cs0 cs1 : Array Value} (h0 : cs0.size = n) (h1 : cs1.size = n) :
    Fill ((w.alloc (.cells cs0 31)).alloc (.cells cs1 31)) w.heap.size n ps 0 ∧ Fill ((w.alloc (.cells cs0 31)).alloc (.cells cs1 31)) (w.heap.size + 1) n ps 0 := by
  refine ⟨(Fill.start h0).same (Below.heap_alloc _ _ _ (by simp)), ?_⟩
  have := Fill.start (w := w.alloc (.cells cs0 31)) (ps := ps) h1
  simpa using this

theorem fill2_step {w : World} {go gl n k p : Nat} {ps : List Nat} (h0 : Fill w go n ps k) (h1 : Fill w gl n ps k) (hne : go ≠ gl) (hk : k < n) (hp : ps[k]? = some p) :
    Fill ((w.setCell ⟨go, k, none⟩ (.pointer (some ⟨p, 0, none⟩))).setCell ⟨gl, k, none⟩ (.pointer (some ⟨p, 0, none⟩))) go n ps (k + 1) ∧
    Fill ((w.setCell ⟨go, k, none⟩ (.pointer (some ⟨p, 0, none⟩))).setCell ⟨gl, k, none⟩ (.pointer (some ⟨p, 0, none⟩))) gl n ps (k + 1) :=
  ⟨(h0.step hk hp).same (heap_setCell_other _ ⟨gl, k, none⟩ go _ hne), (h1.same (heap_setCell_other w ⟨go, k, none⟩ gl _ (fun e => hne e.symm))).step hk hp⟩

theorem cell_setCell_off {w : World} {a c : Addr} {u : Value} (h : c.block ≠ a.block) : (w.setCell a u).cell? c = w.cell? c := World.cell?_of_block (w := w) (heap_setCell_other w a c.block u h)
theorem frozen_setCell_off {w : World} {a c : Addr} {u : Value} (h : c.block ≠ a.block) : (w.setCell a u).frozen? c = w.frozen? c := World.frozen?_of_block (w := w) (heap_setCell_other w a c.block u h)

/-- Swap, its length told apart -/
theorem c16n (w : World) (B g cap n : Nat) (ps : List Nat) (i j : Nat) (hrow : RowP B w (some ⟨g, 0, none⟩) cap ps) (hn : ps.length = n) (hi : i < n) (hj : j < n) :
    Calls Efgg.prog 16 #[.slice (some ⟨g, 0, none⟩) n cap, .int .i64 (i : Int), .int .i64 (j : Int)] w fun e w' => e = .returned (.tuple #[]) ∧ RowP B w' (some ⟨g, 0, none⟩) cap (swapL ps i j) ∧ w.grownBy w' (some g) := by
  subst hn
  exact c16 w B g cap ps i j hrow hi hj

theorem info4 : (Efgg.prog.info? 4).map (fun i => (i.zero, i.size, i.bytes)) = some (some (.bool false), 1, 1) := by kernel_rfl

/-- 'make([]bool, n)': all false -/
theorem make46 (n : Nat) (hn : n ≤ 1000000) : ∃ cs : Array Value, (cs.size = n ∧ ∀ x, x < n → cs[x]? = some (.bool false)) ∧ ∀ w : World, (Instr.makeSlice 46 (.int .i64 (n : Int)) (.int .i64 (n : Int))).run Efgg.prog w = .ok (.slice (some ⟨w.heap.size, 0, none⟩) n n) (w.alloc (.cells cs 4)) := by
  obtain ⟨i, hi, hz0, hz1, hz2⟩ := info_parts info4
  refine ⟨_, ⟨?_, ?_⟩, fun w => (run_make (P := Efgg.prog) w 46 4 i _ Efgg.underlying46 hi hz0 .i64 .i64 n n (by omega) (Int.le_refl _) (by rw [hz2]; omega) (by omega)).trans (by rw [Int.toNat_natCast])⟩
  · rw [size_madeCells, hz1, Nat.mul_one]
  · intro x hx
    rw [hz1, Nat.mul_one, ← Array.getElem?_toList]
    show (madeCells #[Value.bool false] n).toList[x]? = _
    rw [toList_madeCells_one]
    simp [hx]

/-- the marks of what has been seen -/
def Marks (w : World) (g n : Nat) (f : Nat → Bool) : Prop := ∃ cs : Array Value, w.heap[g]? = some (.cells cs 4 (0, 0)) ∧ cs.size = n ∧ ∀ x, x < n → cs[x]? = some (.bool (f x))

theorem Marks.facts {w : World} {g n : Nat} {f : Nat → Bool} (h : Marks w g n f) {x : Nat} (hx : x < n) : w.cell? ⟨g, x, none⟩ = some (.bool (f x)) ∧ w.frozen? ⟨g, x, none⟩ = false := by
  obtain ⟨cs, h1, h2, h3⟩ := h
  exact ⟨by simp [World.cell?, h1, h3 x hx], freeAt h1 x⟩

theorem Marks.step {w : World} {g n : Nat} {f f' : Nat → Bool} (h : Marks w g n f) {x : Nat} (hx : x < n) (hf : ∀ y, y < n → f' y = if y = x then true else f y) : Marks (w.setCell ⟨g, x, none⟩ (.bool true)) g n f' := by
  obtain ⟨cs, h1, h2, h3⟩ := h
  refine ⟨_, heap_setCell_same _ _ _ _ _ _ h1, by simp [h2], ?_⟩
  intro y hy
  rw [hf y hy, Array.getElem?_setIfInBounds]
  by_cases hyx : y = x
  · subst hyx
    rw [if_pos rfl, if_pos (by omega), if_pos rfl]
  · rw [if_neg (by omega), if_neg hyx]
    exact h3 y hy

theorem Marks.lt {w : World} {g n : Nat} {f : Nat → Bool} (h : Marks w g n f) : g < w.heap.size := by
  obtain ⟨cs, h1, -⟩ := h
  exact lt_of_block h1

theorem Marks.same {w w' : World} {g n : Nat} {f : Nat → Bool} (h : Marks w g n f) (hb : w'.heap[g]? = w.heap[g]?) : Marks w' g n f := by
  obtain ⟨cs, h1, h2⟩ := h
  exact ⟨cs, hb.trans h1, h2⟩

theorem grown_of_drew {w w' : World} {r : Option Nat} (h : w.drew.grownBy w' r) : w.grownBy w' r := ⟨h.os, h.tape, h.output, h.size, h.block⟩

set_option maxRecDepth 100000 in
set_option maxHeartbeats 4000000 in
theorem walk6 (ao io jo : Option Addr) (b off n cap bi oi ni ci bj oj nj cj : Nat) (E : Nat → Ent) (Zi Zj : Nat → Int) (w : World)
    (hnil : ao = none → n = 0 ∧ cap = 0) (hao : 0 < n → ao = some ⟨b, off, none⟩) (hE : Ents w b off n E) (hn : n ≤ 1000000000000000)
    (hnili : io = none → ni = 0 ∧ ci = 0) (hio : 0 < ni → io = some ⟨bi, oi, none⟩) (hI : Ints w bi oi ni Zi)
    (hnilj : jo = none → nj = 0 ∧ cj = 0) (hjo : 0 < nj → jo = some ⟨bj, oj, none⟩) (hJ : Ints w bj oj nj Zj) :
    Calls Efgg.prog 6 #[.slice ao n cap, .slice io ni ci, .slice jo nj cj] w fun e w' => e = .returned (.bool true) ∧ Below w.heap.size w w' := by
  go_enter Efgg.func6, Efgg.ntmps6
  go_wp2_with fail
  refine (c17 io jo ni ci nj cj ao b off n cap E _ hao hE hn).mono ?_
  rintro e w ⟨⟨t, rfl⟩, rfl⟩
  cases t with
  | false =>
    go_wp2_with fail
    go_ret
    exact ⟨rfl, Below.refl _ _⟩
  | true =>
  by_cases hbig : 65536 < n
  ·
    go_wp2_with fail
    go_ret
    exact ⟨rfl, Below.refl _ _⟩
  by_cases hbi : 65536 < ni
  ·
    go_wp2_with fail
    go_ret
    exact ⟨rfl, Below.refl _ _⟩
  by_cases hbj : 65536 < nj
  ·
    go_wp2_with fail
    go_ret
    exact ⟨rfl, Below.refl _ _⟩
  go_wp2_with fail
  refine (c8 ao b off n cap E _ hao hE hn).mono ?_
  rintro e w ⟨⟨t, rfl⟩, rfl⟩
  go_upto_if 57 with fail
  · go_ret
    exact ⟨rfl, Below.refl _ _⟩
  go_cut [8] from 21 (fun mv wx => ∃ m : Nat, mv = .int .i64 m ∧ m ≤ ni ∧ m ≤ nj ∧ w = wx)
  case first =>
    by_cases hm : nj < ni
    · go_wp2_with fail
      go_meet
      case rel => exact ⟨nj, rfl, by omega, by omega, by simp⟩
    · go_wp2_with fail
      go_meet
      case rel => exact ⟨ni, rfl, by omega, by omega, by simp⟩
  case rest =>
  obtain ⟨m, rfl, hmi, hmj, rfl⟩ := hcut
  go_wp2_with fail
  go_loopw [9] (fun i wx => ∃ t : Nat, t ≤ m ∧ i = .int .i64 t ∧ InRange Zi Zj n t ∧ w = wx) (fun i _ => m - (intOf i).toNat)
  case atStart => exact ⟨0, Nat.zero_le _, rfl, fun s hs => absurd hs (Nat.not_lt_zero _), rfl⟩
  case round =>
  obtain ⟨t, ht, rfl, hin, rfl⟩ := hrel
  by_cases hlt : t < m
  ·
    have h1 := hio (by omega)
    have h2 := hjo (by omega)
    subst h1 h2
    have ci0 := hI t (by omega)
    have cj0 := hJ t (by omega)
    clear hE hao hnil hI hJ hio hjo hnili hnilj
    generalize hzi : Zi t = zi at ci0
    generalize hzj : Zj t = zj at cj0
    have Hz : Hid (Zi t = zi ∧ Zj t = zj) := ⟨hzi, hzj⟩
    clear hzi hzj
    have hti : (t : Int) < (ni : Int) := by omega
    have htj : (t : Int) < (nj : Int) := by omega
    by_cases g1 : zi < 0
    · go_wp2_with fail
      go_ret
      exact ⟨rfl, Below.refl _ _⟩
    by_cases g2 : (n : Int) ≤ zi
    · go_wp2_with fail
      go_ret
      exact ⟨rfl, Below.refl _ _⟩
    by_cases g3 : zj < 0
    · go_wp2_with fail
      go_ret
      exact ⟨rfl, Below.refl _ _⟩
    by_cases g4 : (n : Int) ≤ zj
    · go_wp2_with fail
      go_ret
      exact ⟨rfl, Below.refl _ _⟩
    go_wp2_with fail
    go_roundw
    case rel =>
      refine ⟨t + 1, by omega, by go_num, ?_, by simp⟩
      intro s hs
      obtain ⟨hz1, hz2⟩ := Hz.out
      by_cases hst : s = t
      · subst hst
        rw [hz1, hz2]
        omega
      · exact hin s (by omega)
    case measure => simp [intOf]; omega
  have htm : m = t := by omega
  subst htm
  clear hlt ht
  go_wp2_with fail
  refine (c9 ao b off n cap E _ hnil hao hE (by omega)).mono ?_
  rintro e w1 ⟨ao1, cap1, rfl, hao1, hbel1, hE1⟩
  have hE1lt : 0 < n → w.heap.size < w1.heap.size := fun h => hE1.lt h
  have hI1 := hI.below hbel1 (fun h => hI.lt h)
  have hJ1 := hJ.below hbel1 (fun h => hJ.lt h)
  have hIlt : 0 < ni → bi < w1.heap.size := fun h => hI1.lt h
  have hJlt : 0 < nj → bj < w1.heap.size := fun h => hJ1.lt h
  clear hE hao hnil hI hJ
  go_wp2_with fail
  refine (c18 io bi oi ni ci Zi _ hnili hio hI1 (by omega)).mono ?_
  rintro e w2 ⟨io2, ci2, rfl, hio2, hbel2, hI2⟩
  have hJ2 := hJ1.below hbel2 hJlt
  have hE2 := hE1.below hbel2 hE1lt
  clear hI1 hJ1 hE1 hio hnili
  go_wp2_with fail
  refine (c18 jo bj oj nj cj Zj _ hnilj hjo hJ2 (by omega)).mono ?_
  rintro e w3 ⟨jo3, cj3, rfl, hjo3, hbel3, hJ3⟩
  have hI3 := hI2.below hbel3 (fun h => hI2.lt h)
  have hE3 := hE2.below hbel3 (fun h => Nat.lt_of_lt_of_le (hE1lt h) hbel2.size)
  clear hI2 hJ2 hE2 hjo hnilj hIlt hJlt
  have hbel03 : Below w.heap.size w w3 := hbel1.trans ((hbel2.mono hbel1.size).trans (hbel3.mono (Nat.le_trans hbel1.size hbel2.size)))
  clear hbel1 hbel2 hbel3 hE1lt
  go_wp2_with fail
  refine (c10 ao1 _ 0 n cap1 E _ hao1 hE3 (by omega)).mono ?_
  rintro e w4 ⟨ao2, cap2, ps, rfl, hps, hrow, hobj, hbel4⟩
  clear hao1 hE3
  rw [← mark_zero E] at hobj
  go_wp2_with fail
  go_loopw [11] (fun i wx => ∃ k : Nat, k ≤ n ∧ i = .int .i64 k ∧ RowP w3.heap.size wx ao2 cap2 ps ∧ Objs w3.heap.size wx ps (markE E k) ∧ Below w3.heap.size w3 wx) (fun i _ => n - (intOf i).toNat)
  case atStart => exact ⟨0, Nat.zero_le _, rfl, hrow, hobj, hbel4⟩
  case round =>
  clear hrow hobj hbel4
  obtain ⟨k, hk, rfl, hrow, hobj, hbel4⟩ := hrel
  by_cases hlt : k < n
  ·
    obtain ⟨g, hg, hg1, hg2, cs, hgc⟩ := rowP_some hrow (by omega)
    subst hg
    obtain ⟨p, hp⟩ : ∃ p, ps[k]? = some p := ⟨_, List.getElem?_eq_getElem (by omega)⟩
    have cl : wr.cell? ⟨g, k, none⟩ = some (.pointer (some ⟨p, 0, none⟩)) := by
      rw [rowP_cell hrow (by omega), List.getD, hp]; rfl
    have hob := hobj.obj k p hp
    have hm := List.mem_of_getElem? hp
    have hne : p ≠ g := hobj.ne hm hgc (by decide)
    have hge := hobj.ge p hm
    obtain ⟨-, c1, -, -, -⟩ := errObj_cells hob
    have f1 : wr.frozen? ⟨p, 1, none⟩ = false := by simp [World.frozen?, hob, errObj]
    have R := objs_mark hobj hp
    have R2 : RowP w3.heap.size (wr.setCell ⟨p, 1, none⟩ (.int .i64 (k : Int))) (some ⟨g, 0, none⟩) cap2 ps := ownsRow_setCell_other hrow (by simp [Value.ownBlock]; omega) _
    clear hob hp hgc hm hobj hrow
    go_wp2_with fail
    go_roundw
    case rel => exact ⟨k + 1, by omega, by go_num, R2, R, hbel4.setCell (by show _ ≤ p; omega) _⟩
    case measure => simp [intOf]; omega
  have hkn : n = k := by omega
  subst hkn
  clear hlt
  obtain ⟨w5, hw5⟩ : ∃ w5, w5 = wr := ⟨_, rfl⟩
  subst hw5
  obtain ⟨cs0, hcs0, hmk0⟩ := make_ptrs 26 Efgg.underlying26 n (by omega)
  obtain ⟨cs1, hcs1, hmk1⟩ := make_ptrs 27 Efgg.underlying27 n (by omega)
  go_wp2_with fail
  clear hmk0 hmk1
  have hS2 := fill2_start (w := w5) (ps := ps) hcs0 hcs1
  go_loopw [14] (fun i wx => ∃ k : Nat, k ≤ n ∧ i = .int .i64 k ∧ Fill wx w5.heap.size n ps k ∧ Fill wx (w5.heap.size + 1) n ps k ∧ Below w5.heap.size w5 wx) (fun i _ => n - (intOf i).toNat)
  case atStart => exact ⟨0, Nat.zero_le _, rfl, hS2.1, hS2.2, ((Below.refl _ _).alloc (Nat.le_refl _) _).alloc (by simp) _⟩
  case round =>
  clear hS2 hcs0 hcs1
  obtain ⟨k, hk, rfl, hf0, hf1, hbel5⟩ := hrel
  by_cases hlt : k < n
  ·
    obtain ⟨g, hg, hg1, hg2, -⟩ := rowP_some hrow (by omega)
    subst hg
    have hp := getD_some (ps := ps) (i := k) (by omega)
    have cl := rowP_cell (rowP_below hrow hbel5) (i := k) (by omega)
    generalize ps.getD k 0 = p at hp cl
    obtain ⟨⟨v0, d0⟩, f0⟩ := hf0.facts hlt
    obtain ⟨⟨v1, d1⟩, f1⟩ := hf1.facts hlt
    have cl2 : (wr.setCell ⟨w5.heap.size, k, none⟩ (.pointer (some ⟨p, 0, none⟩))).cell? ⟨g, k, none⟩ = some (.pointer (some ⟨p, 0, none⟩)) := (cell_setCell_off (by show g ≠ w5.heap.size; omega)).trans cl
    have d2 : (wr.setCell ⟨w5.heap.size, k, none⟩ (.pointer (some ⟨p, 0, none⟩))).cell? ⟨w5.heap.size + 1, k, none⟩ = some v1 := (cell_setCell_off (by show w5.heap.size + 1 ≠ w5.heap.size; omega)).trans d1
    have f2 : (wr.setCell ⟨w5.heap.size, k, none⟩ (.pointer (some ⟨p, 0, none⟩))).frozen? ⟨w5.heap.size + 1, k, none⟩ = false := (frozen_setCell_off (by show w5.heap.size + 1 ≠ w5.heap.size; omega)).trans f1
    have R := fill2_step hf0 hf1 (by omega) hlt hp
    clear hp hf0 hf1 hrow hobj
    go_wp2_with fail
    go_roundw
    case rel => exact ⟨k + 1, by omega, by go_num, R.1, R.2, (hbel5.setCell (Nat.le_refl _) _).setCell (Nat.le_succ _) _⟩
    case measure => simp [intOf]; omega
  have hkn : n = k := by omega
  subst hkn
  clear hlt
  obtain ⟨w6, hw6⟩ : ∃ w6, w6 = wr := ⟨_, rfl⟩
  subst hw6
  have hscr : Scr w3.heap.size ao2 cap2 w5.heap.size (w5.heap.size + 1) n ps (markE E n) w6 ps ps := by
    have hB := hbel4.size
    have h0 := hf0
    have h1 := hf1
    rw [← hps] at h0 h1
    have r0 := h0.row hB (by omega)
    have r1 := h1.row (B := w3.heap.size) (by omega) (by omega)
    rw [hps] at r0 r1
    exact ⟨rowP_below hrow hbel5, r1, r0, hobj.below hbel5⟩
  have hbel6 : Below w3.heap.size w3 w6 := hbel4.trans (hbel5.mono hbel4.size)
  have hgne : ∀ g, ao2 = some ⟨g, 0, none⟩ → w3.heap.size ≤ g ∧ g < w5.heap.size := by
    intro g hg
    subst hg
    obtain ⟨cs, hc⟩ := rowP_block hrow
    exact ⟨(World.ownsRow.lt hrow g rfl).1, lt_of_block hc⟩
  have hw35 : w3.heap.size ≤ w5.heap.size := hbel4.size
  clear hrow hobj hbel4 hbel5 hf0 hf1
  go_wp2_with fail
  go_loopw [15] (fun i wx => ∃ t : Nat, t ≤ m ∧ i = .int .i64 t ∧ Scr w3.heap.size ao2 cap2 w5.heap.size (w5.heap.size + 1) n ps (markE E n) wx (script ps Zi Zj t) (script ps Zi Zj t) ∧ Below w3.heap.size w3 wx) (fun i _ => m - (intOf i).toNat)
  case atStart => exact ⟨0, Nat.zero_le _, rfl, hscr, hbel6⟩
  case round =>
  clear hscr hbel6
  obtain ⟨t, ht, rfl, hscr, hbel6⟩ := hrel
  have hlen : (script ps Zi Zj t).length = n := by rw [script_length]; exact hps
  by_cases hlt : t < m
  ·
    have hz := hin t hlt
    obtain ⟨g, hg, -⟩ := rowP_some hscr.list (by omega)
    have hgg := hgne g hg
    subst hg
    have h1 := hio2 (by omega)
    have h2 := hjo3 (by omega)
    subst h1 h2
    have l1 : w1.heap.size < w3.heap.size := hI3.lt (by omega)
    have l2 : w2.heap.size < w3.heap.size := hJ3.lt (by omega)
    have c1 := (hbel6.cell (p := ⟨w1.heap.size, 0 + t, none⟩) l1).trans (hI3 t (by omega))
    have c2 := (hbel6.cell (p := ⟨w2.heap.size, 0 + t, none⟩) l2).trans (hJ3 t (by omega))
    rw [Nat.zero_add] at c1 c2
    obtain ⟨i', hi'⟩ := Int.eq_ofNat_of_zero_le hz.1.1
    obtain ⟨j', hj'⟩ := Int.eq_ofNat_of_zero_le hz.2.1
    have bi' : i' < n := by omega
    have bj' : j' < n := by omega
    rw [hi'] at c1
    rw [hj'] at c2
    have hs : script ps Zi Zj (t + 1) = swapL (script ps Zi Zj t) i' j' := by rw [script, hi', hj']; rfl
    have HS : Hid (script ps Zi Zj (t + 1) = swapL (script ps Zi Zj t) i' j') := hs
    have n1 : some w1.heap.size ≠ some g := by simp; omega
    have n2 : some w2.heap.size ≠ some g := by simp; omega
    have n3 : some w1.heap.size ≠ some (w5.heap.size + 1) := by simp; omega
    have n4 : some w2.heap.size ≠ some (w5.heap.size + 1) := by simp; omega
    have n5 : w5.heap.size ≠ g := by omega
    have n6 : w5.heap.size + 1 ≠ g := by omega
    have hti : (t : Int) < (ni : Int) := by omega
    have htj : (t : Int) < (nj : Int) := by omega
    clear hs hi' hj' hz hI3 hJ3 hio2 hjo3
    generalize script ps Zi Zj t = qs at *
    go_wp2_with fail
    go_region_held3 (fun w' => w'.cell? ⟨w1.heap.size, t, none⟩ = some (.int .i64 (i' : Int)) ∧ w'.cell? ⟨w2.heap.size, t, none⟩ = some (.int .i64 (j' : Int))) (go_keep)
      (first
        | (go_at_call 16; refine (c16n _ w3.heap.size g cap2 n qs i' j' ?_ hlen bi' bj').mono ?_; (exact hscr.list); rintro e w7 ⟨rfl, hr7, hg7⟩; have k1 := (hg7.cell c1 n1); have k2 := (hg7.cell c2 n2)))
    have hscr7 := hscr.swap1 hr7 (grown_of_drew hg7) n5 n6
    have hb7 : Below w3.heap.size wr w7 := below_grown (grown_of_drew hg7) hgg.1 hbel6.size
    clear hr7 hg7 hscr c1 c2
    go_wp2_with fail
    go_region_held3 (fun w' => w'.cell? ⟨w1.heap.size, t, none⟩ = some (.int .i64 (i' : Int)) ∧ w'.cell? ⟨w2.heap.size, t, none⟩ = some (.int .i64 (j' : Int))) (go_keep)
      (first
        | (go_at_call 16; refine (c16n _ w3.heap.size (w5.heap.size + 1) n n qs j' i' ?_ hlen bj' bi').mono ?_; (exact hscr7.two); rintro e w8 ⟨rfl, hr8, hg8⟩; have k3 := (hg8.cell k1 n3); have k4 := (hg8.cell k2 n4)))
    have hscr8 := hscr7.swap2 hr8 (grown_of_drew hg8) (by omega) n6
    rw [swapL_comm qs i' j'] at hscr8
    rw [← HS.out] at hscr8
    have hb8 : Below w3.heap.size w7 w8 := below_grown (grown_of_drew hg8) (by omega) (Nat.le_trans hbel6.size hb7.size)
    clear hr8 hg8 hscr7 k1 k2
    go_wp2_with fail
    go_roundw
    case rel => exact ⟨t + 1, by omega, by go_num, hscr8, hbel6.trans (hb7.trans hb8)⟩
    case measure => simp [intOf]; omega
  have htm : m = t := by omega
  subst htm
  clear hlt ht
  obtain ⟨w8, hw8⟩ : ∃ w8, w8 = wr := ⟨_, rfl⟩
  subst hw8
  obtain ⟨cs2, hcs2, hmk2⟩ := make46 n (by omega)
  go_wp2_with (go_at_call 11; refine (c11 _ _ _ _).mono ?_; rintro e w' ⟨rfl, rfl⟩)
  clear hmk2
  have hperm : (script ps Zi Zj m).Perm ps := script_perm ps Zi Zj m (by rw [hps]; exact hin)
  have hnd : (script ps Zi Zj m).Nodup := hperm.nodup_iff.2 hscr.obj.nodup
  go_loopw [17] (fun i wx => ∃ k : Nat, k ≤ n ∧ i = .int .i64 k ∧ Marks wx w8.heap.size n (seenB ps (script ps Zi Zj m) k) ∧ Below w8.heap.size w8 wx) (fun i _ => n - (intOf i).toNat)
  case atStart => exact ⟨0, Nat.zero_le _, rfl, ⟨cs2, heap_alloc_new w8 _, hcs2.1, fun x hx => by rw [hcs2.2 x hx]; simp [seenB]⟩, (Below.refl _ _).alloc (Nat.le_refl _) _⟩
  case round =>
  clear hcs2
  obtain ⟨k, hk, rfl, hmk, hbel9⟩ := hrel
  have hscr9 := hscr.below hbel9
  by_cases hlt : k < n
  ·
    obtain ⟨q, hq⟩ : ∃ q, (script ps Zi Zj m)[k]? = some q := ⟨_, List.getElem?_eq_getElem (by omega)⟩
    obtain ⟨x, hx1, hx2⟩ := place_of hperm hq
    have hxn : x < n := by omega
    obtain ⟨g, hg, -⟩ := rowP_some hscr9.list (by omega)
    subst hg
    have cl : wr.cell? ⟨g, k, none⟩ = some (.pointer (some ⟨q, 0, none⟩)) := by rw [rowP_cell hscr9.list (by omega), List.getD, hq]; rfl
    have ct : wr.cell? ⟨w5.heap.size + 1, k, none⟩ = some (.pointer (some ⟨q, 0, none⟩)) := by rw [rowP_cell hscr9.two (by omega), List.getD, hq]; rfl
    obtain ⟨-, co0, -, -, -⟩ := errObj_cells (hscr9.obj.obj x q hx2)
    have co : wr.cell? ⟨q, 1, none⟩ = some (.int .i64 (x : Int)) := by rw [co0]; simp [markE, hxn]
    obtain ⟨cm0, fm⟩ := hmk.facts hxn
    have cm : wr.cell? ⟨w8.heap.size, x, none⟩ = some (.bool false) := by rw [cm0, seen_no hnd hq hx2]
    have R := hmk.step hxn (f' := seenB ps (script ps Zi Zj m) (k + 1)) (fun y hy => seen_step hscr9.obj.nodup hq hx2 (by omega))
    have hne := neq31
    have e0 : decide ((x : Int) < 0) = false := by simp
    have e1 : decide ((n : Int) ≤ (x : Int)) = false := by simp; omega
    have hxi : (x : Int) < (n : Int) := by omega
    clear co0 cm0 hq hx2 hmk hscr9 hscr hnd hperm hio2 hjo3 hI3 hJ3 hin
    go_wp2_with fail
    go_quiet (fail)
    go_wp2_with fail
    go_roundw
    case rel => exact ⟨k + 1, by omega, by go_num, R, (below_drewN hbel9 _).setCell (Nat.le_refl _) _⟩
    case measure => simp [intOf]; omega
  have hkn : n = k := by omega
  subst hkn
  clear hlt hmk hperm hnd
  have hbel9' : Below w3.heap.size w3 wr := hbel6.trans (hbel9.mono hbel6.size)
  clear hscr hbel6 hbel9
  obtain ⟨w9, hw9⟩ : ∃ w9, w9 = wr := ⟨_, rfl⟩
  subst hw9
  go_wp2_with fail
  go_loopw [19] (fun i wx => ∃ z : Int, i = .int .i64 z ∧ -1 ≤ z ∧ z < m ∧ Scr w3.heap.size ao2 cap2 w5.heap.size (w5.heap.size + 1) n ps (markE E n) wx (script ps Zi Zj (z + 1).toNat) (script ps Zi Zj m) ∧ Below w3.heap.size w3 wx) (fun i _ => (intOf i + 1).toNat)
  case atStart => exact ⟨(m : Int) - 1, rfl, by omega, by omega, by rw [show ((m : Int) - 1 + 1).toNat = m by omega]; exact hscr9, hbel9'⟩
  case round =>
  clear hscr9 hbel9'
  obtain ⟨z, rfl, hz1, hz2, hscr, hbel6⟩ := hrel
  by_cases hz : 0 ≤ z
  ·
    obtain ⟨t, rfl⟩ := Int.eq_ofNat_of_zero_le hz
    have htm : t < m := by omega
    have hlen : (script ps Zi Zj (t + 1)).length = n := by rw [script_length]; exact hps
    rw [show ((t : Int) + 1).toNat = t + 1 by omega] at hscr
    have hzr := hin t htm
    obtain ⟨g, hg, -⟩ := rowP_some hscr.list (by omega)
    have hgg := hgne g hg
    subst hg
    have h1 := hio2 (by omega)
    have h2 := hjo3 (by omega)
    subst h1 h2
    have l1 : w1.heap.size < w3.heap.size := hI3.lt (by omega)
    have l2 : w2.heap.size < w3.heap.size := hJ3.lt (by omega)
    have c1 := (hbel6.cell (p := ⟨w1.heap.size, 0 + t, none⟩) l1).trans (hI3 t (by omega))
    have c2 := (hbel6.cell (p := ⟨w2.heap.size, 0 + t, none⟩) l2).trans (hJ3 t (by omega))
    rw [Nat.zero_add] at c1 c2
    obtain ⟨i', hi'⟩ := Int.eq_ofNat_of_zero_le hzr.1.1
    obtain ⟨j', hj'⟩ := Int.eq_ofNat_of_zero_le hzr.2.1
    have bi' : i' < n := by omega
    have bj' : j' < n := by omega
    rw [hi'] at c1
    rw [hj'] at c2
    have HS : Hid (swapL (script ps Zi Zj (t + 1)) i' j' = script ps Zi Zj t) := by
      have := script_back ps Zi Zj t (fun s hs => by rw [hps]; exact hin s (by omega))
      rw [hi', hj'] at this
      exact this
    have n1 : some w1.heap.size ≠ some g := by simp; omega
    have n2 : some w2.heap.size ≠ some g := by simp; omega
    have n5 : w5.heap.size ≠ g := by omega
    have n6 : w5.heap.size + 1 ≠ g := by omega
    have hti : (t : Int) < (ni : Int) := by omega
    have htj : (t : Int) < (nj : Int) := by omega
    clear hi' hj' hzr hI3 hJ3 hio2 hjo3
    generalize script ps Zi Zj (t + 1) = qs at *
    go_wp2_with fail
    go_region_held3 (fun w' => w'.cell? ⟨w1.heap.size, t, none⟩ = some (.int .i64 (i' : Int)) ∧ w'.cell? ⟨w2.heap.size, t, none⟩ = some (.int .i64 (j' : Int))) (go_keep)
      (first
        | (go_at_call 16; refine (c16n _ w3.heap.size g cap2 n qs i' j' ?_ hlen bi' bj').mono ?_; (exact hscr.list); rintro e w10 ⟨rfl, hr7, hg7⟩; have k1 := (hg7.cell c1 n1); have k2 := (hg7.cell c2 n2)))
    have hscr7 := hscr.swap1 hr7 (grown_of_drew hg7) n5 n6
    rw [HS.out] at hscr7
    have hb7 : Below w3.heap.size wr w10 := below_grown (grown_of_drew hg7) hgg.1 hbel6.size
    clear hr7 hg7 hscr c1 c2
    go_wp2_with fail
    go_roundw
    case rel => exact ⟨(t : Int) - 1, rfl, by omega, by omega, by rw [show ((t : Int) - 1 + 1).toNat = t by omega]; exact hscr7, hbel6.trans hb7⟩
    case measure => simp [intOf]
  rw [show (z + 1).toNat = 0 by omega] at hscr
  have hzz : z < 0 := by omega
  have hscr0 : Scr w3.heap.size ao2 cap2 w5.heap.size (w5.heap.size + 1) n ps (markE E n) wr ps (script ps Zi Zj m) := hscr
  clear hscr hio2 hjo3 hI3 hJ3 hin hz1 hz2
  obtain ⟨w10, hw10⟩ : ∃ w10, w10 = wr := ⟨_, rfl⟩
  subst hw10
  go_wp2_with fail
  go_loopw [20] (fun i wx => ∃ k : Nat, k ≤ n ∧ i = .int .i64 k ∧ Below w10.heap.size w10 wx) (fun i _ => n - (intOf i).toNat)
  case atStart => exact ⟨0, Nat.zero_le _, rfl, Below.refl _ _⟩
  case round =>
  obtain ⟨k, hk, rfl, hbel11⟩ := hrel
  have hscr11 := hscr0.below hbel11
  by_cases hlt : k < n
  · obtain ⟨g, hg, -⟩ := rowP_some hscr11.list (by omega)
    subst hg
    have cl := rowP_cell hscr11.list (i := k) (by omega)
    have ct := rowP_cell hscr11.old (i := k) (by omega)
    generalize ps.getD k 0 = p at cl ct
    have hne := neq31
    clear hscr11 hscr0
    go_wp2_with fail
    go_quiet (fail)
    go_wp2_with fail
    go_roundw
    case rel => exact ⟨k + 1, by omega, by go_num, below_drewN hbel11 _⟩
    case measure => simp [intOf]; omega
  · go_wp2_with fail
    go_ret
    exact ⟨rfl, hbel03.trans ((hbel6.mono hbel03.size).trans (hbel11.mono (Nat.le_trans hbel03.size hbel6.size)))⟩
end Go.Proofs.Yoefgw
