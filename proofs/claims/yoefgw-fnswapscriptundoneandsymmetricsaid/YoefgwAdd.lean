/-
  Add (19) AND addEntry (14): one more error at the list's end.
-/
import Derived.Test.YoefgwMem
import Derived.Deep.RegionLaw
namespace Go.Proofs.Yoefgw
open Go.RowKit

/-- 'append(*p, &Error{..})' AS ONE STEP OF A REGION THAT DRAWS: whether it grows or not -/
theorem step_add {ops : Array Oper} {o : Oper} {a : Act} {w : World} {K : Act → World → Prop} {Q : Exit → Act → World → Prop} {X : Prop}
    (hg : o.guard = none) (s x : Operand) (hop : o.op = Op.call { callee := Callee.builtin Builtin.append, args := #[s, x], argTypes := #[27, 27] })
    (B : Nat) (ao : Option Addr) (n cap : Nat) (xs : List Value) (hs : a.eval s = .slice ao n cap) (hown : w.ownsRow B 31 1 (.slice ao n cap) n xs)
    (ad : Addr) (c : Nat) (u : Value) (hx : a.eval x = .slice (some ad) 1 c) (hu : w.cell? ad = some u) (h1 : u.oneCell' = true) (hn : n ≤ 1000000) (hB : B ≤ w.heap.size)
    (hK : ∀ g cap' w', Added B w w' ao n cap xs u g cap' → K (a.put o.dst (.slice (some ⟨g, 0, none⟩) (n + 1) cap')) w') :
    if Region.wanted o (yielded ops a.tmps) = true then Oper.wp Efgg.prog o a w K Q else X := by
  have hw : Region.wanted o (yielded ops a.tmps) = true := by simp [Region.wanted, hg]
  rw [if_pos hw]
  obtain ⟨g, cap', w', hrun, hadd⟩ := run_add w B 27 o.type Efgg.underlying27 ao n cap xs hown ad c u hu h1 hn hB
  unfold Oper.wp
  simp [execOp, hop, resolve, invoke, builtin, hs, hx, hrun, Result.andThen]
  exact hK g cap' w' hadd

/-- what one Add leaves -/
structure Pushed (B : Nat) (w w' : World) (lb : Nat) (ao : Option Addr) (n cap : Nat) (xs : List Value) (e : Ent) (p g cap' : Nat) : Prop where
  box : w'.heap[lb]? = some (.cells #[.slice (some ⟨g, 0, none⟩) (n + 1) cap'] 27 (0, 0))
  own : w'.ownsRow B 31 1 (.slice (some ⟨g, 0, none⟩) (n + 1) cap') (n + 1) (xs ++ [.pointer (some ⟨p, 0, none⟩)])
  obj : w'.heap[p]? = some (.cells #[.string e.f, .int .i64 e.o, .int .i64 e.l, .int .i64 e.c, .string e.m] 37 (0, 0))
  fresh : w.heap.size ≤ p
  place : Value.ownBlock (.slice ao n cap) = some g ∨ w.heap.size ≤ g
  os : w'.os = w.os
  tape : w'.tape = w.tape
  output : w'.output = w.output
  size : w.heap.size ≤ w'.heap.size
  block : ∀ k, k < w.heap.size → k ≠ lb → some k ≠ Value.ownBlock (.slice ao n cap) → w'.heap[k]? = w.heap[k]?
  keeps : ∀ vs k, k ≤ n → w.ownsRow B 31 1 vs k (xs.take k) → w'.ownsRow B 31 1 vs k (xs.take k)

theorem ownsRow_drew {w : World} {B : Nat} {e : TypeId} {size : Nat} {v : Value} {n : Nat} {xs : List Value} (h : w.ownsRow B e size v n xs) : w.drew.ownsRow B e size v n xs := h

/-- the row of pointers is none of a block of another type -/
theorem row_ne {w : World} {B : Nat} {v : Value} {n : Nat} {xs : List Value} (h : w.ownsRow B 31 1 v n xs) {b : Nat} {cs : Array Value} {t : TypeId} (hb : w.heap[b]? = some (.cells cs t (0, 0))) (ht : t ≠ 31) : some b ≠ v.ownBlock := by
  rcases h.2 with ⟨rfl, _⟩ | ⟨g, cap, cur, rfl, _, hg, _⟩
  · simp [Value.ownBlock]
  · simp only [Value.ownBlock, ne_eq, Option.some.injEq]
    rintro rfl
    rw [hb] at hg
    simp at hg
    exact ht hg.2

theorem grown_of_below {w w' : World} (h : Below w.heap.size w w') : w.grownBy w' none := ⟨h.os, h.tape, h.output, h.size, fun k hk _ => h.block k hk⟩

theorem ownsRow_below {w w' : World} {B : Nat} {e : TypeId} {size : Nat} {v : Value} {n : Nat} {xs : List Value} (h : w.ownsRow B e size v n xs) (hb : Below w.heap.size w w') : w'.ownsRow B e size v n xs :=
  h.kept (grown_of_below hb) (by cases v.ownBlock <;> simp)

/-- the store into the box behind an append -/
theorem pushed_of {B lb n cap g cap' p : Nat} {ao : Option Addr} {xs : List Value} {w W3 w1 : World} {e : Ent}
    (hbox : w.heap[lb]? = some (.cells #[.slice ao n cap] 27 (0, 0))) (hown : w.ownsRow B 31 1 (.slice ao n cap) n xs)
    (hb : Below w.heap.size w W3) (hobj : W3.heap[p]? = some (.cells #[.string e.f, .int .i64 e.o, .int .i64 e.l, .int .i64 e.c, .string e.m] 37 (0, 0))) (hp : w.heap.size ≤ p)
    (hadd : Added B W3 w1 ao n cap xs (.pointer (some ⟨p, 0, none⟩)) g cap') :
    Pushed B w (w1.setCell ⟨lb, 0, none⟩ (.slice (some ⟨g, 0, none⟩) (n + 1) cap')) lb ao n cap xs e p g cap' := by
  have hlt := lt_of_block hbox
  have hown3 := ownsRow_below hown hb
  have hbox3 : W3.heap[lb]? = some (.cells #[.slice ao n cap] 27 (0, 0)) := (hb.block lb hlt).trans hbox
  have hbox1 : w1.heap[lb]? = some (.cells #[.slice ao n cap] 27 (0, 0)) := (hadd.grown.block lb (lt_of_block hbox3) (row_ne hown3 hbox3 (by decide))).trans hbox3
  have hobj1 : w1.heap[p]? = some (.cells #[.string e.f, .int .i64 e.o, .int .i64 e.l, .int .i64 e.c, .string e.m] 37 (0, 0)) := (hadd.grown.block p (lt_of_block hobj) (row_ne hown3 hobj (by decide))).trans hobj
  have hs3 := hb.size
  have hs1 := hadd.grown.size
  refine ⟨one_setCell hbox1, ownsRow_setCell_other hadd.own (row_ne hadd.own hbox1 (by decide)).symm _, ?_, hp, ?_, hadd.grown.os.trans hb.os, hadd.grown.tape.trans hb.tape, hadd.grown.output.trans hb.output, ?_, ?_, ?_⟩
  · rw [heap_setCell_other w1 ⟨lb, 0, none⟩ p _ (by show p ≠ lb; omega)]
    exact hobj1
  · rcases hadd.place with h | h
    · exact .inl h
    · exact .inr (by omega)
  · simp
    omega
  · intro k hk hkl hkr
    rw [heap_setCell_other w1 ⟨lb, 0, none⟩ k _ hkl, hadd.grown.block k (by omega) hkr, hb.block k hk]
  · intro vs k hk hvs
    have h1 := hadd.keeps vs k hk (ownsRow_below hvs hb)
    exact ownsRow_setCell_other h1 (row_ne h1 hbox1 (by decide)).symm _

theorem below3 (w : World) (a b c : Obj) : Below w.heap.size w (((w.alloc a).alloc b).alloc c).drew :=
  ((((Below.refl _ _).alloc (Nat.le_refl _) _).alloc (by simp) _).alloc (by simp; omega) _).drew

theorem mid3 (w : World) (a b c : Obj) : (((w.alloc a).alloc b).alloc c).drew.heap[w.heap.size + 1]? = some b := by
  show (((w.alloc a).alloc b).alloc c).heap[w.heap.size + 1]? = _
  rw [Below.heap_alloc _ _ _ (by simp)]
  have := heap_alloc_new (w.alloc a) b
  simpa using this

theorem last3 (w : World) (a b : Obj) (v : Value) (t : TypeId) : (((w.alloc a).alloc b).alloc (.cells #[v] t)).drew.cell? ⟨w.heap.size + 1 + 1, 0, none⟩ = some v := by
  have h := heap_alloc_new ((w.alloc a).alloc b) (.cells #[v] t)
  have h2 : (((w.alloc a).alloc b).alloc (.cells #[v] t)).heap[w.heap.size + 1 + 1]? = some (.cells #[v] t (0, 0)) := by simpa using h
  exact cell_of_one (w := ((w.alloc a).alloc b).alloc (.cells #[v] t)) h2

set_option maxHeartbeats 400000 in
theorem c19 (w : World) (lb B n cap : Nat) (ao : Option Addr) (xs : List Value) (f m : ByteArray) (o l c : Int)
    (hbox : w.heap[lb]? = some (.cells #[.slice ao n cap] 27 (0, 0))) (hown : w.ownsRow B 31 1 (.slice ao n cap) n xs) (hn : n ≤ 1000000) (hB : B ≤ w.heap.size) :
    Calls Efgg.prog 19 #[.pointer (some ⟨lb, 0, none⟩), .agg #[.string f, .int .i64 o, .int .i64 l, .int .i64 c], .string m] w fun e w' =>
      e = .returned (.tuple #[]) ∧ ∃ p g cap', Pushed B w w' lb ao n cap xs ⟨f, o, l, c, m⟩ p g cap' := by
  have hc := cell_of_one hbox
  have hf := free_of_one hbox
  have hlt := lt_of_block hbox
  have Hb := below3 w (.cells #[.string f, .int .i64 o, .int .i64 l, .int .i64 c] 35) (.cells #[.string f, .int .i64 o, .int .i64 l, .int .i64 c, .string m] 37) (.cells #[.pointer (some ⟨w.heap.size + 1, 0, none⟩)] 31)
  have Hm : Hid ((((w.alloc (.cells #[.string f, .int .i64 o, .int .i64 l, .int .i64 c] 35)).alloc (.cells #[.string f, .int .i64 o, .int .i64 l, .int .i64 c, .string m] 37)).alloc (.cells #[.pointer (some ⟨w.heap.size + 1, 0, none⟩)] 31)).drew.heap[w.heap.size + 1]? = some (.cells #[.string f, .int .i64 o, .int .i64 l, .int .i64 c, .string m] 37 (0, 0))) := mid3 w _ _ _
  have Hu : Hid ((((w.alloc (.cells #[.string f, .int .i64 o, .int .i64 l, .int .i64 c] 35)).alloc (.cells #[.string f, .int .i64 o, .int .i64 l, .int .i64 c, .string m] 37)).alloc (.cells #[.pointer (some ⟨w.heap.size + 1, 0, none⟩)] 31)).drew.cell? ⟨w.heap.size + 1 + 1, 0, none⟩ = some (.pointer (some ⟨w.heap.size + 1, 0, none⟩))) := last3 w _ _ _ _
  have Ho := ownsRow_below hown Hb
  have HB := Nat.le_trans hB Hb.size
  have hc2 : ∀ a b : Obj, ((w.alloc a).alloc b).cell? ⟨lb, 0, none⟩ = some (.slice ao n cap) := fun a b => by
    rw [World.cell?_of_block (w := w) (by show ((w.alloc a).alloc b).heap[lb]? = _; rw [Below.heap_alloc _ _ _ (by simp; omega), Below.heap_alloc _ _ _ hlt])]; exact hc
  have hc3 : ∀ a b d : Obj, (((w.alloc a).alloc b).alloc d).cell? ⟨lb, 0, none⟩ = some (.slice ao n cap) := fun a b d => by
    rw [World.cell?_of_block (w := w) (by show (((w.alloc a).alloc b).alloc d).heap[lb]? = _; rw [Below.heap_alloc _ _ _ (by simp; omega), Below.heap_alloc _ _ _ (by simp; omega), Below.heap_alloc _ _ _ hlt])]; exact hc
  have Hbox : Hid (w.heap[lb]? = some (.cells #[.slice ao n cap] 27 (0, 0))) := hbox
  clear hbox
  go_enter Efgg.func19, Efgg.ntmps19
  go_wp2
  go_region_law (refine step_add rfl (.tmp 9) (.tmp 14) rfl B ao n cap xs rfl Ho ⟨w.heap.size + 1 + 1, 0, none⟩ 1 _ rfl Hu.out rfl hn HB ?_; intro g cap' w1 hadd; have hb1 : w1.heap[lb]? = some (.cells #[.slice ao n cap] 27 (0, 0)) := (hadd.grown.block lb (Nat.lt_of_lt_of_le hlt Hb.size) (row_ne Ho ((Hb.block lb hlt).trans Hbox.out) (by decide))).trans ((Hb.block lb hlt).trans Hbox.out); have hc1 := cell_of_one hb1; have hf1 := free_of_one hb1; clear hb1)
  all_goals go_end0
  all_goals exact ⟨rfl, _, _, _, pushed_of Hbox.out hown Hb Hm.out (by omega) (by assumption)⟩

/-- .. said of an earlier world that parts in new blocks alone -/
theorem Pushed.under {B lb n cap g cap' p : Nat} {ao : Option Addr} {xs : List Value} {w W w' : World} {e : Ent} (h : Pushed B W w' lb ao n cap xs e p g cap') (hb : Below w.heap.size w W) : Pushed B w w' lb ao n cap xs e p g cap' := by
  have hs := hb.size
  refine ⟨h.box, h.own, h.obj, Nat.le_trans hs h.fresh, ?_, h.os.trans hb.os, h.tape.trans hb.tape, h.output.trans hb.output, Nat.le_trans hs h.size, ?_, ?_⟩
  · rcases h.place with h1 | h1
    · exact .inl h1
    · exact .inr (Nat.le_trans hs h1)
  · intro k hk hkl hkr
    rw [h.block k (Nat.lt_of_lt_of_le hk hs) hkl hkr, hb.block k hk]
  · intro vs k hk hvs
    exact h.keeps vs k hk (ownsRow_below hvs hb)

set_option maxHeartbeats 400000 in
theorem c14 (w : World) (lb B n cap : Nat) (ao : Option Addr) (xs : List Value) (e0 : Ent)
    (hbox : w.heap[lb]? = some (.cells #[.slice ao n cap] 27 (0, 0))) (hown : w.ownsRow B 31 1 (.slice ao n cap) n xs) (hn : n ≤ 1000000) (hB : B ≤ w.heap.size) :
    Calls Efgg.prog 14 #[.pointer (some ⟨lb, 0, none⟩), .agg #[.string e0.f, .int .i64 e0.o, .int .i64 e0.l, .int .i64 e0.c, .string e0.m]] w fun e w' =>
      e = .returned (.tuple #[]) ∧ ∃ p g cap', Pushed B w w' lb ao n cap xs e0 p g cap' := by
  have hlt := lt_of_block hbox
  have hb1 : ∀ x : Obj, Below w.heap.size w (w.alloc x) := fun x => (Below.refl _ _).alloc (Nat.le_refl _) _
  have hbox1 : ∀ x : Obj, Hid ((w.alloc x).heap[lb]? = some (.cells #[.slice ao n cap] 27 (0, 0))) := fun x => ((hb1 x).block lb hlt).trans hbox
  clear hbox
  go_enter Efgg.func14, Efgg.ntmps14
  go_wp2_with fail
  refine (c19 _ lb B n cap ao xs _ _ _ _ _ (hbox1 _).out (ownsRow_below hown (hb1 _)) hn (Nat.le_trans hB (hb1 _).size)).mono ?_
  rintro e w1 ⟨rfl, p, g, cap', hp⟩
  go_wp2_with fail
  go_end0
  exact ⟨rfl, p, g, cap', hp.under (hb1 _)⟩
end Go.Proofs.Yoefgw
