/-
  THE ARGUMENTS OPENED: a slice of entries; a slice of ints.
-/
import Derived.Test.YoefgwCopy
import Derived.Deep.Slices
import Derived.SizedLaws
import Derived.ProofKit
namespace Go.Proofs.Yoefgw
open Go.ChangeShapes Go.WideShapes Go.ChangeAt Go.RowKit

theorem own : ownKnob Efgg.prog.godebug = none := by kernel_rfl
theorem laidOut : laidOutB Efgg.prog = true := by kernel_rfl
theorem cells33 : Efgg.prog.cellsOf 33 = 5 := by kernel_rfl
theorem cells9 : Efgg.prog.cellsOf 9 = 1 := by kernel_rfl
theorem cells3 : Efgg.prog.cellsOf 3 = 1 := by kernel_rfl
theorem bytes33 : Efgg.prog.bytesOf 33 = 56 := by kernel_rfl
theorem bytes3 : Efgg.prog.bytesOf 3 = 8 := by kernel_rfl

section
variable {H : Type} {enc : TypeId × Value → H} {W : World}

/-- five cells that read as an entry are a string, three numbers and a string -/
theorem entry_cells {spare : Nat → Bool} {held : Bool} {fuel : Nat} {cs : List Value} {x : DataW H × List MemPlace} (h : DataW.trod enc Efgg.prog W 0 spare held fuel 33 cs = some x) :
    ∃ (f m : ByteArray) (o l c : Int), cs = [.string f, .int .i64 o, .int .i64 l, .int .i64 c, .string m] := by
  obtain ⟨xs, k, -, -, hlen, hxl, hf⟩ := DataW.trod_struct Efgg.underlying33 h
  rw [cells33] at hlen
  have hxl5 : xs.length = 5 := hxl
  match xs, hxl5, cs, hlen with
  | [y0, y1, y2, y3, y4], _, [v0, v1, v2, v3, v4], _ =>
    have g0 := hf 0 _ rfl
    have g1 := hf 1 _ rfl
    have g2 := hf 2 _ rfl
    have g3 := hf 3 _ rfl
    have g4 := hf 4 _ rfl
    simp [cells9, cells3] at g0 g1 g2 g3 g4
    obtain ⟨f, e0, -, -⟩ := DataW.trod_string Efgg.underlying9 g0
    obtain ⟨o, e1, -, -⟩ := DataW.trod_int Efgg.underlying3 g1
    obtain ⟨l, e2, -, -⟩ := DataW.trod_int Efgg.underlying3 g2
    obtain ⟨c, e3, -, -⟩ := DataW.trod_int Efgg.underlying3 g3
    obtain ⟨m, e4, -, -⟩ := DataW.trod_string Efgg.underlying9 g4
    simp only [List.cons.injEq, and_true] at e0 e1 e2 e3 e4
    subst e0 e1 e2 e3 e4
    exact ⟨f, m, o, l, c, rfl⟩

/-- A SLICE OF ENTRIES, OPENED -/
theorem open_entries {base : Nat} {v : Value} {d : DataW H} {p : List MemPlace} (hval : Value.okWide Efgg.prog W .any base 22 v) (h : DataW.Trod enc Efgg.prog W 0 (fun _ => true) true 22 v d p) :
    ∃ (ao : Option Addr) (b off n cap : Nat) (E : Nat → Ent), v = .slice ao n cap ∧ (ao = none → n = 0 ∧ cap = 0) ∧ (0 < n → ao = some ⟨b, off, none⟩) ∧ Ents W b off n E ∧
      (n = 0 ∨ ∃ elems spare, d = .slice elems spare ∧ elems.length = n) := by
  obtain ⟨ao, n, cap, rfl⟩ := okWide_slice Efgg.underlying22 hval
  obtain ⟨fuel, hf⟩ := h
  rcases Deep.open_slice Efgg.underlying22 hf with ⟨hcs, -⟩ | ⟨a, len, cap', m, k, D, Pl, hcs, -, hl, -, hm, hx, hel⟩
  · simp [Value.cells] at hcs
    obtain ⟨rfl, rfl, rfl⟩ := hcs
    exact ⟨none, 0, 0, 0, 0, fun _ => ⟨ByteArray.empty, 0, 0, 0, ByteArray.empty⟩, rfl, fun _ => ⟨rfl, rfl⟩, fun h => absurd h (Nat.lt_irrefl _), fun i hi => absurd hi (Nat.not_lt_zero _), .inl rfl⟩
  · simp [Value.cells] at hcs
    obtain ⟨rfl, rfl, rfl⟩ := hcs
    simp only [if_true] at hm
    subst hm
    rw [cells33] at hel
    have each : ∀ i, i < n → ∃ q : ByteArray × Int × Int × Int × ByteArray, W.cell? (a.add (i * 5)) = some (.string q.1) ∧ W.cell? (a.add (i * 5 + 1)) = some (.int .i64 q.2.1) ∧ W.cell? (a.add (i * 5 + 2)) = some (.int .i64 q.2.2.1) ∧
        W.cell? (a.add (i * 5 + 3)) = some (.int .i64 q.2.2.2.1) ∧ W.cell? (a.add (i * 5 + 4)) = some (.string q.2.2.2.2) := by
      intro i hi
      obtain ⟨cs', h1, h2⟩ := hel i (by omega)
      obtain ⟨-, -, hc⟩ := World.cells?_some h1
      obtain ⟨f, m, o, l, c, rfl⟩ := entry_cells h2
      have e0 := hc 0 (by omega)
      have e1 := hc 1 (by omega)
      have e2 := hc 2 (by omega)
      have e3 := hc 3 (by omega)
      have e4 := hc 4 (by omega)
      rw [Deep.add_add] at e0 e1 e2 e3 e4
      exact ⟨(f, o, l, c, m), by simpa using e0, by simpa using e1, by simpa using e2, by simpa using e3, by simpa using e4⟩
    obtain ⟨q, hq⟩ := Deep.choose_lt each
    obtain ⟨b, off, spot⟩ := a
    refine ⟨_, b, off, n, _, fun i => ⟨(q i).1, (q i).2.1, (q i).2.2.1, (q i).2.2.2.1, (q i).2.2.2.2⟩, rfl, (fun h => by cases h), ?_, ?_, ?_⟩
    · intro hn
      have hs : spot = none := by simpa [Addr.add] using World.cell?_spot (hq 0 hn).1
      rw [hs]
    · intro i hi
      have hs : spot = none := by
        have := World.cell?_spot (hq 0 (by omega)).1
        simpa [Addr.add] using this
      subst hs
      have := hq i hi
      simp only [add_plain] at this
      simpa [Nat.add_assoc] using this
    · right
      simp only [Prod.mk.injEq] at hx
      exact ⟨_, _, hx.1, by simp⟩

/-- A SLICE OF INTS, OPENED -/
theorem open_nums {base : Nat} {v : Value} {d : DataW H} {p : List MemPlace} (hval : Value.okWide Efgg.prog W .any base 43 v) (h : DataW.Trod enc Efgg.prog W 0 (fun _ => true) true 43 v d p) :
    ∃ (ao : Option Addr) (b off n cap : Nat) (Z : Nat → Int), v = .slice ao n cap ∧ (ao = none → n = 0 ∧ cap = 0) ∧ (0 < n → ao = some ⟨b, off, none⟩) ∧ Ints W b off n Z ∧
      (n = 0 ∨ ∃ elems spare, d = .slice elems spare ∧ elems.length = n) := by
  obtain ⟨ao, n, cap, rfl⟩ := okWide_slice Efgg.underlying43 hval
  obtain ⟨fuel, hf⟩ := h
  rcases open_ints Efgg.underlying43 Efgg.underlying3 cells3 hf with ⟨hcs, -⟩ | ⟨a, len, cap', zs, hcs, -, hl, -, hz, hx, hel, -⟩
  · simp [Value.cells] at hcs
    obtain ⟨rfl, rfl, rfl⟩ := hcs
    exact ⟨none, 0, 0, 0, 0, fun _ => 0, rfl, fun _ => ⟨rfl, rfl⟩, fun h => absurd h (Nat.lt_irrefl _), fun i hi => absurd hi (Nat.not_lt_zero _), .inl rfl⟩
  · simp [Value.cells] at hcs
    obtain ⟨rfl, rfl, rfl⟩ := hcs
    simp only [if_true] at hz
    obtain ⟨b, off, spot⟩ := a
    refine ⟨_, b, off, n, _, fun i => zs.getD i 0, rfl, (fun h => by cases h), ?_, ?_, ?_⟩
    · intro hn
      have hs : spot = none := by simpa [Addr.add] using World.cell?_spot (hel 0 (by omega))
      rw [hs]
    · intro i hi
      have hs : spot = none := by simpa [Addr.add] using World.cell?_spot (hel 0 (by omega))
      subst hs
      have := hel i (by omega)
      rwa [add_plain] at this
    · right
      simp only [Prod.mk.injEq] at hx
      exact ⟨_, _, hx.1, by simp [lits]; omega⟩
end
end Go.Proofs.Yoefgw
