/-
  FnSwapExchangesExactlyTwoCells (5): the walk.
-/
import Derived.Test.YoefgwKeeps
namespace Go.Proofs.Yoefgw
open Go.RowKit

theorem swapL_getD (ps : List Nat) (i j k : Nat) (hi : i < ps.length) (hj : j < ps.length) : (swapL ps i j).getD k 0 = if k = j then ps.getD i 0 else if k = i then ps.getD j 0 else ps.getD k 0 := by
  unfold swapL
  simp only [List.getD, List.getElem?_set, List.length_set]
  by_cases h1 : k = j
  · subst h1
    simp [hj]
  · rw [if_neg (fun h => h1 h.symm), if_neg h1]
    by_cases h2 : k = i
    · subst h2
      simp [hi]
    · rw [if_neg (fun h => h2 h.symm), if_neg h2]

/-- at either place of the swap, and elsewhere -/
theorem swapL_at_i (ps : List Nat) (i j : Nat) (hi : i < ps.length) (hj : j < ps.length) : (swapL ps i j).getD i 0 = ps.getD j 0 := by
  rw [swapL_getD ps i j i hi hj]
  by_cases h : i = j
  · subst h; simp
  · rw [if_neg h, if_pos rfl]
theorem swapL_at_j (ps : List Nat) (i j : Nat) (hi : i < ps.length) (hj : j < ps.length) : (swapL ps i j).getD j 0 = ps.getD i 0 := by
  rw [swapL_getD ps i j j hi hj, if_pos rfl]
theorem swapL_off (ps : List Nat) (i j k : Nat) (hi : i < ps.length) (hj : j < ps.length) (h1 : k ≠ i) (h2 : k ≠ j) : (swapL ps i j).getD k 0 = ps.getD k 0 := by
  rw [swapL_getD ps i j k hi hj, if_neg h2, if_neg h1]

theorem Objs.grown {B g : Nat} {w w' : World} {ps : List Nat} {E : Nat → Ent} (h : Objs B w ps E) (hg : w.grownBy w' (some g)) (hne : ∀ p, p ∈ ps → p ≠ g) : Objs B w' ps E :=
  h.same fun p hp => hg.block p (h.lt hp) (by simpa using hne p hp)

theorem below_grown {B g : Nat} {w w' : World} (hg : w.grownBy w' (some g)) (hB : B ≤ g) (hs : B ≤ w.heap.size) : Below B w w' :=
  (Below.refl _ _).grown hg hs (fun k hk => by simp at hk; omega)

theorem getD_some {ps : List Nat} {i : Nat} (h : i < ps.length) : ps[i]? = some (ps.getD i 0) := by
  simp [List.getD, List.getElem?_eq_getElem h]

set_option maxHeartbeats 2000000 in
theorem walk5 (ao : Option Addr) (b off n cap : Nat) (i j : Int) (E : Nat → Ent) (w : World) (hnil : ao = none → n = 0 ∧ cap = 0) (hao : 0 < n → ao = some ⟨b, off, none⟩) (hE : Ents w b off n E) (hn : n ≤ 1000000000000000) :
    Calls Efgg.prog 5 #[.slice ao n cap, .int .i64 i, .int .i64 j] w fun e w' => e = .returned (.bool true) ∧ Below w.heap.size w w' := by
  go_enter Efgg.func5, Efgg.ntmps5
  go_wp2_with fail
  refine (c15 i j ao b off n cap E _ hao hE hn).mono ?_
  rintro e w ⟨⟨t, rfl⟩, rfl⟩
  cases t with
  | false =>
    go_wp2_with fail
    go_ret
    exact ⟨rfl, Below.refl _ _⟩
  | true =>
  by_cases hbig : 65536 < n
  · go_wp2_with fail
    go_ret
    exact ⟨rfl, Below.refl _ _⟩
  go_wp2_with fail
  refine (c8 ao b off n cap E _ hao hE hn).mono ?_
  rintro e w ⟨⟨t, rfl⟩, rfl⟩
  by_cases ht : 1048576 < t
  · go_wp2_with fail
    go_ret
    exact ⟨rfl, Below.refl _ _⟩
  by_cases hi0 : i < 0
  · go_wp2_with fail
    go_ret
    exact ⟨rfl, Below.refl _ _⟩
  by_cases hi1 : (n : Int) ≤ i
  · go_wp2_with fail
    go_ret
    exact ⟨rfl, Below.refl _ _⟩
  by_cases hj0 : j < 0
  · go_wp2_with fail
    go_ret
    exact ⟨rfl, Below.refl _ _⟩
  by_cases hj1 : (n : Int) ≤ j
  · go_wp2_with fail
    go_ret
    exact ⟨rfl, Below.refl _ _⟩
  obtain ⟨i, rfl⟩ := Int.eq_ofNat_of_zero_le (show 0 ≤ i by omega)
  obtain ⟨j, rfl⟩ := Int.eq_ofNat_of_zero_le (show 0 ≤ j by omega)
  have hin : i < n := by omega
  have hjn : j < n := by omega
  have e0 : decide ((i : Int) < 0) = false := by simp
  have e1 : decide ((n : Int) ≤ (i : Int)) = false := by simp; omega
  have e2 : decide ((j : Int) < 0) = false := by simp
  have e3 : decide ((n : Int) ≤ (j : Int)) = false := by simp; omega
  clear hi0 hi1 hj0 hj1
  go_wp2_with fail
  refine (c9 ao b off n cap E _ hnil hao hE (by omega)).mono ?_
  rintro e w1 ⟨ao1, cap1, rfl, hao1, hbel1, hE1⟩
  clear hE hao hnil e0 e1 e2 e3
  go_wp2_with fail
  refine (c10 ao1 _ 0 n cap1 E _ hao1 hE1 (by omega)).mono ?_
  rintro e w2 ⟨ao2, cap2, ps, rfl, hps, hrow, hobj, hbel2⟩
  obtain ⟨cs0, hcs0, hmk⟩ := make_ptrs 26 Efgg.underlying26 n (by omega)
  obtain ⟨g, hg, hg1, hg2, cg, hgc⟩ := rowP_some hrow (by omega)
  subst hg
  have h1 := hao1 (by omega)
  subst h1
  clear hao1
  go_wp2_with fail
  clear hmk
  go_loopw [10] (fun i wx => ∃ k : Nat, k ≤ n ∧ i = .int .i64 k ∧ Fill wx w2.heap.size n ps k ∧ Below w2.heap.size w2 wx) (fun i _ => n - (intOf i).toNat)
  case atStart => exact ⟨0, Nat.zero_le _, rfl, Fill.start hcs0, (Below.refl _ _).alloc (Nat.le_refl _) _⟩
  case round =>
  obtain ⟨k, hk, rfl, hfill, hbel3⟩ := hrel
  by_cases hlt : k < n
  · have hp := getD_some (ps := ps) (i := k) (by omega)
    have cl := rowP_cell (rowP_below hrow hbel3) (i := k) (by omega)
    generalize ps.getD k 0 = p at hp cl
    obtain ⟨⟨v0, d0⟩, f0⟩ := hfill.facts hlt
    have R := hfill.step hlt hp
    clear hp hfill
    go_wp2_with fail
    go_roundw
    case rel => exact ⟨k + 1, by omega, by go_num, R, hbel3.setCell (Nat.le_refl _) _⟩
    case measure => simp [intOf]; omega
  · have hkn : n = k := by omega
    subst hkn
    clear hlt
    obtain ⟨w3, hw3⟩ : ∃ w3, w3 = wr := ⟨_, rfl⟩
    subst hw3
    subst hps
    have hrow3 := rowP_below hrow hbel3
    have hobj3 := hobj.below hbel3
    have hold3 : RowP w1.heap.size w3 (some ⟨w2.heap.size, 0, none⟩) ps.length ps := hfill.row hbel2.size (by omega)
    have hbel23 : Below w1.heap.size w1 w3 := hbel2.trans (hbel3.mono hbel2.size)
    go_wp2_with fail
    refine (c16 w3 w1.heap.size g cap2 ps i j hrow3 hin hjn).mono ?_
    rintro e w4 ⟨rfl, hrow4, hgr⟩
    have hobj4 := hobj3.grown hgr (fun p hp => hobj.ne hp hgc (by decide))
    have hold4 : RowP w1.heap.size w4 (some ⟨w2.heap.size, 0, none⟩) ps.length ps := World.ownsRow.kept hold3 hgr (.inr (by simp [Value.ownBlock]; omega))
    have hbel4 : Below w1.heap.size w1 w4 := hbel23.trans (below_grown hgr hg1 hbel23.size)
    clear hrow3 hobj3 hold3 hbel23 hbel3 hfill hgr hrow hobj hgc hcs0
    go_wp2_with (go_at_call 11; refine (c11 _ _ _ _).mono ?_; rintro e w' ⟨rfl, rfl⟩)
    go_loopw [11] (fun i wx => ∃ k : Nat, k ≤ ps.length ∧ i = .int .i64 k ∧ Below w4.heap.size w4 wx) (fun i _ => ps.length - (intOf i).toNat)
    case atStart => exact ⟨0, Nat.zero_le _, rfl, Below.refl _ _⟩
    case round =>
    obtain ⟨k, hk, rfl, hbel5⟩ := hrel
    by_cases hlt : k < ps.length
    · have hw1 : w.heap.size < w1.heap.size := hE1.lt (by omega)
      have hE5 : Ents wr w.heap.size 0 ps.length E := (hE1.below hbel4 (fun _ => hw1)).below hbel5 (fun _ => Nat.lt_of_lt_of_le hw1 hbel4.size)
      have hobj5 := hobj4.below hbel5
      have ck := rowP_cell (rowP_below hold4 hbel5) (i := k) hlt
      have ci := rowP_cell (rowP_below hold4 hbel5) (i := i) hin
      have cj := rowP_cell (rowP_below hold4 hbel5) (i := j) hjn
      have cl := rowP_cell (rowP_below hrow4 hbel5) (i := k) (by rw [swapL_length]; exact hlt)
      have hne := neq31
      clear hE1 hobj4 hrow4 hold4
      by_cases hki : k = i
      · subst hki
        rw [swapL_at_i ps k j hin hjn] at cl
        have Hob : Hid (wr.heap[ps.getD j 0]? = some (errObj (E j))) := hobj5.obj j _ (getD_some hjn)
        obtain ⟨c0, c1, c2, c3, c4⟩ := hE5 j hjn
        simp only [Nat.zero_add] at c0 c1 c2 c3 c4
        generalize ps.getD j 0 = p at *
        generalize ps.getD k 0 = q at *
        clear hE5 hobj5
        go_wp2_with fail
        go_region_with (go_at_call 12; refine (c12 _ p (E j) ?_).mono ?_; (exact Hob.out); rintro e w6 ⟨rfl, hb6⟩)
        all_goals
          go_wp2_with fail
          go_roundw
          case rel => exact ⟨k + 1, by omega, by go_num, hbel5.trans ((below_of_drew hb6).mono hbel5.size)⟩
          case measure => simp [intOf]; omega
      · have e1 : ((k : Int) == (i : Int)) = false := beq_eq_false_iff_ne.2 (by omega)
        by_cases hkj : k = j
        · subst hkj
          rw [swapL_at_j ps i k hin hjn] at cl
          have Hob : Hid (wr.heap[ps.getD i 0]? = some (errObj (E i))) := hobj5.obj i _ (getD_some hin)
          obtain ⟨c0, c1, c2, c3, c4⟩ := hE5 i hin
          simp only [Nat.zero_add] at c0 c1 c2 c3 c4
          generalize ps.getD i 0 = p at *
          generalize ps.getD k 0 = q at *
          clear hE5 hobj5
          go_wp2_with fail
          go_region_with (go_at_call 12; refine (c12 _ p (E i) ?_).mono ?_; (exact Hob.out); rintro e w6 ⟨rfl, hb6⟩)
          all_goals
            go_wp2_with fail
            go_roundw
            case rel => exact ⟨k + 1, by omega, by go_num, hbel5.trans ((below_of_drew hb6).mono hbel5.size)⟩
            case measure => simp [intOf]; omega
        · have e2 : ((k : Int) == (j : Int)) = false := beq_eq_false_iff_ne.2 (by omega)
          rw [swapL_off ps i j k hin hjn hki hkj] at cl
          have Hob : Hid (wr.heap[ps.getD k 0]? = some (errObj (E k))) := hobj5.obj k _ (getD_some hlt)
          obtain ⟨c0, c1, c2, c3, c4⟩ := hE5 k hlt
          simp only [Nat.zero_add] at c0 c1 c2 c3 c4
          generalize ps.getD k 0 = p at *
          clear hE5 hobj5 ci cj
          go_wp2_with fail
          go_region_with (go_at_call 12; refine (c12 _ p (E k) ?_).mono ?_; (exact Hob.out); rintro e w6 ⟨rfl, hb6⟩)
          all_goals
            go_wp2_with fail
            go_roundw
            case rel => exact ⟨k + 1, by omega, by go_num, hbel5.trans ((below_of_drew hb6).mono hbel5.size)⟩
            case measure => simp [intOf]; omega
    · go_wp2_with fail
      go_ret
      exact ⟨rfl, hbel1.trans ((hbel4.mono hbel1.size).trans (hbel5.mono (Nat.le_trans hbel1.size hbel4.size)))⟩
end Go.Proofs.Yoefgw
