/-
  FnAddBuildsListInOrder (3): the walk.
-/
import Derived.Test.YoefgwBytes
import Derived.Test.YoefgwCopy
import Derived.Test.YoefgwSame
import Derived.Test.YoefgwSwap
import Derived.Deep.RegionWith
namespace Go.Proofs.Yoefgw
open Go.RowKit

set_option maxHeartbeats 400000 in
theorem c11 (w : World) (a : Option Addr) (n cap : Nat) : Calls Efgg.prog 11 #[.slice a n cap] w fun e w' => e = .returned (.int .i64 (n : Int)) ∧ w = w' := by
  go_enter Efgg.func11, Efgg.ntmps11
  go_wp2
  go_ret
  exact ⟨rfl, rfl⟩

theorem rowP_some {B : Nat} {w : World} {ao : Option Addr} {cap : Nat} {ps : List Nat} (h : RowP B w ao cap ps) (hn : 0 < ps.length) : ∃ g, ao = some ⟨g, 0, none⟩ ∧ B ≤ g ∧ g < w.heap.size ∧ ∃ cs, w.heap[g]? = some (.cells cs 31 (0, 0)) := by
  rcases h.2 with ⟨_, h0⟩ | ⟨g, cap', cur, hv, hb, hg, _⟩
  · omega
  · simp only [Value.slice.injEq] at hv
    exact ⟨g, hv.1, hb, lt_of_block hg, cur, hg⟩

theorem rowP_below {B : Nat} {w w' : World} {ao : Option Addr} {cap : Nat} {ps : List Nat} (h : RowP B w ao cap ps) (hb : Below w.heap.size w w') : RowP B w' ao cap ps := ownsRow_below h hb

/-- the first k errors marked by their place -/
def markE (E : Nat → Ent) (k : Nat) : Nat → Ent := fun i => if i < k then { E i with o := (i : Int) } else E i

theorem mark_zero (E : Nat → Ent) : markE E 0 = E := by funext i; simp [markE]

theorem nodup_inj {l : List Nat} (h : l.Nodup) {i j p : Nat} (hi : l[i]? = some p) (hj : l[j]? = some p) : i = j := by
  obtain ⟨li, ei⟩ := List.getElem?_eq_some_iff.1 hi
  obtain ⟨lj, ej⟩ := List.getElem?_eq_some_iff.1 hj
  rcases Nat.lt_trichotomy i j with hlt | heq | hgt
  · exact absurd (ei.trans ej.symm) (List.pairwise_iff_getElem.1 h i j li lj hlt)
  · exact heq
  · exact absurd (ej.trans ei.symm) (List.pairwise_iff_getElem.1 h j i lj li hgt)

/-- the store of k into the k-th error's offset -/
theorem objs_mark {B : Nat} {w : World} {ps : List Nat} {E : Nat → Ent} {k p : Nat} (h : Objs B w ps (markE E k)) (hk : ps[k]? = some p) : Objs B (w.setCell ⟨p, 1, none⟩ (.int .i64 (k : Int))) ps (markE E (k + 1)) := by
  refine ⟨?_, h.ge, h.nodup⟩
  intro i q hi
  by_cases hik : i = k
  · subst hik
    rw [hk] at hi
    simp at hi
    subst hi
    have := heap_setCell_same w p 1 _ _ (.int .i64 (i : Int)) (h.obj i p hk)
    rw [this]
    simp [errObj, markE]
  · have hne : q ≠ p := by
      rintro rfl
      exact hik (nodup_inj h.nodup hi hk)
    rw [heap_setCell_other w ⟨p, 1, none⟩ q _ hne, h.obj i q hi]
    have : markE E k i = markE E (k + 1) i := by
      unfold markE
      by_cases h1 : i < k
      · rw [if_pos h1, if_pos (by omega)]
      · rw [if_neg h1, if_neg (by omega)]
    rw [this]

set_option maxHeartbeats 1000000 in
theorem walk3 (ao : Option Addr) (b off n cap : Nat) (E : Nat → Ent) (w : World) (hnil : ao = none → n = 0 ∧ cap = 0) (hao : 0 < n → ao = some ⟨b, off, none⟩) (hE : Ents w b off n E) (hn : n ≤ 1000000000000000) :
    Calls Efgg.prog 3 #[.slice ao n cap] w fun e w' => e = .returned (.bool true) ∧ Below w.heap.size w w' := by
  go_enter Efgg.func3, Efgg.ntmps3
  go_wp2_with fail
  refine (c7 ao b off n cap E _ hao hE hn).mono ?_
  rintro e w ⟨⟨t, rfl⟩, rfl⟩
  cases t with
  | false =>
    go_wp2_with fail
    go_ret
    exact ⟨rfl, Below.refl _ _⟩
  | true =>
    by_cases hbig : 65536 < n
    · go_wp2_with fail
      go_ret
      exact ⟨rfl, Below.refl _ _⟩
    · go_wp2_with fail
      refine (c8 ao b off n cap E _ hao hE hn).mono ?_
      rintro e w ⟨⟨t, rfl⟩, rfl⟩
      by_cases ht : 1048576 < t
      · go_wp2_with fail
        go_ret
        exact ⟨rfl, Below.refl _ _⟩
      · go_wp2_with fail
        refine (c9 ao b off n cap E _ hnil hao hE (by omega)).mono ?_
        rintro e w1 ⟨ao1, cap1, rfl, hao1, hbel1, hE1⟩
        go_wp2_with fail
        refine (c10 ao1 _ 0 n cap1 E _ hao1 hE1 (by omega)).mono ?_
        rintro e w2 ⟨ao2, cap2, ps, rfl, hps, hrow, hobj, hbel2⟩
        clear hE hao hnil
        go_wp2_with (go_at_call 11; refine (c11 _ _ _ _).mono ?_; rintro e w' ⟨rfl, rfl⟩)
        go_loopw [5] (fun i wr => ∃ k : Nat, k ≤ n ∧ i = .int .i64 k ∧ Below w2.heap.size w2 wr) (fun i _ => n - (intOf i).toNat)
        case atStart => exact ⟨0, Nat.zero_le _, rfl, Below.refl _ _⟩
        case round =>
          obtain ⟨k, hk, rfl, hbel3⟩ := hrel
          by_cases hlt : k < n
          · obtain ⟨g, hg, hg1, hg2, -⟩ := rowP_some hrow (by omega)
            subst hg
            have h1 := hao1 (by omega)
            subst h1
            obtain ⟨p, hp⟩ : ∃ p, ps[k]? = some p := ⟨_, List.getElem?_eq_getElem (by omega)⟩
            have cl : wr.cell? ⟨g, k, none⟩ = some (.pointer (some ⟨p, 0, none⟩)) := by
              rw [rowP_cell (rowP_below hrow hbel3) (by omega), List.getD, hp]; rfl
            have hw1 : w.heap.size < w1.heap.size := hE1.lt (by omega)
            obtain ⟨c0, c1, c2, c3, c4⟩ := (((hE1.below hbel2 (fun _ => hw1)).below hbel3 (fun _ => Nat.lt_of_lt_of_le hw1 hbel2.size))) k hlt
            simp only [Nat.zero_add] at c0 c1 c2 c3 c4
            have hob := (hobj.below hbel3).obj k p hp
            have Hob : Hid (wr.heap[p]? = some (errObj (E k))) := hob
            have hplt := lt_of_block hob
            clear hob hp
            go_wp2_with fail
            go_region_with (go_at_call 12; refine (c12 _ p (E k) ?_).mono ?_; (exact Hob.out); rintro e w4 ⟨rfl, hb4⟩)
            all_goals
              go_wp2_with fail
              go_roundw
              case rel => exact ⟨k + 1, by omega, by go_num, hbel3.drew.trans (hb4.mono hbel3.size)⟩
              case measure => simp [intOf]; omega
          · have hkn : n = k := by omega
            subst hkn
            clear hlt
            replace hrow := rowP_below hrow hbel3
            replace hobj := hobj.below hbel3
            rw [← mark_zero E] at hobj
            replace hbel3 : Below w.heap.size w wr := hbel1.trans ((hbel2.mono hbel1.size).trans (hbel3.mono (Nat.le_trans hbel1.size hbel2.size)))
            have hB : w.heap.size ≤ w1.heap.size := hbel1.size
            clear hE1 hbel1 hbel2 hao1
            go_wp2_with fail
            go_loopw [6] (fun i wx => ∃ k : Nat, k ≤ n ∧ i = .int .i64 k ∧ RowP w1.heap.size wx ao2 cap2 ps ∧ Objs w1.heap.size wx ps (markE E k) ∧ Below w.heap.size w wx) (fun i _ => n - (intOf i).toNat)
            case atStart => exact ⟨0, Nat.zero_le _, rfl, hrow, hobj, hbel3⟩
            case round =>
              clear hrow hobj hbel3
              obtain ⟨k, hk, rfl, hrow, hobj, hbel3⟩ := hrel
              by_cases hlt : k < n
              · obtain ⟨g, hg, hg1, hg2, cs, hgc⟩ := rowP_some hrow (by omega)
                subst hg
                obtain ⟨p, hp⟩ : ∃ p, ps[k]? = some p := ⟨_, List.getElem?_eq_getElem (by omega)⟩
                have cl : wr.cell? ⟨g, k, none⟩ = some (.pointer (some ⟨p, 0, none⟩)) := by
                  rw [rowP_cell hrow (by omega), List.getD, hp]; rfl
                have hob := hobj.obj k p hp
                have hm := List.mem_of_getElem? hp
                have hne : p ≠ g := hobj.ne hm hgc (by decide)
                have hge := hobj.ge p hm
                obtain ⟨-, c1, -, -, -⟩ := errObj_cells hob
                have f1 : wr.frozen? ⟨p, 1, none⟩ = false := by simp [World.frozen?, hob, errObj]
                have R := objs_mark hobj hp
                have R2 : RowP w1.heap.size (wr.setCell ⟨p, 1, none⟩ (.int .i64 (k : Int))) (some ⟨g, 0, none⟩) cap2 ps := ownsRow_setCell_other hrow (by simp [Value.ownBlock]; omega) _
                clear hob hp hgc hm hobj hrow
                go_wp2_with fail
                go_roundw
                case rel => exact ⟨k + 1, by omega, by go_num, R2, R, hbel3.setCell (by show _ ≤ p; omega) _⟩
                case measure => simp [intOf]; omega
              · have hkn : n = k := by omega
                subst hkn
                clear hlt
                go_wp2_with fail
                go_loopw [7] (fun i wx => ∃ j : Nat, j ≤ n ∧ i = .int .i64 j ∧ wx = wr) (fun i _ => n - (intOf i).toNat)
                case atStart => exact ⟨0, Nat.zero_le _, rfl, rfl⟩
                case round =>
                  obtain ⟨j, hj, rfl, rfl⟩ := hrel
                  by_cases hlt : j < n
                  · obtain ⟨g, hg, hg1, hg2, cs, hgc⟩ := rowP_some hrow (by omega)
                    subst hg
                    obtain ⟨p, hp⟩ : ∃ p, ps[j]? = some p := ⟨_, List.getElem?_eq_getElem (by omega)⟩
                    have cl : wr.cell? ⟨g, j, none⟩ = some (.pointer (some ⟨p, 0, none⟩)) := by
                      rw [rowP_cell hrow (by omega), List.getD, hp]; rfl
                    obtain ⟨-, c1, -, -, -⟩ := errObj_cells (hobj.obj j p hp)
                    have c2 : wr.cell? ⟨p, 1, none⟩ = some (.int .i64 (j : Int)) := by rw [c1]; simp [markE, hlt]
                    clear c1 hp hgc hobj hrow
                    go_wp2_with fail
                    go_roundw
                    case rel => exact ⟨j + 1, by omega, by go_num, by simp⟩
                    case measure => simp [intOf]; omega
                  · go_wp2_with fail
                    go_ret
                    exact ⟨rfl, hbel3⟩

end Go.Proofs.Yoefgw
