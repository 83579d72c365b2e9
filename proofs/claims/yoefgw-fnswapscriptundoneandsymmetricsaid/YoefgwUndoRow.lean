/-
  FnSwapScriptUndoneAndSymmetric: THE ROW, PROVED.
-/
import Derived.Test.YoefgwUndo
import Derived.Test.YoefgwOpen
namespace Go.Proofs.Yoefgw
open Go.ChangeShapes Go.WideShapes Go.ChangeAt Go.RowKit

set_option maxRecDepth 100000 in
theorem lifted6 (os : Os) (started : os.Started) (H : Type) (enc : TypeId × Value → H) :
    ReturnsInHanded {} Efgg.checked os 6 .any (Rows.fnSwapScriptUndoneAndSymmetricSpec.pre6 enc Efgg.prog Efgg.f6 Rows.fnSwapScriptUndoneAndSymmetricRow.domain false) (Rows.fnSwapScriptUndoneAndSymmetricSpec.post enc Efgg.prog Efgg.f6 false true false false) := by
  refine returnsInHanded_of_change_sized (C := Efgg.checked) own started (by kernel_rfl) Efgg.func6
    (ChangeSpec.witness6 (enc := enc) (C := Efgg.checked) false ⟨#[], #[.slice none 0 0, .slice none 0 0, .slice none 0 0], []⟩ 8 (by kernel_rfl) (by kernel_rfl) (by kernel_rfl) (by kernel_rfl)) ?_
  intro W base args ds gs before hval0 hW _ hsz0 _
  have hsz : (DataW.weightsEach Efgg.prog (Efgg.f6.params.toList ++ Rows.fnSwapScriptUndoneAndSymmetricSpec.plain.varTypes Efgg.prog) (ds ++ gs)).all (· ≤ reachBytes) = true := hsz0
  clear hsz0
  have hval : ∀ (j : Nat) t v, Efgg.f6.params[j]? = some t → args[j]? = some v → Value.okWide Efgg.prog W .any base t v := hval0
  have hW' := hW
  obtain ⟨p, q, hA0, hV, rfl, _, _⟩ := hW
  have hA : DataW.TrodAll enc Efgg.prog W 0 (fun _ => true) true Efgg.f6.params.toList args.toList ds p := hA0
  rw [Efgg.params6] at hA hval hsz
  obtain ⟨v0, v1, v2, d0, d1, d2, p0, p1, p2, rfl, rfl, rfl, h0, h1, h2⟩ := trodAll_three hA
  obtain ⟨rfl, rfl⟩ := trodVars_none hV
  clear hA0 hval0
  simp only [List.append_nil] at hW'
  have hlt0 : ∀ x ∈ p0, x.block < W.heap.size := fun x hx => hW'.lt x (by simp [hx])
  have hlt1 : ∀ x ∈ p1, x.block < W.heap.size := fun x hx => hW'.lt x (by simp [hx])
  have hlt2 : ∀ x ∈ p2, x.block < W.heap.size := fun x hx => hW'.lt x (by simp [hx])
  obtain ⟨ao, b, off, n, cap, E, rfl, hnil, hao, hE, hd⟩ := open_entries (hval 0 22 v0 rfl rfl) h0
  obtain ⟨io, bi, oi, ni, ci, Zi, rfl, hnili, hio, hI, -⟩ := open_nums (hval 1 43 v1 rfl rfl) h1
  obtain ⟨jo, bj, oj, nj, cj, Zj, rfl, hnilj, hjo, hJ, -⟩ := open_nums (hval 2 43 v2 rfl rfl) h2
  have hn : n ≤ 1000000000000000 := by
    rcases hd with rfl | ⟨elems, spare, rfl, hl⟩
    · omega
    · have := sized_slice hsz (j := 0) (t := 22) (e := 33) rfl rfl Efgg.underlying22
      rw [bytes33] at this
      simp only [reachBytes] at this
      omega
  refine (walk6 ao io jo b off n cap bi oi ni ci bj oj nj cj E Zi Zj W hnil hao hE hn hnili hio hI hnilj hjo hJ).mono fun e W' ⟨he, hb⟩ => ?_
  subst he
  exact ⟨_, rfl, _, _, _, [], p0 ++ (p1 ++ p2), [], hW', trodAll_mk1 (shut_bool Efgg.underlying4 true), trodAll_mk3 (Below.trod laidOut (by kernel_rfl) (of_decide_eq_true (by kernel_rfl)) h0 hb hlt0) (Below.trod laidOut (by kernel_rfl) (of_decide_eq_true (by kernel_rfl)) h1 hb hlt1) (Below.trod laidOut (by kernel_rfl) (of_decide_eq_true (by kernel_rfl)) h2 hb hlt2), rfl, hb.frame _, fun h => by cases h⟩

/-- THE STATEMENT -/
theorem script_proved : Rows.FnSwapScriptUndoneAndSymmetricSaid :=
  OpenClaim.holds_of_wide 6 Efgg.f6 rfl rfl rfl rfl rfl rfl rfl ⟨rfl, rfl, rfl, rfl, rfl⟩ rfl rfl rfl rfl rfl (by kernel_rfl) Efgg.func6 (by kernel_rfl)
    (of_decide_eq_true (by kernel_rfl)) (by unfold Func.isWrapper; first | (rw [if_pos (by decide +kernel)]; kernel_rfl) | (rw [if_neg (by decide +kernel)]; exact ⟨rfl, rfl⟩))
    (fun os started H enc _ => lifted6 os started H enc)

#print axioms script_proved
end Go.Proofs.Yoefgw
