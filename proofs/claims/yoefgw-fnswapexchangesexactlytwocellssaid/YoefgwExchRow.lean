/-
  FnSwapExchangesExactlyTwoCells: THE ROW, PROVED.
-/
import Derived.Test.YoefgwExch
import Derived.Test.YoefgwOpen
namespace Go.Proofs.Yoefgw
open Go.ChangeShapes Go.WideShapes Go.ChangeAt Go.RowKit

set_option maxRecDepth 100000 in
theorem lifted5 (os : Os) (started : os.Started) (H : Type) (enc : TypeId × Value → H) :
    ReturnsInHanded {} Efgg.checked os 5 .any (Rows.fnSwapExchangesExactlyTwoCellsSpec.pre6 enc Efgg.prog Efgg.f5 Rows.fnSwapExchangesExactlyTwoCellsRow.domain false) (Rows.fnSwapExchangesExactlyTwoCellsSpec.post enc Efgg.prog Efgg.f5 false true false false) := by
  refine returnsInHanded_of_change_sized (C := Efgg.checked) own started (by kernel_rfl) Efgg.func5
    (ChangeSpec.witness6 (enc := enc) (C := Efgg.checked) false ⟨#[], #[.slice none 0 0, .int .i64 0, .int .i64 0], []⟩ 8 (by kernel_rfl) (by kernel_rfl) (by kernel_rfl) (by kernel_rfl)) ?_
  intro W base args ds gs before hval0 hW _ hsz0 _
  have hsz : (DataW.weightsEach Efgg.prog (Efgg.f5.params.toList ++ Rows.fnSwapExchangesExactlyTwoCellsSpec.plain.varTypes Efgg.prog) (ds ++ gs)).all (· ≤ reachBytes) = true := hsz0
  clear hsz0
  have hval : ∀ (j : Nat) t v, Efgg.f5.params[j]? = some t → args[j]? = some v → Value.okWide Efgg.prog W .any base t v := hval0
  have hW' := hW
  obtain ⟨p, q, hA0, hV, rfl, _, _⟩ := hW
  have hA : DataW.TrodAll enc Efgg.prog W 0 (fun _ => true) true Efgg.f5.params.toList args.toList ds p := hA0
  rw [Efgg.params5] at hA hval hsz
  obtain ⟨v0, v1, v2, d0, d1, d2, p0, p1, p2, rfl, rfl, rfl, h0, h1, h2⟩ := trodAll_three hA
  obtain ⟨rfl, rfl⟩ := trodVars_none hV
  obtain ⟨i, rfl, rfl, rfl, wi⟩ := open_int Efgg.underlying3 (hval 1 3 v1 rfl rfl) h1
  obtain ⟨j, rfl, rfl, rfl, wj⟩ := open_int Efgg.underlying3 (hval 2 3 v2 rfl rfl) h2
  clear hA0 hval0
  simp only [List.append_nil] at hW'
  have hlt : ∀ x ∈ p0, x.block < W.heap.size := fun x hx => by simpa using hW'.lt x hx
  obtain ⟨ao, b, off, n, cap, E, rfl, hnil, hao, hE, hd⟩ := open_entries (hval 0 22 v0 rfl rfl) h0
  have hn : n ≤ 1000000000000000 := by
    rcases hd with rfl | ⟨elems, spare, rfl, hl⟩
    · omega
    · have := sized_slice hsz (j := 0) (t := 22) (e := 33) rfl rfl Efgg.underlying22
      rw [bytes33] at this
      simp only [reachBytes] at this
      omega
  refine (walk5 ao b off n cap i j E W hnil hao hE hn).mono fun e W' ⟨he, hb⟩ => ?_
  subst he
  exact ⟨_, rfl, _, _, _, [], p0 ++ ([] ++ []), [], hW', trodAll_mk1 (shut_bool Efgg.underlying4 true), trodAll_mk3 (Below.trod laidOut (by kernel_rfl) (of_decide_eq_true (by kernel_rfl)) h0 hb hlt) (shut_int Efgg.underlying3 wi) (shut_int Efgg.underlying3 wj), rfl, hb.frame _, fun h => by cases h⟩

/-- THE STATEMENT -/
theorem exchanges_proved : Rows.FnSwapExchangesExactlyTwoCellsSaid :=
  OpenClaim.holds_of_wide 5 Efgg.f5 rfl rfl rfl rfl rfl rfl rfl ⟨rfl, rfl, rfl, rfl, rfl⟩ rfl rfl rfl rfl rfl (by kernel_rfl) Efgg.func5 (by kernel_rfl)
    (of_decide_eq_true (by kernel_rfl)) (by unfold Func.isWrapper; first | (rw [if_pos (by decide +kernel)]; kernel_rfl) | (rw [if_neg (by decide +kernel)]; exact ⟨rfl, rfl⟩))
    (fun os started H enc _ => lifted5 os started H enc)

#print axioms exchanges_proved
end Go.Proofs.Yoefgw
