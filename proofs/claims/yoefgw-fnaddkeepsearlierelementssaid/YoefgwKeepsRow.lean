/-
  FnAddKeepsEarlierElements: THE ROW, PROVED.
-/
import Derived.Test.YoefgwKeeps
import Derived.Test.YoefgwOpen
namespace Go.Proofs.Yoefgw
open Go.ChangeShapes Go.WideShapes Go.ChangeAt Go.RowKit

set_option maxRecDepth 100000 in
theorem lifted4 (os : Os) (started : os.Started) (H : Type) (enc : TypeId × Value → H) :
    ReturnsInHanded {} Efgg.checked os 4 .any (Rows.fnAddKeepsEarlierElementsSpec.pre6 enc Efgg.prog Efgg.f4 Rows.fnAddKeepsEarlierElementsRow.domain false) (Rows.fnAddKeepsEarlierElementsSpec.post enc Efgg.prog Efgg.f4 false true false false) := by
  refine returnsInHanded_of_change_sized (C := Efgg.checked) own started (by kernel_rfl) Efgg.func4
    (ChangeSpec.witness6 (enc := enc) (C := Efgg.checked) false ⟨#[], #[.slice none 0 0, .int .i64 0], []⟩ 8 (by kernel_rfl) (by kernel_rfl) (by kernel_rfl) (by kernel_rfl)) ?_
  intro W base args ds gs before hval0 hW _ hsz0 _
  have hsz : (DataW.weightsEach Efgg.prog (Efgg.f4.params.toList ++ Rows.fnAddKeepsEarlierElementsSpec.plain.varTypes Efgg.prog) (ds ++ gs)).all (· ≤ reachBytes) = true := hsz0
  clear hsz0
  have hval : ∀ (j : Nat) t v, Efgg.f4.params[j]? = some t → args[j]? = some v → Value.okWide Efgg.prog W .any base t v := hval0
  have hW' := hW
  obtain ⟨p, q, hA0, hV, rfl, _, _⟩ := hW
  have hA : DataW.TrodAll enc Efgg.prog W 0 (fun _ => true) true Efgg.f4.params.toList args.toList ds p := hA0
  rw [Efgg.params4] at hA hval hsz
  obtain ⟨v0, v1, d0, d1, p0, p1, rfl, rfl, rfl, h0, h1⟩ := trodAll_two hA
  obtain ⟨rfl, rfl⟩ := trodVars_none hV
  obtain ⟨k, rfl, rfl, rfl, wk⟩ := open_int Efgg.underlying3 (hval 1 3 v1 rfl rfl) h1
  clear hA0 hval0
  simp only [List.append_nil] at hW'
  have hlt : ∀ x ∈ p0, x.block < W.heap.size := fun x hx => by simpa using hW'.lt x hx
  obtain ⟨ao, b, off, n, cap, E, rfl, hnil, hao, hE, hd⟩ := open_entries (hval 0 22 v0 rfl rfl) h0
  have hn : n ≤ 1000000000000000 := by
    rcases hd with rfl | ⟨elems, spare, rfl, hl⟩
    · omega
    · have := sized_slice hsz (j := 0) (t := 22) (e := 33) rfl rfl Efgg.underlying22
      rw [bytes33] at this
      simp only [reachBytes] at this
      omega
  refine (walk4 ao b off n cap k E W hnil hao hE hn).mono fun e W' ⟨he, hb⟩ => ?_
  subst he
  exact ⟨_, rfl, _, _, _, [], p0 ++ [], [], hW', trodAll_mk1 (shut_bool Efgg.underlying4 true), trodAll_mk2 (Below.trod laidOut (by kernel_rfl) (of_decide_eq_true (by kernel_rfl)) h0 hb hlt) (shut_int Efgg.underlying3 wk), rfl, hb.frame _, fun h => by cases h⟩

/-- THE STATEMENT -/
theorem keeps_proved : Rows.FnAddKeepsEarlierElementsSaid :=
  OpenClaim.holds_of_wide 4 Efgg.f4 rfl rfl rfl rfl rfl rfl rfl ⟨rfl, rfl, rfl, rfl, rfl⟩ rfl rfl rfl rfl rfl (by kernel_rfl) Efgg.func4 (by kernel_rfl)
    (of_decide_eq_true (by kernel_rfl)) (by unfold Func.isWrapper; first | (rw [if_pos (by decide +kernel)]; kernel_rfl) | (rw [if_neg (by decide +kernel)]; exact ⟨rfl, rfl⟩))
    (fun os started H enc _ => lifted4 os started H enc)

#print axioms keeps_proved
end Go.Proofs.Yoefgw
