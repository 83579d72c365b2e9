/-
  FnAddBuildsListInOrder: THE ROW, PROVED.
-/
import Derived.Test.YoefgwBuilds
import Derived.Test.YoefgwOpen
namespace Go.Proofs.Yoefgw
open Go.ChangeShapes Go.WideShapes Go.ChangeAt Go.RowKit

set_option maxRecDepth 100000 in
theorem lifted3 (os : Os) (started : os.Started) (H : Type) (enc : TypeId × Value → H) :
    ReturnsInHanded {} Efgg.checked os 3 .any (Rows.fnAddBuildsListInOrderSpec.pre6 enc Efgg.prog Efgg.f3 Rows.fnAddBuildsListInOrderRow.domain false) (Rows.fnAddBuildsListInOrderSpec.post enc Efgg.prog Efgg.f3 false true false false) := by
  refine returnsInHanded_of_change_sized (C := Efgg.checked) own started (by kernel_rfl) Efgg.func3
    (ChangeSpec.witness6 (enc := enc) (C := Efgg.checked) false ⟨#[], #[.slice none 0 0], []⟩ 8 (by kernel_rfl) (by kernel_rfl) (by kernel_rfl) (by kernel_rfl)) ?_
  intro W base args ds gs before hval0 hW _ hsz0 _
  have hsz : (DataW.weightsEach Efgg.prog (Efgg.f3.params.toList ++ Rows.fnAddBuildsListInOrderSpec.plain.varTypes Efgg.prog) (ds ++ gs)).all (· ≤ reachBytes) = true := hsz0
  clear hsz0
  have hval : ∀ (j : Nat) t v, Efgg.f3.params[j]? = some t → args[j]? = some v → Value.okWide Efgg.prog W .any base t v := hval0
  have hW' := hW
  obtain ⟨p, q, hA0, hV, rfl, _, _⟩ := hW
  have hA : DataW.TrodAll enc Efgg.prog W 0 (fun _ => true) true Efgg.f3.params.toList args.toList ds p := hA0
  rw [Efgg.params3] at hA hval hsz
  obtain ⟨v0, d0, rfl, rfl, h0⟩ := trodAll_one hA
  obtain ⟨rfl, rfl⟩ := trodVars_none hV
  clear hA0 hval0
  simp only [List.append_nil] at hW'
  have hlt : ∀ x ∈ p, x.block < W.heap.size := fun x hx => by simpa using hW'.lt x hx
  obtain ⟨ao, b, off, n, cap, E, rfl, hnil, hao, hE, hd⟩ := open_entries (hval 0 22 v0 rfl rfl) h0
  have hn : n ≤ 1000000000000000 := by
    rcases hd with rfl | ⟨elems, spare, rfl, hl⟩
    · omega
    · have := sized_slice hsz (j := 0) (t := 22) (e := 33) rfl rfl Efgg.underlying22
      rw [bytes33] at this
      simp only [reachBytes] at this
      omega
  refine (walk3 ao b off n cap E W hnil hao hE hn).mono fun e W' ⟨he, hb⟩ => ?_
  subst he
  exact ⟨_, rfl, _, _, _, [], p, [], hW', trodAll_mk1 (shut_bool Efgg.underlying4 true), trodAll_mk1 (Below.trod laidOut (by kernel_rfl) (of_decide_eq_true (by kernel_rfl)) h0 hb hlt), rfl, hb.frame _, fun h => by cases h⟩

/-- THE STATEMENT -/
theorem builds_proved : Rows.FnAddBuildsListInOrderSaid :=
  OpenClaim.holds_of_wide 3 Efgg.f3 rfl rfl rfl rfl rfl rfl rfl ⟨rfl, rfl, rfl, rfl, rfl⟩ rfl rfl rfl rfl rfl (by kernel_rfl) Efgg.func3 (by kernel_rfl)
    (of_decide_eq_true (by kernel_rfl)) (by unfold Func.isWrapper; first | (rw [if_pos (by decide +kernel)]; kernel_rfl) | (rw [if_neg (by decide +kernel)]; exact ⟨rfl, rfl⟩))
    (fun os started H enc _ => lifted3 os started H enc)

#print axioms builds_proved
end Go.Proofs.Yoefgw
