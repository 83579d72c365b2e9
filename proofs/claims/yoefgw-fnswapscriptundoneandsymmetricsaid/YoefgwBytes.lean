/-
  THE GUARDS: zzBytes_.. (7, 13, 15, 17) and errEntriesBytes (8) return, whatever they answer, and leave the world as it was.
-/
import Derived.Test.YoefgwMem
namespace Go.Proofs.Yoefgw
open Go.RowKit

/-- the call has returned a bool -/
def RetBool (e : Ending) : Prop := ∃ t : Bool, e = .returned (.bool t)

set_option maxHeartbeats 400000 in
theorem c8 (ao : Option Addr) (b off n cap : Nat) (E : Nat → Ent) (w : World) (hao : 0 < n → ao = some ⟨b, off, none⟩) (hE : Ents w b off n E) (hn : n ≤ 1000000000000000) :
    Calls Efgg.prog 8 #[.slice ao n cap] w fun e w' => (∃ t : Int, e = .returned (.int .i64 t)) ∧ w' = w := by
  go_enter Efgg.func8, Efgg.ntmps8
  go_wp2
  go_loop [3, 4] (fun t i => ∃ (k : Nat) (q : Int), k ≤ n ∧ i = .int .i64 k ∧ t = .int .i64 q) (fun _ i => n - (intOf i).toNat)
  case atStart => exact ⟨0, _, Nat.zero_le _, rfl, rfl⟩
  case round =>
    obtain ⟨k, q, hk, rfl, rfl⟩ := hrel
    by_cases hlt : k < n
    · have h1 := hao (by omega)
      subst h1
      obtain ⟨c0, -, -, -, c4⟩ := hE k hlt
      clear hE hao
      go_wp2
      all_goals first
        | (go_ret; exact ⟨⟨_, rfl⟩, rfl⟩)
        | (go_round
           case rel => exact ⟨k + 1, _, by omega, by go_num, rfl⟩
           case measure => simp [intOf]; omega)
    · clear hE hao
      go_wp2
      go_ret
      exact ⟨⟨_, rfl⟩, rfl⟩

set_option maxHeartbeats 400000 in
theorem c7 (ao : Option Addr) (b off n cap : Nat) (E : Nat → Ent) (w : World) (hao : 0 < n → ao = some ⟨b, off, none⟩) (hE : Ents w b off n E) (hn : n ≤ 1000000000000000) :
    Calls Efgg.prog 7 #[.slice ao n cap] w fun e w' => RetBool e ∧ w' = w := by
  go_enter Efgg.func7, Efgg.ntmps7
  go_wp2
  all_goals first
    | (go_ret; exact ⟨⟨_, rfl⟩, rfl⟩)
    | skip
  go_loop [3, 4] (fun t i => ∃ (k : Nat) (q : Int), k ≤ n ∧ i = .int .i64 k ∧ t = .int .i64 q) (fun _ i => n - (intOf i).toNat)
  case atStart => exact ⟨0, _, Nat.zero_le _, rfl, rfl⟩
  case round =>
    obtain ⟨k, q, hk, rfl, rfl⟩ := hrel
    by_cases hlt : k < n
    · have h1 := hao (by omega)
      subst h1
      obtain ⟨c0, -, -, -, c4⟩ := hE k hlt
      clear hE hao
      go_wp2
      all_goals first
        | (go_ret; exact ⟨⟨_, rfl⟩, rfl⟩)
        | (go_round
           case rel => exact ⟨k + 1, _, by omega, by go_num, rfl⟩
           case measure => simp [intOf]; omega)
    · clear hE hao
      go_wp2
      go_ret
      exact ⟨⟨_, rfl⟩, rfl⟩
set_option maxHeartbeats 400000 in
theorem c13 (x : Int) (ao : Option Addr) (b off n cap : Nat) (E : Nat → Ent) (w : World) (hao : 0 < n → ao = some ⟨b, off, none⟩) (hE : Ents w b off n E) (hn : n ≤ 1000000000000000) :
    Calls Efgg.prog 13 #[.slice ao n cap, .int .i64 x] w fun e w' => RetBool e ∧ w' = w := by
  go_enter Efgg.func13, Efgg.ntmps13
  go_wp2
  all_goals first
    | (go_ret; exact ⟨⟨_, rfl⟩, rfl⟩)
    | skip
  go_loop [5, 6] (fun t i => ∃ (k : Nat) (q : Int), k ≤ n ∧ i = .int .i64 k ∧ t = .int .i64 q) (fun _ i => n - (intOf i).toNat)
  case atStart => exact ⟨0, _, Nat.zero_le _, rfl, rfl⟩
  case round =>
    obtain ⟨k, q, hk, rfl, rfl⟩ := hrel
    by_cases hlt : k < n
    · have h1 := hao (by omega)
      subst h1
      obtain ⟨c0, -, -, -, c4⟩ := hE k hlt
      clear hE hao
      go_wp2
      all_goals first
        | (go_ret; exact ⟨⟨_, rfl⟩, rfl⟩)
        | (go_round
           case rel => exact ⟨k + 1, _, by omega, by go_num, rfl⟩
           case measure => simp [intOf]; omega)
    · clear hE hao
      go_wp2
      go_ret
      exact ⟨⟨_, rfl⟩, rfl⟩
set_option maxHeartbeats 400000 in
theorem c15 (x y : Int) (ao : Option Addr) (b off n cap : Nat) (E : Nat → Ent) (w : World) (hao : 0 < n → ao = some ⟨b, off, none⟩) (hE : Ents w b off n E) (hn : n ≤ 1000000000000000) :
    Calls Efgg.prog 15 #[.slice ao n cap, .int .i64 x, .int .i64 y] w fun e w' => RetBool e ∧ w' = w := by
  go_enter Efgg.func15, Efgg.ntmps15
  go_wp2
  all_goals first
    | (go_ret; exact ⟨⟨_, rfl⟩, rfl⟩)
    | skip
  go_loop [7, 8] (fun t i => ∃ (k : Nat) (q : Int), k ≤ n ∧ i = .int .i64 k ∧ t = .int .i64 q) (fun _ i => n - (intOf i).toNat)
  case atStart => exact ⟨0, _, Nat.zero_le _, rfl, rfl⟩
  case round =>
    obtain ⟨k, q, hk, rfl, rfl⟩ := hrel
    by_cases hlt : k < n
    · have h1 := hao (by omega)
      subst h1
      obtain ⟨c0, -, -, -, c4⟩ := hE k hlt
      clear hE hao
      go_wp2
      all_goals first
        | (go_ret; exact ⟨⟨_, rfl⟩, rfl⟩)
        | (go_round
           case rel => exact ⟨k + 1, _, by omega, by go_num, rfl⟩
           case measure => simp [intOf]; omega)
    · clear hE hao
      go_wp2
      go_ret
      exact ⟨⟨_, rfl⟩, rfl⟩
set_option maxHeartbeats 400000 in
theorem c17 (io jo : Option Addr) (ni ci nj cj : Nat) (ao : Option Addr) (b off n cap : Nat) (E : Nat → Ent) (w : World) (hao : 0 < n → ao = some ⟨b, off, none⟩) (hE : Ents w b off n E) (hn : n ≤ 1000000000000000) :
    Calls Efgg.prog 17 #[.slice ao n cap, .slice io ni ci, .slice jo nj cj] w fun e w' => RetBool e ∧ w' = w := by
  go_enter Efgg.func17, Efgg.ntmps17
  go_wp2
  all_goals first
    | (go_ret; exact ⟨⟨_, rfl⟩, rfl⟩)
    | skip
  go_loop [7, 8] (fun t i => ∃ (k : Nat) (q : Int), k ≤ n ∧ i = .int .i64 k ∧ t = .int .i64 q) (fun _ i => n - (intOf i).toNat)
  case atStart => exact ⟨0, _, Nat.zero_le _, rfl, rfl⟩
  case round =>
    obtain ⟨k, q, hk, rfl, rfl⟩ := hrel
    by_cases hlt : k < n
    · have h1 := hao (by omega)
      subst h1
      obtain ⟨c0, -, -, -, c4⟩ := hE k hlt
      clear hE hao
      go_wp2
      all_goals first
        | (go_ret; exact ⟨⟨_, rfl⟩, rfl⟩)
        | (go_round
           case rel => exact ⟨k + 1, _, by omega, by go_num, rfl⟩
           case measure => simp [intOf]; omega)
    · clear hE hao
      go_wp2
      all_goals (go_ret; exact ⟨⟨_, rfl⟩, rfl⟩)
end Go.Proofs.Yoefgw
