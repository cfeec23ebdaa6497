/- The walks of rng.mix, zzs8015cunshift, zzs8015cinv, zzs8015cunmix and the law. -/
import Derived.Test.YbulkfiyuRows
import Derived.Test.YbulkfiyuMath
import Derived.WalkKit
import Derived.WalkSpells
import Derived.WalkLawsBesides
namespace Go.Proofs.Ybulkfiyu
open Go.RowKit

theorem ret_int {k : IntKind} {a b : Int} (h : a = b) : Ending.returned (.int k a) = .returned (.int k b) := by rw [h]

set_option maxHeartbeats 400000 in
theorem mix_any (a : Int) (w : World) :
    Calls Yba.prog 6 #[.int .u64 a] w fun e w' => e = .returned (.int .u64 (mixI a)) ∧ w' = w := by
  go_enter Yba.func6, Yba.ntmps6
  go_wp2
  go_ret
  exact ⟨ret_int rfl, rfl⟩

set_option maxHeartbeats 400000 in
theorem inv_any (c : Int) (w : World) :
    Calls Yba.prog 10 #[.int .u64 c] w fun e w' => e = .returned (.int .u64 (nwt c 5)) ∧ w' = w := by
  go_enter Yba.func10, Yba.ntmps10
  go_wp2
  go_loop [3, 4] (fun v i => ∃ k : Nat, k ≤ 5 ∧ i = .int .i64 k ∧ v = .int .u64 (nwt c k)) (fun _ i => 5 - (intOf i).toNat)
  case atStart => exact ⟨0, by omega, rfl, rfl⟩
  case round =>
    obtain ⟨k, hk, rfl, rfl⟩ := hrel
    by_cases hlt : k < 5
    · go_wp2
      go_round
      case rel => exact ⟨k + 1, by omega, by go_num, rfl⟩
      case measure => simp [intOf]; omega
    · obtain rfl : k = 5 := by omega
      go_wp2
      go_ret
      exact ⟨ret_int rfl, rfl⟩

set_option maxHeartbeats 400000 in
theorem unshift31 (y : Int) (w : World) :
    Calls Yba.prog 9 #[.int .u64 y, .int .u64 31] w fun e w' => e = .returned (.int .u64 (ush 2147483648 4611686018427387904 y)) ∧ w' = w := by
  go_enter Yba.func9, Yba.ntmps9
  go_wp2
  go_loop [5, 6] (fun x t => (x = .int .u64 y ∧ t = .int .u64 31) ∨ (x = .int .u64 (bits .xor .u64 y (y / 2147483648)) ∧ t = .int .u64 62) ∨ (x = .int .u64 (ush 2147483648 4611686018427387904 y) ∧ t = .int .u64 93)) (fun _ t => 100 - (intOf t).toNat)
  case atStart => exact .inl ⟨rfl, rfl⟩
  case round =>
    rcases hrel with ⟨rfl, rfl⟩ | ⟨rfl, rfl⟩ | ⟨rfl, rfl⟩
    · go_wp2
      go_round
      case rel => exact .inr (.inl ⟨rfl, rfl⟩)
      case measure => simp [intOf]
    · go_wp2
      go_round
      case rel => exact .inr (.inr ⟨rfl, rfl⟩)
      case measure => simp [intOf]
    · go_wp2
      go_ret
      exact ⟨rfl, rfl⟩

set_option maxHeartbeats 400000 in
theorem unshift27 (y : Int) (w : World) :
    Calls Yba.prog 9 #[.int .u64 y, .int .u64 27] w fun e w' => e = .returned (.int .u64 (ush 134217728 18014398509481984 y)) ∧ w' = w := by
  go_enter Yba.func9, Yba.ntmps9
  go_wp2
  go_loop [5, 6] (fun x t => (x = .int .u64 y ∧ t = .int .u64 27) ∨ (x = .int .u64 (bits .xor .u64 y (y / 134217728)) ∧ t = .int .u64 54) ∨ (x = .int .u64 (ush 134217728 18014398509481984 y) ∧ t = .int .u64 81)) (fun _ t => 100 - (intOf t).toNat)
  case atStart => exact .inl ⟨rfl, rfl⟩
  case round =>
    rcases hrel with ⟨rfl, rfl⟩ | ⟨rfl, rfl⟩ | ⟨rfl, rfl⟩
    · go_wp2
      go_round
      case rel => exact .inr (.inl ⟨rfl, rfl⟩)
      case measure => simp [intOf]
    · go_wp2
      go_round
      case rel => exact .inr (.inr ⟨rfl, rfl⟩)
      case measure => simp [intOf]
    · go_wp2
      go_ret
      exact ⟨rfl, rfl⟩

set_option maxHeartbeats 400000 in
theorem unshift30 (y : Int) (w : World) :
    Calls Yba.prog 9 #[.int .u64 y, .int .u64 30] w fun e w' => e = .returned (.int .u64 (ush 1073741824 1152921504606846976 y)) ∧ w' = w := by
  go_enter Yba.func9, Yba.ntmps9
  go_wp2
  go_loop [5, 6] (fun x t => (x = .int .u64 y ∧ t = .int .u64 30) ∨ (x = .int .u64 (bits .xor .u64 y (y / 1073741824)) ∧ t = .int .u64 60) ∨ (x = .int .u64 (ush 1073741824 1152921504606846976 y) ∧ t = .int .u64 90)) (fun _ t => 100 - (intOf t).toNat)
  case atStart => exact .inl ⟨rfl, rfl⟩
  case round =>
    rcases hrel with ⟨rfl, rfl⟩ | ⟨rfl, rfl⟩ | ⟨rfl, rfl⟩
    · go_wp2
      go_round
      case rel => exact .inr (.inl ⟨rfl, rfl⟩)
      case measure => simp [intOf]
    · go_wp2
      go_round
      case rel => exact .inr (.inr ⟨rfl, rfl⟩)
      case measure => simp [intOf]
    · go_wp2
      go_ret
      exact ⟨rfl, rfl⟩

set_option maxHeartbeats 400000 in
theorem unmix_any (y : Int) (w : World) :
    Calls Yba.prog 7 #[.int .u64 y] w fun e w' => e = .returned (.int .u64 (unmixI y)) ∧ w' = w := by
  go_enter Yba.func7, Yba.ntmps7
  go_wp2_with fail
  refine (unshift31 _ _).mono ?_
  rintro e w' ⟨rfl, rfl⟩
  go_wp2_with fail
  refine (inv_any _ _).mono ?_
  rintro e w' ⟨rfl, rfl⟩
  go_wp2_with fail
  refine (unshift27 _ _).mono ?_
  rintro e w' ⟨rfl, rfl⟩
  go_wp2_with fail
  refine (inv_any _ _).mono ?_
  rintro e w' ⟨rfl, rfl⟩
  go_wp2_with fail
  refine (unshift30 _ _).mono ?_
  rintro e w' ⟨rfl, rfl⟩
  go_wp2_with fail
  go_ret
  exact ⟨ret_int rfl, rfl⟩

set_option maxHeartbeats 400000 in
theorem law_any (a : Int) (h0 : 0 ≤ a) (h1 : a < 18446744073709551616) (w : World) :
    Calls Yba.prog 4 #[.int .u64 a] w fun e w' => e = .returned (.bool true) ∧ w' = w := by
  have hu := unmix_mix a h0 h1
  go_enter Yba.func4, Yba.ntmps4
  go_wp2_with fail
  refine (mix_any _ _).mono ?_
  rintro e w' ⟨rfl, rfl⟩
  go_wp2_with fail
  refine (unmix_any _ _).mono ?_
  rintro e w' ⟨rfl, rfl⟩
  rw [hu]
  go_wp2_with fail
  refine (mix_any _ _).mono ?_
  rintro e w' ⟨rfl, rfl⟩
  rw [mix_zero]
  go_wp2_with fail
  go_ret
  exact ⟨rfl, rfl⟩
end Go.Proofs.Ybulkfiyu
