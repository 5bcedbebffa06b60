/-
  THE WALKS: next, ZZNext, zzUnXorShift (at the three shifts), zzInverseOdd, zzUnmix.
-/
import Derived.Test.Qxb6617100aRows
import Derived.Test.Qxb6617100aPlain
import Derived.WalkKit
import Derived.WalkSpells
namespace Go.Proofs.Qxb6617100a
open Go.RowKit Mix

theorem ret_int {k : IntKind} {a b : Int} (h : a = b) : Ending.returned (.int k a) = .returned (.int k b) := by rw [h]

set_option maxHeartbeats 400000 in
theorem next_any (b : Nat) (s : Int) (w : World) (hs : Word s) (hc : w.cell? ⟨b, 0, none⟩ = some (.int .u64 s)) (hf : w.frozen? ⟨b, 0, none⟩ = false) :
    Calls Try.prog 12 #[.pointer (some ⟨b, 0, none⟩)] w fun e w' => e = .returned (.int .u64 (mixI (stepI s))) ∧ w' = w.setCell ⟨b, 0, none⟩ (.int .u64 (stepI s)) := by
  obtain ⟨h0, h1⟩ := hs
  go_enter Try.func12, Try.ntmps12
  go_wp2
  go_ret
  exact ⟨rfl, rfl⟩

set_option maxHeartbeats 400000 in
theorem zznext_any (s : Int) (w : World) (hs : Word s) :
    Calls Try.prog 8 #[.int .u64 s] w fun e w' => e = .returned (.tuple #[.int .u64 (stepI s), .int .u64 (mixI (stepI s))]) ∧ w' = w.alloc (.cells #[.int .u64 (stepI s)] 35) := by
  go_enter Try.func8, Try.ntmps8
  go_wp2_with (go_at_call 12; refine (next_any _ s _ hs (by simp) (by simp)).mono ?_; rintro e w' ⟨rfl, rfl⟩)
  go_ret2
  exact ⟨rfl, rfl⟩

set_option maxHeartbeats 400000 in
theorem inv_any (c : Int) (w : World) (hc : Word c) :
    Calls Try.prog 14 #[.int .u64 c] w fun e w' => e = .returned (.int .u64 (invI c)) ∧ w' = w := by
  obtain ⟨h0, h1⟩ := hc
  go_enter Try.func14, Try.ntmps14
  go_wp2
  go_loop [3, 4] (fun v i => ∃ k : Nat, k ≤ 6 ∧ i = .int .i64 k ∧ v = .int .u64 (newtN c k)) (fun _ i => 6 - (intOf i).toNat)
  case atStart => exact ⟨0, Nat.zero_le _, rfl, rfl⟩
  case round =>
    obtain ⟨k, hk, rfl, rfl⟩ := hrel
    obtain ⟨n0, n1⟩ := newt_word c ⟨h0, h1⟩ k
    by_cases hlt : k < 6
    · go_wp2
      go_round
      case rel => exact ⟨k + 1, by omega, by go_num, rfl⟩
      case measure => simp [intOf]; omega
    · go_wp2
      go_ret
      obtain rfl : k = 6 := by omega
      exact ⟨rfl, rfl⟩

set_option maxHeartbeats 400000 in
theorem un31_any (y : Int) (w : World) (hy : Word y) :
    Calls Try.prog 13 #[.int .u64 y, .int .u64 31] w fun e w' => e = .returned (.int .u64 (unxsI 2147483648 4611686018427387904 y)) ∧ w' = w := by
  obtain ⟨h0, h1⟩ := hy
  go_enter Try.func13, Try.ntmps13
  go_wp2
  go_loop [5, 6] (fun x sh => (sh = .int .u64 31 ∧ x = .int .u64 y) ∨ (sh = .int .u64 62 ∧ x = .int .u64 (bits .xor .u64 y (y / 2147483648))) ∨ (sh = .int .u64 93 ∧ x = .int .u64 (unxsI 2147483648 4611686018427387904 y))) (fun _ sh => 100 - (intOf sh).toNat)
  case atStart => exact Or.inl ⟨rfl, rfl⟩
  case round =>
    rcases hrel with ⟨rfl, rfl⟩ | ⟨rfl, rfl⟩ | ⟨rfl, rfl⟩
    · go_wp2
      go_round
      case rel => exact Or.inr (Or.inl ⟨rfl, rfl⟩)
      case measure => simp [intOf]
    · go_wp2
      go_round
      case rel => exact Or.inr (Or.inr ⟨rfl, rfl⟩)
      case measure => simp [intOf]
    · go_wp2
      go_ret
      exact ⟨rfl, rfl⟩

set_option maxHeartbeats 400000 in
theorem un27_any (y : Int) (w : World) (hy : Word y) :
    Calls Try.prog 13 #[.int .u64 y, .int .u64 27] w fun e w' => e = .returned (.int .u64 (unxsI 134217728 18014398509481984 y)) ∧ w' = w := by
  obtain ⟨h0, h1⟩ := hy
  go_enter Try.func13, Try.ntmps13
  go_wp2
  go_loop [5, 6] (fun x sh => (sh = .int .u64 27 ∧ x = .int .u64 y) ∨ (sh = .int .u64 54 ∧ x = .int .u64 (bits .xor .u64 y (y / 134217728))) ∨ (sh = .int .u64 81 ∧ x = .int .u64 (unxsI 134217728 18014398509481984 y))) (fun _ sh => 100 - (intOf sh).toNat)
  case atStart => exact Or.inl ⟨rfl, rfl⟩
  case round =>
    rcases hrel with ⟨rfl, rfl⟩ | ⟨rfl, rfl⟩ | ⟨rfl, rfl⟩
    · go_wp2
      go_round
      case rel => exact Or.inr (Or.inl ⟨rfl, rfl⟩)
      case measure => simp [intOf]
    · go_wp2
      go_round
      case rel => exact Or.inr (Or.inr ⟨rfl, rfl⟩)
      case measure => simp [intOf]
    · go_wp2
      go_ret
      exact ⟨rfl, rfl⟩

set_option maxHeartbeats 400000 in
theorem un30_any (y : Int) (w : World) (hy : Word y) :
    Calls Try.prog 13 #[.int .u64 y, .int .u64 30] w fun e w' => e = .returned (.int .u64 (unxsI 1073741824 1152921504606846976 y)) ∧ w' = w := by
  obtain ⟨h0, h1⟩ := hy
  go_enter Try.func13, Try.ntmps13
  go_wp2
  go_loop [5, 6] (fun x sh => (sh = .int .u64 30 ∧ x = .int .u64 y) ∨ (sh = .int .u64 60 ∧ x = .int .u64 (bits .xor .u64 y (y / 1073741824))) ∨ (sh = .int .u64 90 ∧ x = .int .u64 (unxsI 1073741824 1152921504606846976 y))) (fun _ sh => 100 - (intOf sh).toNat)
  case atStart => exact Or.inl ⟨rfl, rfl⟩
  case round =>
    rcases hrel with ⟨rfl, rfl⟩ | ⟨rfl, rfl⟩ | ⟨rfl, rfl⟩
    · go_wp2
      go_round
      case rel => exact Or.inr (Or.inl ⟨rfl, rfl⟩)
      case measure => simp [intOf]
    · go_wp2
      go_round
      case rel => exact Or.inr (Or.inr ⟨rfl, rfl⟩)
      case measure => simp [intOf]
    · go_wp2
      go_ret
      exact ⟨rfl, rfl⟩

set_option maxHeartbeats 400000 in
theorem unmix_any (z : Int) (w : World) (hz : Word z) :
    Calls Try.prog 9 #[.int .u64 z] w fun e w' => e = .returned (.int .u64 (unmixI z)) ∧ w' = w := by
  go_enter Try.func9, Try.ntmps9
  go_wp2_with fail
  refine (un31_any z _ hz).mono ?_
  rintro e w' ⟨rfl, rfl⟩
  go_wp2_with fail
  refine (inv_any 10723151780598845931 _ (by unfold Word; omega)).mono ?_
  rintro e w' ⟨rfl, rfl⟩
  go_wp2_with fail
  refine (un27_any _ _ (wrap_word _)).mono ?_
  rintro e w' ⟨rfl, rfl⟩
  go_wp2_with fail
  refine (inv_any 13787848793156543929 _ (by unfold Word; omega)).mono ?_
  rintro e w' ⟨rfl, rfl⟩
  go_wp2_with fail
  refine (un30_any _ _ (wrap_word _)).mono ?_
  rintro e w' ⟨rfl, rfl⟩
  go_wp2
  go_ret
  exact ⟨rfl, rfl⟩
end Go.Proofs.Qxb6617100a
