/-
  THE LEAVES: Plain, zzPlain, digit, ZZdigit, zzUpperASCII, zzLowerASCII: each computes a plain function and turns nothing.
-/
import Derived.Test.Qxb6617093aRows
import Derived.Test.Qxb6617093aPlain
import Derived.WalkKit
import Derived.WalkSpells
namespace Go.Proofs.Qxb6617093a
open Go.RowKit Pct

theorem ret_bool {a b : Bool} (h : a = b) : Ending.returned (.bool a) = .returned (.bool b) := by rw [h]
theorem ret_int {k : IntKind} {a b : Int} (h : a = b) : Ending.returned (.int k a) = .returned (.int k b) := by rw [h]

set_option maxHeartbeats 400000 in
theorem plain_any (c : Int) (w : World) :
    Calls Try.prog 19 #[.int .u8 c] w fun e w' => e = .returned (.bool (plainI c)) ∧ w' = w := by
  go_enter Try.func19, Try.ntmps19
  go_wp2
  all_goals
    go_ret
    refine ⟨ret_bool ?_, rfl⟩
    first
    | rfl
    | (rw [Bool.eq_iff_iff, plainI_iff]; simp; omega)

set_option maxHeartbeats 400000 in
theorem zzplain_any (c : Int) (w : World) :
    Calls Try.prog 17 #[.int .u8 c] w fun e w' => e = .returned (.bool (plainI c)) ∧ w' = w := by
  go_enter Try.func17, Try.ntmps17
  go_wp2
  all_goals
    go_ret
    refine ⟨ret_bool ?_, rfl⟩
    first
    | rfl
    | (rw [Bool.eq_iff_iff, plainI_iff]; simp; omega)

set_option maxHeartbeats 400000 in
theorem digit_any (c : Int) (w : World) (h0 : 0 ≤ c) (h1 : c ≤ 255) :
    Calls Try.prog 24 #[.int .u8 c] w fun e w' => e = .returned (.int .i64 (digI c)) ∧ w' = w := by
  go_enter Try.func24, Try.ntmps24
  go_wp2
  all_goals
    go_ret
    refine ⟨ret_int ?_, rfl⟩
    unfold digI
    split <;> (try split) <;> (try split) <;> omega

set_option maxHeartbeats 400000 in
theorem zzdigit_any (c : Int) (w : World) (h0 : 0 ≤ c) (h1 : c ≤ 255) :
    Calls Try.prog 16 #[.int .u8 c] w fun e w' => e = .returned (.int .i64 (digI c)) ∧ w' = w := by
  go_enter Try.func16, Try.ntmps16
  go_wp2_with (go_at_call 24; refine (digit_any _ _ h0 h1).mono ?_; rintro e w' ⟨rfl, rfl⟩)
  go_ret
  exact ⟨rfl, rfl⟩

set_option maxHeartbeats 400000 in
theorem zzupper_any (c : Int) (w : World) (h0 : 0 ≤ c) (h1 : c ≤ 255) :
    Calls Try.prog 14 #[.int .u8 c] w fun e w' => e = .returned (.int .u8 (upI c)) ∧ w' = w := by
  go_enter Try.func14, Try.ntmps14
  go_wp2
  all_goals
    go_ret
    refine ⟨ret_int ?_, rfl⟩
    unfold upI
    split <;> omega

set_option maxHeartbeats 400000 in
theorem zzlower_any (c : Int) (w : World) (h0 : 0 ≤ c) (h1 : c ≤ 255) :
    Calls Try.prog 18 #[.int .u8 c] w fun e w' => e = .returned (.int .u8 (loI c)) ∧ w' = w := by
  go_enter Try.func18, Try.ntmps18
  go_wp2
  all_goals
    go_ret
    refine ⟨ret_int ?_, rfl⟩
    unfold loI
    split <;> omega

end Go.Proofs.Qxb6617093a
