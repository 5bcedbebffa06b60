/-
  THE WALKS: degree, ZZDegree; and the plain law on the degree.
-/
import Derived.Test.Qxb6617100aNext
import Derived.Deep.QuietTactic
import Derived.BigQuiet
namespace Go.Proofs.Qxb6617100a
open Go.RowKit Mix

/-- The reckoning of degree, out of a draw. -/
def degQ (x : Int) : Int := IntKind.u64.wrap (129 * IntKind.u64.wrap (4294967296 - x / 4294967296))
def degD (x : Int) : Int := IntKind.u64.wrap (IntKind.u64.wrap (Int.tdiv 549755813888 (degQ x)) + 1)

theorem degQ_eq (x : Int) (h : Word x) : degQ x = 129 * (4294967296 - x / 4294967296) := by
  obtain ⟨h0, h1⟩ := h
  unfold degQ
  rw [IntKind.wrap_u64, IntKind.wrap_u64]
  omega

theorem degQ_ne (x : Int) (h : Word x) : ¬ degQ x = 0 := by
  rw [degQ_eq x h]
  obtain ⟨h0, h1⟩ := h
  omega

def degI (x : Int) : Int := if 129 < degD x then 129 else degD x

theorem degD_word (x : Int) : Word (degD x) := wrap_word _

theorem degI_hi (x : Int) (h : 129 < degD x) : wrap64 129 = degI x := by
  unfold degI; rw [if_pos h]; unfold wrap64; omega

theorem degI_lo (x : Int) (h : ¬ 129 < degD x) : wrap64 (degD x) = degI x := by
  unfold degI; rw [if_neg h]
  have := degD_word x
  unfold Word at this
  unfold wrap64
  omega

set_option maxHeartbeats 400000 in
theorem degree_any (b : Nat) (s : Int) (w : World) (hs : Word s) (hc : w.cell? ⟨b, 0, none⟩ = some (.int .u64 s)) (hf : w.frozen? ⟨b, 0, none⟩ = false) :
    Calls Try.prog 15 #[.pointer (some ⟨b, 0, none⟩)] w fun e w' => e = .returned (.int .i64 (degI (mixI (stepI s)))) ∧ w' = w.setCell ⟨b, 0, none⟩ (.int .u64 (stepI s)) := by
  have hne : ¬ IntKind.u64.wrap (129 * IntKind.u64.wrap (4294967296 - mixI (stepI s) / 4294967296)) = 0 := degQ_ne _ (mix_word _)
  go_enter Try.func15, Try.ntmps15
  go_wp2_with fail
  refine (next_any b s _ hs hc hf).mono ?_
  rintro e w' ⟨rfl, rfl⟩
  go_wp2
  all_goals
    go_ret
    refine ⟨ret_int ?_, rfl⟩
    first
    | exact degI_hi _ (by assumption)
    | exact degI_lo _ (by assumption)
    | exact degI_lo _ (Int.not_lt.2 (by assumption))

set_option maxHeartbeats 400000 in
theorem zzdegree_any (s : Int) (w : World) (hs : Word s) :
    Calls Try.prog 10 #[.int .u64 s] w fun e w' => e = .returned (.tuple #[.int .i64 (degI (mixI (stepI s))), .int .u64 (stepI s)]) ∧ ∃ n, w' = (w.alloc (.cells #[.int .u64 (stepI s)] 35)).drewN n := by
  go_enter Try.func10, Try.ntmps10
  go_wp2_with (go_at_call 15; refine (degree_any _ s _ hs (by simp) (by simp)).mono ?_; rintro e w' ⟨rfl, rfl⟩)
  go_quiet (fail)
  go_wp2
  go_ret2
  exact ⟨rfl, _, rfl⟩

/-! ### The plain law -/
theorem degD_eq (x : Int) (h : Word x) : degD x = 549755813888 / (129 * (4294967296 - x / 4294967296)) + 1 := by
  unfold degD
  rw [degQ_eq x h]
  obtain ⟨h0, h1⟩ := h
  have hr : 1 ≤ 4294967296 - x / 4294967296 := by omega
  generalize 4294967296 - x / 4294967296 = r at hr
  rw [Int.tdiv_eq_ediv_of_nonneg (by omega), IntKind.wrap_u64, IntKind.wrap_u64]
  have hlo := Int.ediv_nonneg (a := 549755813888) (b := 129 * r) (by omega) (by omega)
  have hhi : 549755813888 / (129 * r) ≤ 549755813888 := Int.ediv_le_self _ (by omega)
  generalize 549755813888 / (129 * r) = q at hlo hhi
  omega

/-- r: 2^32 less the draw's high half. -/
theorem deg_law (x : Int) (h : Word x) (r : Int) (hr : r = 4294967296 - x / 4294967296) :
    1 ≤ r ∧ r ≤ 4294967296 ∧ 1 ≤ degI x ∧ degI x ≤ 129 ∧ (degI x = 129 → 16512 * r ≤ 549755813888) ∧ (¬ degI x = 129 → 549755813888 < degI x * 129 * r ∧ (degI x - 1) * 129 * r ≤ 549755813888) := by
  have hd := degD_eq x h
  rw [← hr] at hd
  obtain ⟨h0, h1⟩ := h
  have hr1 : 1 ≤ r := by omega
  have hr2 : r ≤ 4294967296 := by omega
  have e1 := Int.mul_ediv_self_le (x := 549755813888) (k := 129 * r) (by omega)
  have e2 := Int.lt_mul_ediv_self_add (x := 549755813888) (k := 129 * r) (by omega)
  have hq : 549755813888 / (129 * r) = degD x - 1 := by omega
  rw [hq] at e1 e2
  have e3 : (degD x - 1) * 129 * r = 129 * r * (degD x - 1) := by
    rw [Int.mul_assoc, Int.mul_comm]
  have e4 : degD x * 129 * r = 129 * r * (degD x - 1) + 129 * r := by
    rw [Int.mul_assoc, Int.mul_comm, Int.mul_sub]; omega
  have hpos : 1 ≤ degD x := by
    have := Int.ediv_nonneg (a := 549755813888) (b := 129 * r) (by omega) (by omega)
    omega
  unfold degI
  split
  · rename_i hgt
    refine ⟨hr1, hr2, by omega, by omega, fun _ => ?_, fun hn => absurd rfl hn⟩
    have : 129 * r * 128 ≤ 129 * r * (degD x - 1) := Int.mul_le_mul_of_nonneg_left (by omega) (by omega)
    omega
  · rename_i hle
    refine ⟨hr1, hr2, hpos, by omega, fun he => ?_, fun _ => ⟨by omega, by omega⟩⟩
    rw [he] at e1
    omega

end Go.Proofs.Qxb6617100a
