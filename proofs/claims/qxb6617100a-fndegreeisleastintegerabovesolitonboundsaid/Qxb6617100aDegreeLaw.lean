/-
  The proof of one statement of this seat: the shell that the seat gives, its one open place filled.
-/
import Derived.Test.Qxb6617100aRows
import Derived.Test.Qxb6617100aDegree
import Derived.WalkKit
import Derived.ProofKit
import Derived.OpenShut
import Derived.ShutString
namespace Go.Proofs.Qxb6617100a.fnDegreeIsLeastIntegerAboveSolitonBound
open Mix
open Go.ChangeShapes Go.WideShapes Go.ChangeAt Go.RowKit
open Go.ChangeMaps (open_string shut_string)
set_option linter.unusedVariables false      -- a walk need not use every 'w<i>' (that an integer argument fits its kind)

theorem own : ownKnob Try.prog.godebug = none := by kernel_rfl

/-! ### THE WALK -/
theorem grown_drewN {W w' : World} (h : Grown W w') (n : Nat) : Grown W (w'.drewN n) := h

theorem prod_bd (d r : Int) (d1 : 1 ≤ d) (d2 : d ≤ 129) (r1 : 1 ≤ r) (r2 : r ≤ 4294967296) : 0 ≤ d * 129 * r ∧ d * 129 * r ≤ 16641 * 4294967296 :=
  ⟨Int.mul_nonneg (by omega) (by omega), Int.mul_le_mul (by omega) r2 (by omega) (by omega)⟩

theorem prod_bd0 (d r : Int) (d1 : 1 ≤ d) (r1 : 1 ≤ r) : 0 ≤ (d - 1) * 129 * r := Int.mul_nonneg (by omega) (by omega)

set_option maxHeartbeats 1000000 in
theorem walk (a0 : Int) (w0 : (Lit.int .u64 a0).wf = true) (w : World) :
    Calls Try.prog 6 #[.int .u64 a0] w fun e w' => e = .returned (.bool true) ∧ Grown w w' := by
  have hs : Word a0 := by
    have := bounds_u64 w0
    unfold Word; omega
  obtain ⟨r, hr⟩ : ∃ r, IntKind.u64.wrap (4294967296 - mixI (stepI a0) / 4294967296) = r := ⟨_, rfl⟩
  obtain ⟨d, hd⟩ : ∃ d, degI (mixI (stepI a0)) = d := ⟨_, rfl⟩
  obtain ⟨r1, r2, d1, d2, hyes, hno⟩ := deg_law (mixI (stepI a0)) (mix_word _) r (by
    rw [← hr, IntKind.wrap_u64]
    obtain ⟨m0, m1⟩ := mix_word (stepI a0)
    omega)
  rw [hd] at d1 d2 hyes hno
  by_cases h129 : d = 129
  · have hle := hyes h129
    clear hyes hno
    have e1 : IntKind.u64.wrap (16512 * r) = 16512 * r := by rw [IntKind.wrap_u64]; omega
    subst h129
    go_enter Try.func6, Try.ntmps6
    go_wp2_with fail
    refine (zznext_any a0 _ hs).mono ?_
    rintro e w' ⟨rfl, rfl⟩
    go_wp2_with fail
    refine (zzdegree_any a0 _ hs).mono ?_
    rintro e w' ⟨rfl, n, rfl⟩
    go_wp2_with fail
    go_ret
    exact ⟨rfl, grown_drewN (by repeat (first | exact Grown.refl _ | apply Grown.drew | apply Grown.alloc)) n⟩
  · obtain ⟨hgt, hle⟩ := hno h129
    clear hyes hno
    have p1 := prod_bd d r d1 d2 r1 r2
    have f1 : 549755813888 < IntKind.u64.wrap (d * 129 * r) := by rw [IntKind.wrap_u64]; omega
    have f2 : decide (IntKind.u64.wrap ((d - 1) * 129 * r) ≤ 549755813888) = true := by
      have p2 := prod_bd0 d r d1 r1
      rw [IntKind.wrap_u64, decide_eq_true_eq]
      omega
    clear p1 hgt hle
    go_enter Try.func6, Try.ntmps6
    go_wp2_with fail
    refine (zznext_any a0 _ hs).mono ?_
    rintro e w' ⟨rfl, rfl⟩
    go_wp2_with fail
    refine (zzdegree_any a0 _ hs).mono ?_
    rintro e w' ⟨rfl, n, rfl⟩
    go_wp2_with fail
    go_ret
    exact ⟨rfl, grown_drewN (by repeat (first | exact Grown.refl _ | apply Grown.drew | apply Grown.alloc)) n⟩

/-! ### THE ROW's STEP -/
set_option maxRecDepth 100000 in
theorem lifted (os : Os) (started : os.Started) (H : Type) (enc : TypeId × Value → H) :
    ReturnsInHanded {} Try.checked os 6 .any (Rows.fnDegreeIsLeastIntegerAboveSolitonBoundSpec.pre6 enc Try.prog Try.f6 Rows.fnDegreeIsLeastIntegerAboveSolitonBoundRow.domain false) (Rows.fnDegreeIsLeastIntegerAboveSolitonBoundSpec.post enc Try.prog Try.f6 false true false false) := by
  refine returnsInHanded_of_change (C := Try.checked) own started (by kernel_rfl) Try.func6
    (ChangeSpec.witness6 (enc := enc) (C := Try.checked) false ⟨#[], #[.int .u64 0], []⟩ 8 (by kernel_rfl) (by kernel_rfl) (by kernel_rfl) (by kernel_rfl)) ?_
  intro W base args ds gs before hval0 hW hcnd _
  have hval : ∀ (j : Nat) t v, Try.f6.params[j]? = some t → args[j]? = some v → Value.okWide Try.prog W .any base t v := hval0
  have hW' := hW
  obtain ⟨p, q, hA0, hV, rfl, hfz, hnd⟩ := hW
  have hA : DataW.TrodAll enc Try.prog W 0 (fun _ => true) true Try.f6.params.toList args.toList ds p := hA0
  rw [Try.params6] at hA hval
  obtain ⟨v0, vs0, d0, ds0, p0, q0, hargs, rfl, rfl, h0, r0⟩ := trodAll_cons hA
  obtain ⟨rfl, rfl, rfl⟩ := trodAll_nil r0
  obtain rfl : args = #[v0] := by cases args; simp_all
  obtain ⟨rfl, rfl⟩ := trodVars_none hV
  obtain ⟨a0, rfl, rfl, rfl, w0⟩ := open_int Try.underlying25 (hval 0 25 v0 rfl rfl) h0
  clear hA0 hval0
  simp only [List.append_nil] at hW'
  refine (walk a0 w0 W).mono fun e W' ⟨he, hg⟩ => ?_
  subst he
  exact ⟨_, rfl, post_of_same (pa := []) (pv := []) hW' (fun _ _ _ => (trodAll_cons_mk (shut_bool Try.underlying4 _) trodAll_mk0)) (fun sp _ => (trodAll_cons_mk (shut_int Try.underlying25 w0) trodAll_mk0)) (fun _ _ => rfl) rfl
    (hg.frame _) hg.2.1 (ok_one (by kernel_rfl) rfl (okWide_bool_mk Try.underlying4 _))⟩

theorem over : Rows.fnDegreeIsLeastIntegerAboveSolitonBoundRow.holds Try.pinned (OpenSpec.ofChange Rows.fnDegreeIsLeastIntegerAboveSolitonBoundSpec) :=
  OpenClaim.holds_of_wide 6 Try.f6 rfl rfl rfl rfl rfl rfl rfl ⟨rfl, rfl, rfl, rfl, rfl⟩ rfl rfl rfl rfl rfl (by kernel_rfl) Try.func6 (by kernel_rfl)
    (of_decide_eq_true (by kernel_rfl)) (by unfold Func.isWrapper; first | (rw [if_pos (by decide +kernel)]; kernel_rfl) | (rw [if_neg (by decide +kernel)]; exact ⟨rfl, rfl⟩))
    (fun os started H enc _ => lifted os started H enc)

/-- ████ THE STATEMENT ████ -/
theorem proved : Rows.FnDegreeIsLeastIntegerAboveSolitonBoundSaid :=
  over
#print axioms proved
end Go.Proofs.Qxb6617100a.fnDegreeIsLeastIntegerAboveSolitonBound
