/-
  The proof of one statement of this seat: the shell that the seat gives, its one open place filled.
-/
import Derived.Test.Qxb6617100aRows
import Derived.Test.Qxb6617100aFilled
import Derived.WalkKit
import Derived.ProofKit
import Derived.OpenShut
import Derived.ShutString
namespace Go.Proofs.Qxb6617100a.fnFilledSplitsAtAnyCut
open Go.ChangeShapes Go.WideShapes Go.ChangeAt Go.RowKit
open Go.ChangeMaps (open_string shut_string)
set_option linter.unusedVariables false      -- a walk need not use every 'w<i>' (that an integer argument fits its kind)

theorem own : ownKnob Try.prog.godebug = none := by kernel_rfl

/-! ### THE WALK -/
set_option maxHeartbeats 2000000 in
theorem walk (a0 : Int) (a1 : Int) (a2 : Int) (w0 : (Lit.int .i64 a0).wf = true) (w1 : (Lit.int .i64 a1).wf = true) (w2 : (Lit.int .i32 a2).wf = true) (w : World) :
    Calls Try.prog 3 #[.int .i64 a0, .int .i64 a1, .int .i32 a2] w fun e w' => e = .returned (.bool true) ∧ Below w.heap.size w w' := by
  obtain ⟨a1', a2'⟩ := bounds_i64 w0
  obtain ⟨b1', b2'⟩ := bounds_i64 w1
  by_cases hA : a0 < 0
  · go_enter Try.func3, Try.ntmps3
    go_wp2
    go_ret
    exact ⟨rfl, Below.refl _ _⟩
  by_cases hA2 : 65536 < a0
  · go_enter Try.func3, Try.ntmps3
    go_wp2
    go_ret
    exact ⟨rfl, Below.refl _ _⟩
  by_cases hB : a1 < 0
  · go_enter Try.func3, Try.ntmps3
    go_wp2
    go_ret
    exact ⟨rfl, Below.refl _ _⟩
  by_cases hB2 : 65536 - a0 < a1
  · go_enter Try.func3, Try.ntmps3
    go_wp2
    go_ret
    exact ⟨rfl, Below.refl _ _⟩
  obtain ⟨m, rfl⟩ := Int.eq_ofNat_of_zero_le (Int.not_lt.1 hA)
  obtain ⟨n, rfl⟩ := Int.eq_ofNat_of_zero_le (Int.not_lt.1 hB)
  have hmn : m + n ≤ 65536 := by omega
  clear hA hA2 hB hB2 a1' a2' b1' b2' w0 w1
  go_enter Try.func3, Try.ntmps3
  go_wp2_with fail
  refine (zzfilled_i _ (m + n) (by simp) (by omega) a2 _).mono ?_
  rintro e W1 ⟨rfl, hr1, hb1⟩
  go_wp2_with fail
  refine (zzfilled_any m (by omega) a2 _).mono ?_
  rintro e W2 ⟨rfl, hr2, hb2⟩
  go_wp2_with fail
  refine (zzfilled_any n (by omega) a2 _).mono ?_
  rintro e W3 ⟨rfl, hr3, hb3⟩
  have k1 : W3.rowIs w.heap.size 21 (m + n) (fun _ => .int .i32 a2) :=
    (hr1.of_block (hb2.block _ hr1.lt)).of_block (hb3.block _ (Nat.lt_of_lt_of_le hr1.lt hb2.size))
  have k2 : W3.rowIs W1.heap.size 21 m (fun _ => .int .i32 a2) := hr2.of_block (hb3.block _ hr2.lt)
  have hb : Below w.heap.size w W3 := (hb1.trans (hb2.mono hb1.size)).trans (hb3.mono (Nat.le_trans hb1.size hb2.size))
  clear hr1 hr2 hb1 hb2 hb3
  go_wp2_with fail
  go_loopw [10] (fun i wr => ∃ k : Nat, k ≤ m ∧ i = .int .i64 k ∧ wr.rowIs w.heap.size 21 (m + n) (fun _ => .int .i32 a2) ∧ wr.rowIs W1.heap.size 21 m (fun _ => .int .i32 a2) ∧ wr.rowIs W2.heap.size 21 n (fun _ => .int .i32 a2) ∧ Below w.heap.size w wr) (fun i _ => m - (intOf i).toNat)
  case atStart => exact ⟨0, Nat.zero_le _, rfl, k1, k2, hr3, hb⟩
  case round =>
    obtain ⟨k, hk, rfl, g1, g2, g3, hbr⟩ := hrel
    clear k1 k2 hr3 hb
    by_cases hlt : k < m
    · have c1 : wr.cell? ⟨w.heap.size, k, none⟩ = some (.int .i32 a2) := g1.cell (by omega)
      have c2 : wr.cell? ⟨W1.heap.size, k, none⟩ = some (.int .i32 a2) := g2.cell hlt
      have i1 : (k : Int) < (m : Int) := by omega
      have i2 : (k : Int) < (m : Int) + (n : Int) := by omega
      go_wp2_with fail
      go_quiet (fail)
      go_wp2_with fail
      go_roundw
      case rel => exact ⟨k + 1, by omega, by go_num, g1, g2, g3, hbr.trans ⟨rfl, rfl, rfl, Nat.le_refl _, fun _ _ => rfl⟩⟩
      case measure => simp [intOf]; omega
    · go_wp2_with fail
      go_loopw [11] (fun i ws => ∃ j : Nat, j ≤ n ∧ i = .int .i64 j ∧ ws.rowIs w.heap.size 21 (m + n) (fun _ => .int .i32 a2) ∧ ws.rowIs W1.heap.size 21 m (fun _ => .int .i32 a2) ∧ ws.rowIs W2.heap.size 21 n (fun _ => .int .i32 a2) ∧ Below w.heap.size w ws) (fun i _ => n - (intOf i).toNat)
      case atStart => exact ⟨0, Nat.zero_le _, rfl, g1, g2, g3, hbr⟩
      case round =>
        obtain ⟨j, hj, rfl, q1, q2, q3, hbs⟩ := hrel
        clear g1 g2 g3 hbr
        by_cases hjl : j < n
        · have c1 : wr.cell? ⟨w.heap.size, m + j, none⟩ = some (.int .i32 a2) := q1.cell (by omega)
          have c2 : wr.cell? ⟨W2.heap.size, j, none⟩ = some (.int .i32 a2) := q3.cell hjl
          have i1 : (j : Int) < (n : Int) := by omega
          have i2 : (m : Int) + (j : Int) < (m : Int) + (n : Int) := by omega
          have i3 : IntKind.i64.wrap ((m : Int) + (j : Int)) = (m : Int) + (j : Int) := by rw [IntKind.wrap_i64]; omega
          have i4 : ((m : Int) + (j : Int)).toNat = m + j := by omega
          have i5 : 0 ≤ (m : Int) + (j : Int) := by omega
          go_wp2_with fail
          go_quiet (fail)
          go_wp2_with fail
          go_roundw
          case rel => exact ⟨j + 1, by omega, by go_num, q1, q2, q3, hbs.trans ⟨rfl, rfl, rfl, Nat.le_refl _, fun _ _ => rfl⟩⟩
          case measure => simp [intOf]; omega
        · have c1 : 0 < m → wr.cell? ⟨W1.heap.size, 0, none⟩ = some (.int .i32 a2) := fun h => q2.cell h
          have c2 : 0 < n → wr.cell? ⟨W2.heap.size, 0, none⟩ = some (.int .i32 a2) := fun h => q3.cell h
          clear q1 q2 q3
          by_cases hm0 : 0 < m
          · have d1 := c1 hm0
            clear c1
            have e1 : (0 : Int) < (m : Int) := by omega
            by_cases hn0 : 0 < n
            · have d2 := c2 hn0
              clear c2
              have e2 : (0 : Int) < (n : Int) := by omega
              go_wp2_with fail
              go_ret
              exact ⟨rfl, hbs⟩
            · clear c2
              go_wp2_with fail
              go_ret
              exact ⟨rfl, hbs⟩
          · clear c1
            by_cases hn0 : 0 < n
            · have d2 := c2 hn0
              clear c2
              have e2 : (0 : Int) < (n : Int) := by omega
              go_wp2_with fail
              go_ret
              exact ⟨rfl, hbs⟩
            · clear c2
              go_wp2_with fail
              go_ret
              exact ⟨rfl, hbs⟩

/-! ### THE ROW's STEP -/
set_option maxRecDepth 100000 in
theorem lifted (os : Os) (started : os.Started) (H : Type) (enc : TypeId × Value → H) :
    ReturnsInHanded {} Try.checked os 3 .any (Rows.fnFilledSplitsAtAnyCutSpec.pre6 enc Try.prog Try.f3 Rows.fnFilledSplitsAtAnyCutRow.domain false) (Rows.fnFilledSplitsAtAnyCutSpec.post enc Try.prog Try.f3 false true false false) := by
  refine returnsInHanded_of_change (C := Try.checked) own started (by kernel_rfl) Try.func3
    (ChangeSpec.witness6 (enc := enc) (C := Try.checked) false ⟨#[], #[.int .i64 0, .int .i64 0, .int .i32 0], []⟩ 8 (by kernel_rfl) (by kernel_rfl) (by kernel_rfl) (by kernel_rfl)) ?_
  intro W base args ds gs before hval0 hW hcnd _
  have hval : ∀ (j : Nat) t v, Try.f3.params[j]? = some t → args[j]? = some v → Value.okWide Try.prog W .any base t v := hval0
  have hW' := hW
  obtain ⟨p, q, hA0, hV, rfl, hfz, hnd⟩ := hW
  have hA : DataW.TrodAll enc Try.prog W 0 (fun _ => true) true Try.f3.params.toList args.toList ds p := hA0
  rw [Try.params3] at hA hval
  obtain ⟨v0, vs0, d0, ds0, p0, q0, hargs, rfl, rfl, h0, r0⟩ := trodAll_cons hA
  obtain ⟨v1, vs1, d1, ds1, p1, q1, rfl, rfl, rfl, h1, r1⟩ := trodAll_cons r0
  obtain ⟨v2, vs2, d2, ds2, p2, q2, rfl, rfl, rfl, h2, r2⟩ := trodAll_cons r1
  obtain ⟨rfl, rfl, rfl⟩ := trodAll_nil r2
  obtain rfl : args = #[v0, v1, v2] := by cases args; simp_all
  obtain ⟨rfl, rfl⟩ := trodVars_none hV
  obtain ⟨a0, rfl, rfl, rfl, w0⟩ := open_int Try.underlying3 (hval 0 3 v0 rfl rfl) h0
  obtain ⟨a1, rfl, rfl, rfl, w1⟩ := open_int Try.underlying3 (hval 1 3 v1 rfl rfl) h1
  obtain ⟨a2, rfl, rfl, rfl, w2⟩ := open_int Try.underlying21 (hval 2 21 v2 rfl rfl) h2
  clear hA0 hval0
  simp only [List.append_nil] at hW'
  refine (walk a0 a1 a2 w0 w1 w2 W).mono fun e W' ⟨he, hg⟩ => ?_
  subst he
  exact ⟨_, rfl, _, _, _, [], [], [], hW', (trodAll_cons_mk (shut_bool Try.underlying4 _) trodAll_mk0), (trodAll_cons_mk (shut_int Try.underlying3 w0) (trodAll_cons_mk (shut_int Try.underlying3 w1) (trodAll_cons_mk (shut_int Try.underlying21 w2) trodAll_mk0))), rfl, hg.frame _, fun h => by cases h⟩

theorem over : Rows.fnFilledSplitsAtAnyCutRow.holds Try.pinned (OpenSpec.ofChange Rows.fnFilledSplitsAtAnyCutSpec) :=
  OpenClaim.holds_of_wide 3 Try.f3 rfl rfl rfl rfl rfl rfl rfl ⟨rfl, rfl, rfl, rfl, rfl⟩ rfl rfl rfl rfl rfl (by kernel_rfl) Try.func3 (by kernel_rfl)
    (of_decide_eq_true (by kernel_rfl)) (by unfold Func.isWrapper; first | (rw [if_pos (by decide +kernel)]; kernel_rfl) | (rw [if_neg (by decide +kernel)]; exact ⟨rfl, rfl⟩))
    (fun os started H enc _ => lifted os started H enc)

/-- ████ THE STATEMENT ████ -/
theorem proved : Rows.FnFilledSplitsAtAnyCutSaid :=
  over
#print axioms proved
end Go.Proofs.Qxb6617100a.fnFilledSplitsAtAnyCut
