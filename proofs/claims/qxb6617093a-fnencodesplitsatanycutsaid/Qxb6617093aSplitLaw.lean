/-
  The proof of one statement of this seat: the shell that the seat gives, its one open place filled.
-/
import Derived.Test.Qxb6617093aRows
import Derived.Test.Qxb6617093aEncode
import Derived.WalkKit
import Derived.ProofKit
import Derived.OpenShut
import Derived.ShutString
namespace Go.Proofs.Qxb6617093a.fnEncodeSplitsAtAnyCut
open Pct
open Go.ChangeShapes Go.WideShapes Go.ChangeAt Go.RowKit
open Go.ChangeMaps (open_string shut_string)
set_option linter.unusedVariables false      -- a walk need not use every 'w<i>' (that an integer argument fits its kind)

theorem own : ownKnob Try.prog.godebug = none := by kernel_rfl

/-! ### THE WALK -/
theorem split_facts (a0 E A B : ByteArray) (k : Nat) (hE : E.data.toList = enc a0.data.toList) (hA : A.data.toList = enc (a0.extract 0 k).data.toList) (hB : B.data.toList = enc (a0.extract k a0.size).data.toList) :
    E.size = A.size + B.size ∧ (E.extract 0 A.size).toList = A.toList ∧ (E.extract A.size E.size).toList = B.toList ∧ E.size = a0.size + 2 * npc a0.data.toList ∧ E.size ≤ 3 * a0.size := by
  rw [Lib.extract_data, List.drop_zero, Nat.sub_zero] at hA
  rw [Lib.extract_to_end] at hB
  have hap : E.data.toList = A.data.toList ++ B.data.toList := by
    rw [hE, hA, hB, ← enc_append, List.take_append_drop]
  have hsum : E.size = A.size + B.size := by
    rw [Lib.size_eq E, Lib.size_eq A, Lib.size_eq B, hap, List.length_append]
  have hlen : E.size = a0.size + 2 * npc a0.data.toList := by
    rw [Lib.size_eq E, hE, enc_length, ← Lib.size_eq a0]
  refine ⟨hsum, ?_, ?_, hlen, ?_⟩
  · rw [Lib.extract_toList, Lib.toList_data, List.drop_zero, Nat.sub_zero, hap, Lib.size_eq A]
    exact List.take_left' rfl
  · rw [Lib.toList_data, Lib.toList_data, Lib.extract_to_end, hap, Lib.size_eq A]
    exact List.drop_left' rfl
  · have := npc_le a0.data.toList
    rw [← Lib.size_eq a0] at this
    omega

set_option maxHeartbeats 1000000 in
theorem walk (a0 : ByteArray) (a1 : Int) (w0 : a0.size ≤ maxLen) (w1 : (Lit.int .i64 a1).wf = true) (w : World) :
    Calls Try.prog 4 #[.string a0, .int .i64 a1] w fun e w' => e = .returned (.bool true) ∧ Below w.heap.size w w' := by
  have hbd := bounds_i64 w1
  by_cases hs : a0.size ≤ 1048576
  · by_cases hneg : a1 < 0
    · go_enter Try.func4, Try.ntmps4
      go_wp2_with (go_at_call 11; refine (bytes4_yes _ _ _ hs).mono ?_; rintro e w' ⟨rfl, rfl⟩)
      go_ret
      exact ⟨rfl, Below.refl _ _⟩
    · by_cases hbig : (a0.size : Int) < a1
      · go_enter Try.func4, Try.ntmps4
        go_wp2_with (go_at_call 11; refine (bytes4_yes _ _ _ hs).mono ?_; rintro e w' ⟨rfl, rfl⟩)
        go_ret
        exact ⟨rfl, Below.refl _ _⟩
      · obtain ⟨k, rfl⟩ := Int.eq_ofNat_of_zero_le (Int.not_lt.1 hneg)
        have hk : k ≤ a0.size := by omega
        clear hneg hbig w1 hbd
        go_enter Try.func4, Try.ntmps4
        go_wp2_with (go_at_call 11; refine (bytes4_yes _ _ _ hs).mono ?_; rintro e w' ⟨rfl, rfl⟩)
        refine (encode_ex a0 _ (by omega)).mono ?_
        rintro e W1 ⟨E, rfl, hE, hb1⟩
        go_wp2_with fail
        refine (encode_ex _ _ (by simp; omega)).mono ?_
        rintro e W2 ⟨A, rfl, hA, hb2⟩
        go_wp2_with fail
        refine (encode_ex _ _ (by simp; omega)).mono ?_
        rintro e W3 ⟨B, rfl, hB, hb3⟩
        obtain ⟨q1, hx1, hx2, q2, q3⟩ := split_facts a0 E A B k hE.out hA.out hB.out
        have hne : ((E.size : Int) != (A.size : Int) + (B.size : Int)) = false := by rw [q1]; simp
        have hfin : ((E.size : Int) == (a0.size : Int) + 2 * (npc a0.data.toList : Int)) = true := by rw [q2]; simp
        have hle : A.size ≤ E.size := by omega
        have hEm : E.size ≤ 4194304 := by omega
        have hBm : B.size ≤ 4194304 := by omega
        have hnm : npc a0.data.toList ≤ 4194304 := by omega
        clear q1 q2 q3
        go_wp2_with fail
        refine (count_any a0 _ w0).mono ?_
        rintro e w' ⟨rfl, rfl⟩
        go_wp2_with fail
        go_ret
        exact ⟨rfl, (hb1.trans (hb2.mono hb1.size)).trans (hb3.mono (Nat.le_trans hb1.size hb2.size))⟩
  · go_enter Try.func4, Try.ntmps4
    go_wp2_with (go_at_call 11; refine (bytes4_no _ _ _ hs).mono ?_; rintro e w' ⟨rfl, rfl⟩)
    go_ret
    exact ⟨rfl, Below.refl _ _⟩

/-! ### THE ROW's STEP -/
set_option maxRecDepth 100000 in
theorem lifted (os : Os) (started : os.Started) (H : Type) (enc : TypeId × Value → H) :
    ReturnsInHanded {} Try.checked os 4 .any (Rows.fnEncodeSplitsAtAnyCutSpec.pre6 enc Try.prog Try.f4 Rows.fnEncodeSplitsAtAnyCutRow.domain false) (Rows.fnEncodeSplitsAtAnyCutSpec.post enc Try.prog Try.f4 false true false false) := by
  refine returnsInHanded_of_change (C := Try.checked) own started (by kernel_rfl) Try.func4
    (ChangeSpec.witness6 (enc := enc) (C := Try.checked) false ⟨#[], #[.string ByteArray.empty, .int .i64 0], []⟩ 8 (by kernel_rfl) (by kernel_rfl) (by kernel_rfl) (by kernel_rfl)) ?_
  intro W base args ds gs before hval0 hW hcnd _
  have hval : ∀ (j : Nat) t v, Try.f4.params[j]? = some t → args[j]? = some v → Value.okWide Try.prog W .any base t v := hval0
  have hW' := hW
  obtain ⟨p, q, hA0, hV, rfl, hfz, hnd⟩ := hW
  have hA : DataW.TrodAll enc Try.prog W 0 (fun _ => true) true Try.f4.params.toList args.toList ds p := hA0
  rw [Try.params4] at hA hval
  obtain ⟨v0, vs0, d0, ds0, p0, q0, hargs, rfl, rfl, h0, r0⟩ := trodAll_cons hA
  obtain ⟨v1, vs1, d1, ds1, p1, q1, rfl, rfl, rfl, h1, r1⟩ := trodAll_cons r0
  obtain ⟨rfl, rfl, rfl⟩ := trodAll_nil r1
  obtain rfl : args = #[v0, v1] := by cases args; simp_all
  obtain ⟨rfl, rfl⟩ := trodVars_none hV
  obtain ⟨a0, rfl, rfl, rfl, w0⟩ := open_string Try.underlying9 (hval 0 9 v0 rfl rfl) h0
  obtain ⟨a1, rfl, rfl, rfl, w1⟩ := open_int Try.underlying3 (hval 1 3 v1 rfl rfl) h1
  clear hA0 hval0
  simp only [List.append_nil] at hW'
  refine (walk a0 a1 w0 w1 W).mono fun e W' ⟨he, hg⟩ => ?_
  subst he
  exact ⟨_, rfl, _, _, _, [], [], [], hW', (trodAll_cons_mk (shut_bool Try.underlying4 _) trodAll_mk0), (trodAll_cons_mk (shut_string Try.underlying9 w0) (trodAll_cons_mk (shut_int Try.underlying3 w1) trodAll_mk0)), rfl, hg.frame _, fun h => by cases h⟩

theorem over : Rows.fnEncodeSplitsAtAnyCutRow.holds Try.pinned (OpenSpec.ofChange Rows.fnEncodeSplitsAtAnyCutSpec) :=
  OpenClaim.holds_of_wide 4 Try.f4 rfl rfl rfl rfl rfl rfl rfl ⟨rfl, rfl, rfl, rfl, rfl⟩ rfl rfl rfl rfl rfl (by kernel_rfl) Try.func4 (by kernel_rfl)
    (of_decide_eq_true (by kernel_rfl)) (by unfold Func.isWrapper; first | (rw [if_pos (by decide +kernel)]; kernel_rfl) | (rw [if_neg (by decide +kernel)]; exact ⟨rfl, rfl⟩))
    (fun os started H enc _ => lifted os started H enc)

/-- ████ THE STATEMENT ████ -/
theorem proved : Rows.FnEncodeSplitsAtAnyCutSaid :=
  over
#print axioms proved
end Go.Proofs.Qxb6617093a.fnEncodeSplitsAtAnyCut
