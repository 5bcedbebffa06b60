/-
  The proof of one statement of this seat: the shell that the seat gives, its one open place filled.
-/
import Derived.Test.Qxb6617093aRows
import Derived.Test.Qxb6617093aEncode
import Derived.WalkKit
import Derived.ProofKit
import Derived.OpenShut
import Derived.ShutString
namespace Go.Proofs.Qxb6617093a.fnEncodeIsCanonicalWrittenForm
open Pct
open Go.ChangeShapes Go.WideShapes Go.ChangeAt Go.RowKit
open Go.ChangeMaps (open_string shut_string)
set_option linter.unusedVariables false      -- a walk need not use every 'w<i>' (that an integer argument fits its kind)

theorem own : ownKnob Try.prog.godebug = none := by kernel_rfl

/-! ### THE WALK -/
theorem bget {s : ByteArray} {i : Nat} {c : UInt8} (he : s.data.toList[i]? = some c) (h : i < s.size) : (s[i]'h).toNat = c.toNat := by
  have e : s[i]'h = s.data.toList[i]'(by simpa using h) := rfl
  rw [e]
  rw [List.getElem?_eq_getElem (by simpa using h)] at he
  simp only [Option.some.injEq] at he
  rw [he]

theorem enc_take_ge (l : List UInt8) (j : Nat) (hj : j < l.length) : enc l = enc (l.take j) ++ (encB l[j] ++ enc (l.drop (j + 1))) := by
  rw [← enc_cons, ← enc_append]
  congr 1
  rw [← List.drop_eq_getElem_cons hj, List.take_append_drop]

theorem enc_take_succ (l : List UInt8) (j : Nat) (hj : j < l.length) : enc (l.take (j + 1)) = enc (l.take j) ++ encB l[j] := by
  rw [List.take_succ_eq_append_getElem hj, enc_append]
  simp [enc]

/-- One round of the reading: at the place that the first j bytes of s take up in the written form. -/
theorem canon_round (s E : ByteArray) (hE : E.data.toList = enc s.data.toList) (j f : Nat) (hj : j < s.size) (hf : f = (enc (s.data.toList.take j)).length) :
    (plainI s[j].toNat = true → f < E.size ∧ (∀ h : f < E.size, (E[f]'h).toNat = s[j].toNat) ∧ f + 1 = (enc (s.data.toList.take (j + 1))).length) ∧
    (plainI s[j].toNat = false → f + 3 ≤ E.size ∧ (∀ h : f < E.size, (E[f]'h).toNat = 37) ∧ (∀ h : f + 1 < E.size, (E[f + 1]'h).toNat = hexN (s[j].toNat / 16)) ∧ (∀ h : f + 2 < E.size, (E[f + 2]'h).toNat = hexN (s[j].toNat % 16)) ∧ f + 3 = (enc (s.data.toList.take (j + 1))).length) := by
  have hjl : j < s.data.toList.length := by simpa using hj
  have hc : s[j] = s.data.toList[j] := rfl
  have hs1 := enc_take_ge s.data.toList j hjl
  have hs2 := enc_take_succ s.data.toList j hjl
  rw [← hc] at hs1 hs2
  rw [← hE] at hs1
  have hsz : E.size = f + ((encB s[j]).length + (enc (s.data.toList.drop (j + 1))).length) := by
    rw [Lib.size_eq E, hs1, List.length_append, List.length_append, ← hf]
  have hget : ∀ t, t < (encB s[j]).length → E.data.toList[f + t]? = (encB s[j])[t]? := by
    intro t ht
    rw [hs1, List.getElem?_append_right (by omega), ← hf, Nat.add_sub_cancel_left, List.getElem?_append_left ht]
  have hl2 : (enc (s.data.toList.take (j + 1))).length = f + (encB s[j]).length := by
    rw [hs2, List.length_append, ← hf]
  have h256 : s[j].toNat < 256 := UInt8.toNat_lt _
  constructor
  · intro hp
    have he1 : encB s[j] = [s[j]] := by simp [encB, hp]
    rw [he1] at hsz hget hl2
    simp only [List.length_cons, List.length_nil] at hsz hget hl2
    have g0 : E.data.toList[f]? = some s[j] := hget 0 (by omega)
    exact ⟨by omega, fun h => bget g0 h, by omega⟩
  · intro hp
    have he1 : encB s[j] = [37, hexU (s[j].toNat / 16), hexU (s[j].toNat % 16)] := by simp [encB, hp]
    rw [he1] at hsz hget hl2
    simp only [List.length_cons, List.length_nil] at hsz hget hl2
    have g0 : E.data.toList[f]? = some 37 := hget 0 (by omega)
    have g1 : E.data.toList[f + 1]? = some (hexU (s[j].toNat / 16)) := hget 1 (by omega)
    have g2 : E.data.toList[f + 2]? = some (hexU (s[j].toNat % 16)) := hget 2 (by omega)
    refine ⟨by omega, fun h => bget (c := 37) g0 h, fun h => ?_, fun h => ?_, by omega⟩
    · rw [bget g1 h, hexU_toNat _ (by omega)]
    · rw [bget g2 h, hexU_toNat _ (by omega)]

set_option maxHeartbeats 2000000 in
theorem reads_any (s E : ByteArray) (hE : Hid (E.data.toList = enc s.data.toList)) (hs : s.size ≤ 4194304) (w : World) :
    Calls Try.prog 10 #[.string E, .string s] w fun e w' => e = .returned (.bool true) ∧ w' = w := by
  have hEm : E.size ≤ 16777216 := by
    have h1 := enc_length_le s.data.toList
    rw [← hE.out, ← Lib.size_eq, ← Lib.size_eq] at h1
    omega
  go_enter Try.func10, Try.ntmps10
  go_wp2
  go_loop [5, 6] (fun iv jv => ∃ j f : Nat, j ≤ s.size ∧ jv = .int .i64 j ∧ iv = .int .i64 f ∧ f ≤ E.size ∧ Hid (f = (enc (s.data.toList.take j)).length)) (fun _ jv => s.size - (intOf jv).toNat)
  case atStart => exact ⟨0, 0, Nat.zero_le _, rfl, rfl, Nat.zero_le _, rfl⟩
  case round =>
    obtain ⟨j, f, hj, rfl, rfl, hfe, hf⟩ := hrel
    by_cases hlt : j < s.size
    · obtain ⟨r1, r2⟩ := canon_round s E hE.out j f hlt hf.out
      have h256 : s[j].toNat < 256 := UInt8.toNat_lt _
      cases hp : plainI s[j].toNat
      · obtain ⟨g1, g2, g3, g4, g5⟩ := r2 hp
        clear r1 r2
        have G5 : Hid (f + 3 = (enc (s.data.toList.take (j + 1))).length) := g5
        clear g5
        have e0 := g2 (by omega)
        have e1 := g3 (by omega)
        have e2 := g4 (by omega)
        clear g2 g3 g4
        have hsum : (s[j].toNat : Int) / 16 * 16 + (s[j].toNat : Int) % 16 = (s[j].toNat : Int) := by omega
        go_wp2_with fail
        refine (hexval_any (s[j].toNat / 16) (by omega) _).mono ?_
        rintro e w1 ⟨rfl, hw⟩
        have hw' := hw.symm
        clear hw
        subst hw'
        go_wp2_with fail
        refine (hexval_any (s[j].toNat % 16) (by omega) _).mono ?_
        rintro e w1 ⟨rfl, hw⟩
        have hw' := hw.symm
        clear hw
        subst hw'
        go_wp2_with fail
        refine (zzplain_any _ _).mono ?_
        rintro e w1 ⟨rfl, hw⟩
        have hw' := hw.symm
        clear hw
        subst hw'
        go_wp2_with fail
        go_round
        case rel => exact ⟨j + 1, f + 3, by omega, by go_num, by go_num, by omega, G5.out⟩
        case measure => simp [intOf]; omega
      · obtain ⟨g1, g2, g5⟩ := r1 hp
        clear r1 r2
        have G5 : Hid (f + 1 = (enc (s.data.toList.take (j + 1))).length) := g5
        clear g5
        have e0 := g2 (by omega)
        clear g2
        have hn37 : ¬ s[j].toNat = 37 := by
          intro h
          rw [h] at hp
          exact absurd hp (by decide)
        go_wp2_with (go_at_call 17; refine (zzplain_any _ _).mono ?_; rintro e w' ⟨rfl, rfl⟩)
        go_round
        case rel => exact ⟨j + 1, f + 1, by omega, by go_num, by go_num, by omega, G5.out⟩
        case measure => simp [intOf]; omega
    · have hend : f = E.size := by
        rw [hf.out, List.take_of_length_le (by simp; omega), Lib.size_eq E, hE.out]
      have hje : j = s.size := by omega
      subst hend hje
      go_wp2_with fail
      go_ret
      exact ⟨rfl, rfl⟩

set_option maxHeartbeats 1000000 in
theorem walk (a0 : ByteArray) (w0 : a0.size ≤ maxLen) (w : World) :
    Calls Try.prog 3 #[.string a0] w fun e w' => e = .returned (.bool true) ∧ Below w.heap.size w w' := by
  by_cases hs : a0.size ≤ 1048576
  · go_enter Try.func3, Try.ntmps3
    go_wp2_with fail
    refine (bytes3_yes _ w hs).mono ?_
    rintro e w1 ⟨rfl, hw⟩
    have hw' := hw.symm
    clear hw
    subst hw'
    go_wp2_with fail
    refine (encode_ex a0 _ (by omega)).mono ?_
    rintro e W1 ⟨E, rfl, hE, hb1⟩
    go_wp2_with fail
    refine (reads_any a0 E hE (by omega) _).mono ?_
    rintro e w1 ⟨rfl, hw⟩
    have hw' := hw.symm
    clear hw
    subst hw'
    go_wp2
    go_ret
    exact ⟨rfl, hb1⟩
  · go_enter Try.func3, Try.ntmps3
    go_wp2_with (go_at_call 8; refine (bytes3_no _ _ hs).mono ?_; rintro e w' ⟨rfl, rfl⟩)
    go_ret
    exact ⟨rfl, Below.refl _ _⟩

/-! ### THE ROW's STEP -/
set_option maxRecDepth 100000 in
theorem lifted (os : Os) (started : os.Started) (H : Type) (enc : TypeId × Value → H) :
    ReturnsInHanded {} Try.checked os 3 .any (Rows.fnEncodeIsCanonicalWrittenFormSpec.pre6 enc Try.prog Try.f3 Rows.fnEncodeIsCanonicalWrittenFormRow.domain false) (Rows.fnEncodeIsCanonicalWrittenFormSpec.post enc Try.prog Try.f3 false true false false) := by
  refine returnsInHanded_of_change (C := Try.checked) own started (by kernel_rfl) Try.func3
    (ChangeSpec.witness6 (enc := enc) (C := Try.checked) false ⟨#[], #[.string ByteArray.empty], []⟩ 8 (by kernel_rfl) (by kernel_rfl) (by kernel_rfl) (by kernel_rfl)) ?_
  intro W base args ds gs before hval0 hW hcnd _
  have hval : ∀ (j : Nat) t v, Try.f3.params[j]? = some t → args[j]? = some v → Value.okWide Try.prog W .any base t v := hval0
  have hW' := hW
  obtain ⟨p, q, hA0, hV, rfl, hfz, hnd⟩ := hW
  have hA : DataW.TrodAll enc Try.prog W 0 (fun _ => true) true Try.f3.params.toList args.toList ds p := hA0
  rw [Try.params3] at hA hval
  obtain ⟨v0, vs0, d0, ds0, p0, q0, hargs, rfl, rfl, h0, r0⟩ := trodAll_cons hA
  obtain ⟨rfl, rfl, rfl⟩ := trodAll_nil r0
  obtain rfl : args = #[v0] := by cases args; simp_all
  obtain ⟨rfl, rfl⟩ := trodVars_none hV
  obtain ⟨a0, rfl, rfl, rfl, w0⟩ := open_string Try.underlying9 (hval 0 9 v0 rfl rfl) h0
  clear hA0 hval0
  simp only [List.append_nil] at hW'
  refine (walk a0 w0 W).mono fun e W' ⟨he, hg⟩ => ?_
  subst he
  exact ⟨_, rfl, _, _, _, [], [], [], hW', (trodAll_cons_mk (shut_bool Try.underlying4 _) trodAll_mk0), (trodAll_cons_mk (shut_string Try.underlying9 w0) trodAll_mk0), rfl, hg.frame _, fun h => by cases h⟩

theorem over : Rows.fnEncodeIsCanonicalWrittenFormRow.holds Try.pinned (OpenSpec.ofChange Rows.fnEncodeIsCanonicalWrittenFormSpec) :=
  OpenClaim.holds_of_wide 3 Try.f3 rfl rfl rfl rfl rfl rfl rfl ⟨rfl, rfl, rfl, rfl, rfl⟩ rfl rfl rfl rfl rfl (by kernel_rfl) Try.func3 (by kernel_rfl)
    (of_decide_eq_true (by kernel_rfl)) (by unfold Func.isWrapper; first | (rw [if_pos (by decide +kernel)]; kernel_rfl) | (rw [if_neg (by decide +kernel)]; exact ⟨rfl, rfl⟩))
    (fun os started H enc _ => lifted os started H enc)

/-- ████ THE STATEMENT ████ -/
theorem proved : Rows.FnEncodeIsCanonicalWrittenFormSaid :=
  over
#print axioms proved
end Go.Proofs.Qxb6617093a.fnEncodeIsCanonicalWrittenForm
