/-
  The proof of one statement of this seat: the shell that the seat gives, its one open place filled.
-/
import Derived.Test.Qxb6617093aRows
import Derived.Test.Qxb6617093aEncode
import Derived.WalkKit
import Derived.ProofKit
import Derived.OpenShut
import Derived.ShutString
namespace Go.Proofs.Qxb6617093a.fnDigitReadsBackEncodesDigitsInEitherCase
open Pct
open Go.ChangeShapes Go.WideShapes Go.ChangeAt Go.RowKit
open Go.ChangeMaps (open_string shut_string)
set_option linter.unusedVariables false      -- a walk need not use every 'w<i>' (that an integer argument fits its kind)

theorem own : ownKnob Try.prog.godebug = none := by kernel_rfl

/-! ### THE WALK -/
theorem bget {s : ByteArray} {i : Nat} {c : UInt8} (he : s.data.toList[i]? = some c) (h : i < s.size) : (s[i]'h).toNat = c.toNat := by
  have e : s[i]'h = s.data.toList[i]'(by simpa using h) := rfl
  rw [e]
  rw [List.getElem?_eq_getElem (by simpa using h)] at he
  simp only [Option.some.injEq] at he
  rw [he]

theorem byte_of (a : Int) (h0 : 0 ≤ a) (h1 : a ≤ 255) : ∃ v : UInt8, a = (v.toNat : Int) := by
  refine ⟨UInt8.ofNat a.toNat, ?_⟩
  simp
  omega

theorem enc_one (v : UInt8) : enc [v] = encB v := by simp [enc]

/-- What Encode writes of one byte that is not plain. -/
theorem one_hex (v : UInt8) (hp : plainI v.toNat = false) (E : ByteArray) (hE : E.data.toList = enc (ByteArray.mk #[v]).data.toList) :
    E.size = 3 ∧ (∀ h : 0 < E.size, (E[0]'h).toNat = 37) ∧ (∀ h : 1 < E.size, (E[1]'h).toNat = hexN (v.toNat / 16)) ∧ (∀ h : 2 < E.size, (E[2]'h).toNat = hexN (v.toNat % 16)) := by
  have h256 : v.toNat < 256 := UInt8.toNat_lt _
  have he : E.data.toList = [37, hexU (v.toNat / 16), hexU (v.toNat % 16)] := by
    rw [hE]
    show enc [v] = _
    rw [enc_one]
    simp [encB, hp]
  refine ⟨by rw [Lib.size_eq, he]; rfl, fun h => bget (c := 37) (by rw [he]; rfl) h, fun h => ?_, fun h => ?_⟩
  · rw [bget (c := hexU (v.toNat / 16)) (by rw [he]; rfl) h, hexU_toNat _ (by omega)]
  · rw [bget (c := hexU (v.toNat % 16)) (by rw [he]; rfl) h, hexU_toNat _ (by omega)]

/-- What the loop has found behind k rounds. -/
def wantF (u : Int) : Nat → Int
  | 0 => -1
  | k + 1 => if wantF u k < 0 ∧ (hexN k : Int) = u then k else wantF u k

theorem want_dig : ∀ c : Fin 256, digI (c.val : Int) = wantF (upI (c.val : Int)) 16 := by decide +kernel

theorem want_bd (u : Int) (k : Nat) : -1 ≤ wantF u k ∧ wantF u k ≤ k := by
  induction k with
  | zero => simp [wantF]
  | succ k ih =>
    unfold wantF
    split <;> omega

theorem want_hit (u : Int) (k : Nat) (h1 : wantF u k < 0) (h2 : (hexN k : Int) = u) : wantF u (k + 1) = k := by
  rw [wantF, if_pos ⟨h1, h2⟩]

theorem want_miss (u : Int) (k : Nat) (h : ¬ (wantF u k < 0 ∧ (hexN k : Int) = u)) : wantF u (k + 1) = wantF u k := by
  rw [wantF, if_neg h]

theorem low_not_plain (k : Nat) (h : k < 16) : plainI (k : Int) = false := by
  rw [← Bool.not_eq_true, plainI_iff]
  omega

theorem onebyte_k (k : Nat) (hk : k < 16) (w : World) :
    Calls Try.prog 15 #[.int .u8 (k : Int)] w fun e w' => e = .returned (.string ⟨#[UInt8.ofNat k]⟩) ∧ Below w.heap.size w w' := by
  have hv : (UInt8.ofNat k).toNat = k := by simp; omega
  have h := onebyte_any (UInt8.ofNat k) w
  rw [hv] at h
  exact h

/-- What Encode writes of a byte below 16. -/
theorem one_low (k : Nat) (hk : k < 16) (E : ByteArray) (hE : E.data.toList = enc (ByteArray.mk #[UInt8.ofNat k]).data.toList) :
    E.size = 3 ∧ (∀ h : 0 < E.size, (E[0]'h).toNat = 37) ∧ (∀ h : 1 < E.size, (E[1]'h).toNat = 48) ∧ (∀ h : 2 < E.size, (E[2]'h).toNat = hexN k) := by
  have hv : (UInt8.ofNat k).toNat = k := by simp; omega
  have h := one_hex (UInt8.ofNat k) (by rw [hv]; exact low_not_plain k hk) E hE
  rw [hv, Nat.div_eq_of_lt hk, Nat.mod_eq_of_lt hk] at h
  exact h

set_option maxHeartbeats 2000000 in
theorem walk (a0 : Int) (w0 : (Lit.int .u8 a0).wf = true) (w : World) :
    Calls Try.prog 6 #[.int .u8 a0] w fun e w' => e = .returned (.bool true) ∧ Below w.heap.size w w' := by
  obtain ⟨b0, b1⟩ := bounds_u8 w0
  obtain ⟨c, rfl⟩ := byte_of a0 b0 b1
  clear w0 b0 b1
  have h256 : c.toNat < 256 := UInt8.toNat_lt _
  have hfin : (digI (c.toNat : Int) == wantF (upI (c.toNat : Int)) 16) = true := by
    have := want_dig ⟨c.toNat, h256⟩
    simp only at this
    rw [this]
    simp
  go_enter Try.func6, Try.ntmps6
  go_wp2_with fail
  refine (zzupper_any _ _ (by omega) (by omega)).mono ?_
  rintro e w1 ⟨rfl, hw⟩
  have hw' := hw.symm
  clear hw
  subst hw'
  go_wp2_with fail
  go_loopw [4, 5] (fun wv vv wr => ∃ k : Nat, k ≤ 16 ∧ vv = .int .i64 k ∧ wv = .int .i64 (wantF (upI (c.toNat : Int)) k) ∧ Below w.heap.size w wr) (fun _ vv _ => 16 - (intOf vv).toNat)
  case atStart => exact ⟨0, Nat.zero_le _, rfl, rfl, Below.refl _ _⟩
  case round =>
    obtain ⟨k, hk, rfl, rfl, hb⟩ := hrel
    obtain ⟨wb0, wb1⟩ := want_bd (upI (c.toNat : Int)) k
    by_cases hlt : k < 16
    · go_wp2_with fail
      refine (onebyte_k k hlt _).mono ?_
      rintro e W1 ⟨rfl, hb1⟩
      go_wp2_with fail
      refine (encode_ex (ByteArray.mk #[UInt8.ofNat k]) _ (show 1 ≤ 4194304 by decide)).mono ?_
      rintro e W2 ⟨E, rfl, hE, hb2⟩
      have hb3 := hb.trans ((hb1.trans (hb2.mono hb1.size)).mono hb.size)
      clear hb hb1 hb2
      obtain ⟨hsz, e0, e1, e2⟩ := one_low k hlt E hE.out
      by_cases hneg : wantF (upI (c.toNat : Int)) k < 0
      · cases hB : ((hexN k : Int) == upI (c.toNat : Int))
        · have HW : Hid (wantF (upI (c.toNat : Int)) (k + 1) = wantF (upI (c.toNat : Int)) k) := want_miss _ _ (fun h => by rw [h.2] at hB; simp at hB)
          go_wp2_with fail
          go_roundw
          case rel => exact ⟨k + 1, by omega, by go_num, by rw [HW.out], hb3⟩
          case measure => simp [intOf]; omega
        · have HW : Hid (wantF (upI (c.toNat : Int)) (k + 1) = k) := want_hit _ _ hneg (by simpa using hB)
          go_wp2_with fail
          go_roundw
          case rel => exact ⟨k + 1, by omega, by go_num, by rw [HW.out], hb3⟩
          case measure => simp [intOf]; omega
      · have HW : Hid (wantF (upI (c.toNat : Int)) (k + 1) = wantF (upI (c.toNat : Int)) k) := want_miss _ _ (fun h => hneg h.1)
        go_wp2_with fail
        go_roundw
        case rel => exact ⟨k + 1, by omega, by go_num, by rw [HW.out], hb3⟩
        case measure => simp [intOf]; omega
    · obtain rfl : k = 16 := by omega
      go_wp2_with fail
      refine (zzdigit_any _ _ (by omega) (by omega)).mono ?_
      rintro e w1 ⟨rfl, hw⟩
      have hw' := hw.symm
      clear hw
      subst hw'
      go_wp2_with fail
      go_ret
      exact ⟨rfl, hb⟩

/-! ### THE ROW's STEP -/
set_option maxRecDepth 100000 in
theorem lifted (os : Os) (started : os.Started) (H : Type) (enc : TypeId × Value → H) :
    ReturnsInHanded {} Try.checked os 6 .any (Rows.fnDigitReadsBackEncodesDigitsInEitherCaseSpec.pre6 enc Try.prog Try.f6 Rows.fnDigitReadsBackEncodesDigitsInEitherCaseRow.domain false) (Rows.fnDigitReadsBackEncodesDigitsInEitherCaseSpec.post enc Try.prog Try.f6 false true false false) := by
  refine returnsInHanded_of_change (C := Try.checked) own started (by kernel_rfl) Try.func6
    (ChangeSpec.witness6 (enc := enc) (C := Try.checked) false ⟨#[], #[.int .u8 0], []⟩ 8 (by kernel_rfl) (by kernel_rfl) (by kernel_rfl) (by kernel_rfl)) ?_
  intro W base args ds gs before hval0 hW hcnd _
  have hval : ∀ (j : Nat) t v, Try.f6.params[j]? = some t → args[j]? = some v → Value.okWide Try.prog W .any base t v := hval0
  have hW' := hW
  obtain ⟨p, q, hA0, hV, rfl, hfz, hnd⟩ := hW
  have hA : DataW.TrodAll enc Try.prog W 0 (fun _ => true) true Try.f6.params.toList args.toList ds p := hA0
  rw [Try.params6] at hA hval
  obtain ⟨v0, vs0, d0, ds0, p0, q0, hargs, rfl, rfl, h0, r0⟩ := trodAll_cons hA
  obtain ⟨rfl, rfl, rfl⟩ := trodAll_nil r0
  obtain rfl : args = #[v0] := by cases args; simp_all
  obtain ⟨rfl, rfl⟩ := trodVars_none hV
  obtain ⟨a0, rfl, rfl, rfl, w0⟩ := open_int Try.underlying5 (hval 0 5 v0 rfl rfl) h0
  clear hA0 hval0
  simp only [List.append_nil] at hW'
  refine (walk a0 w0 W).mono fun e W' ⟨he, hg⟩ => ?_
  subst he
  exact ⟨_, rfl, _, _, _, [], [], [], hW', (trodAll_cons_mk (shut_bool Try.underlying4 _) trodAll_mk0), (trodAll_cons_mk (shut_int Try.underlying5 w0) trodAll_mk0), rfl, hg.frame _, fun h => by cases h⟩

theorem over : Rows.fnDigitReadsBackEncodesDigitsInEitherCaseRow.holds Try.pinned (OpenSpec.ofChange Rows.fnDigitReadsBackEncodesDigitsInEitherCaseSpec) :=
  OpenClaim.holds_of_wide 6 Try.f6 rfl rfl rfl rfl rfl rfl rfl ⟨rfl, rfl, rfl, rfl, rfl⟩ rfl rfl rfl rfl rfl (by kernel_rfl) Try.func6 (by kernel_rfl)
    (of_decide_eq_true (by kernel_rfl)) (by unfold Func.isWrapper; first | (rw [if_pos (by decide +kernel)]; kernel_rfl) | (rw [if_neg (by decide +kernel)]; exact ⟨rfl, rfl⟩))
    (fun os started H enc _ => lifted os started H enc)

/-- ████ THE STATEMENT ████ -/
theorem proved : Rows.FnDigitReadsBackEncodesDigitsInEitherCaseSaid :=
  over
#print axioms proved
end Go.Proofs.Qxb6617093a.fnDigitReadsBackEncodesDigitsInEitherCase
