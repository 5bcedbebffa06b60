/-
  The proof of one statement of this seat: the shell that the seat gives, its one open place filled.
-/
import Derived.Test.Qxb6617093aRows
import Derived.Test.Qxb6617093aEncode
import Derived.WalkKit
import Derived.ProofKit
import Derived.OpenShut
import Derived.ShutString
namespace Go.Proofs.Qxb6617093a.fnDigitDecodesEveryByteEncodeWrites
open Pct
open Go.ChangeShapes Go.WideShapes Go.ChangeAt Go.RowKit
open Go.ChangeMaps (open_string shut_string)
set_option linter.unusedVariables false      -- a walk need not use every 'w<i>' (that an integer argument fits its kind)

theorem own : ownKnob Try.prog.godebug = none := by kernel_rfl

/-! ### THE WALK -/
theorem bget {s : ByteArray} {i : Nat} {c : UInt8} (he : s.data.toList[i]? = some c) (h : i < s.size) : (s[i]'h).toNat = c.toNat := by
  have e : s[i]'h = s.data.toList[i]'(by simpa using h) := rfl
  rw [e]
  rw [List.getElem?_eq_getElem (by simpa using h)] at he
  simp only [Option.some.injEq] at he
  rw [he]

theorem byte_of (a : Int) (h0 : 0 ≤ a) (h1 : a ≤ 255) : ∃ v : UInt8, a = (v.toNat : Int) := by
  refine ⟨UInt8.ofNat a.toNat, ?_⟩
  simp
  omega

theorem enc_one (v : UInt8) : enc [v] = encB v := by simp [enc]

/-- What Encode writes of one byte that is not plain. -/
theorem one_hex (v : UInt8) (hp : plainI v.toNat = false) (E : ByteArray) (hE : E.data.toList = enc (ByteArray.mk #[v]).data.toList) :
    E.size = 3 ∧ (∀ h : 0 < E.size, (E[0]'h).toNat = 37) ∧ (∀ h : 1 < E.size, (E[1]'h).toNat = hexN (v.toNat / 16)) ∧ (∀ h : 2 < E.size, (E[2]'h).toNat = hexN (v.toNat % 16)) := by
  have h256 : v.toNat < 256 := UInt8.toNat_lt _
  have he : E.data.toList = [37, hexU (v.toNat / 16), hexU (v.toNat % 16)] := by
    rw [hE]
    show enc [v] = _
    rw [enc_one]
    simp [encB, hp]
  refine ⟨by rw [Lib.size_eq, he]; rfl, fun h => bget (c := 37) (by rw [he]; rfl) h, fun h => ?_, fun h => ?_⟩
  · rw [bget (c := hexU (v.toNat / 16)) (by rw [he]; rfl) h, hexU_toNat _ (by omega)]
  · rw [bget (c := hexU (v.toNat % 16)) (by rw [he]; rfl) h, hexU_toNat _ (by omega)]

/-- .. and of one that is. -/
theorem one_plain (v : UInt8) (hp : plainI v.toNat = true) (E : ByteArray) (hE : E.data.toList = enc (ByteArray.mk #[v]).data.toList) : E = ByteArray.mk #[v] := by
  have he : E.data.toList = [v] := by
    rw [hE]
    show enc [v] = _
    rw [enc_one]
    simp [encB, hp]
  rw [← bytes_self E, he]

theorem dig_hex (n : Nat) (h : n < 16) : digI (hexN n) = n := by
  unfold digI hexN
  split <;> split <;> (try split) <;> (try split) <;> omega

theorem dig_lo_hex (n : Nat) (h : n < 16) : digI (loI (hexN n)) = n := by
  unfold digI loI hexN
  split <;> split <;> split <;> (try split) <;> (try split) <;> omega

theorem lo_bd (n : Nat) (h : n < 16) : 0 ≤ loI (hexN n) ∧ loI (hexN n) ≤ 255 := by
  unfold loI hexN
  split <;> split <;> omega

set_option maxHeartbeats 1000000 in
theorem walk (a0 : Int) (w0 : (Lit.int .u8 a0).wf = true) (w : World) :
    Calls Try.prog 7 #[.int .u8 a0] w fun e w' => e = .returned (.bool true) ∧ Below w.heap.size w w' := by
  obtain ⟨b0, b1⟩ := bounds_u8 w0
  obtain ⟨v, rfl⟩ := byte_of a0 b0 b1
  clear w0 b0 b1
  have h256 : v.toNat < 256 := UInt8.toNat_lt _
  go_enter Try.func7, Try.ntmps7
  go_wp2_with fail
  refine (onebyte_any v w).mono ?_
  rintro e W1 ⟨rfl, hb1⟩
  go_wp2_with fail
  refine (encode_ex (ByteArray.mk #[v]) _ (show 1 ≤ 4194304 by decide)).mono ?_
  rintro e W2 ⟨E, rfl, hE, hb2⟩
  have hb := hb1.trans (hb2.mono hb1.size)
  clear hb1 hb2
  go_wp2_with fail
  refine (zzplain_any _ _).mono ?_
  rintro e w1 ⟨rfl, hw⟩
  have hw' := hw.symm
  clear hw
  subst hw'
  cases hp : plainI v.toNat
  · obtain ⟨H, L, hH, hL, eH, eL, hv⟩ : ∃ H L : Nat, H < 16 ∧ L < 16 ∧ v.toNat / 16 = H ∧ v.toNat % 16 = L ∧ v.toNat = 16 * H + L := ⟨v.toNat / 16, v.toNat % 16, by omega, by omega, rfl, rfl, by omega⟩
    obtain ⟨hsz, e0, e1, e2⟩ := one_hex v hp E hE.out
    rw [eH] at e1
    rw [eL] at e2
    clear eH eL
    have d1 := dig_hex H hH
    have d2 := dig_hex L hL
    have l1 := dig_lo_hex H hH
    have l2 := dig_lo_hex L hL
    have x1 := hexN_le H hH
    have x2 := hexN_le L hL
    have y1 := lo_bd H hH
    have y2 := lo_bd L hL
    have hsum : ((H : Int) * 16 + (L : Int) != (v.toNat : Int)) = false := by rw [hv]; simp; omega
    clear hv
    go_wp2_with fail
    refine (zzdigit_any (hexN H) _ (by omega) (by omega)).mono ?_
    rintro e w1 ⟨rfl, hw⟩
    have hw' := hw.symm
    clear hw
    subst hw'
    go_wp2_with fail
    refine (zzdigit_any (hexN L) _ (by omega) (by omega)).mono ?_
    rintro e w1 ⟨rfl, hw⟩
    have hw' := hw.symm
    clear hw
    subst hw'
    go_wp2_with fail
    refine (zzlower_any (hexN H) _ (by omega) (by omega)).mono ?_
    rintro e w1 ⟨rfl, hw⟩
    have hw' := hw.symm
    clear hw
    subst hw'
    go_wp2_with fail
    refine (zzdigit_any (loI (hexN H)) _ y1.1 y1.2).mono ?_
    rintro e w1 ⟨rfl, hw⟩
    have hw' := hw.symm
    clear hw
    subst hw'
    go_wp2_with fail
    refine (zzlower_any (hexN L) _ (by omega) (by omega)).mono ?_
    rintro e w1 ⟨rfl, hw⟩
    have hw' := hw.symm
    clear hw
    subst hw'
    go_wp2_with fail
    refine (zzdigit_any (loI (hexN L)) _ y2.1 y2.2).mono ?_
    rintro e w1 ⟨rfl, hw⟩
    have hw' := hw.symm
    clear hw
    subst hw'
    go_wp2_with fail
    go_ret
    exact ⟨rfl, hb⟩
  · have he : E = ByteArray.mk #[v] := one_plain v hp E hE.out
    subst he
    go_wp2_with fail
    refine (onebyte_any v _).mono ?_
    rintro e W3 ⟨rfl, hb3⟩
    go_wp2_with fail
    go_ret
    exact ⟨rfl, hb.trans (hb3.mono hb.size)⟩

/-! ### THE ROW's STEP -/
set_option maxRecDepth 100000 in
theorem lifted (os : Os) (started : os.Started) (H : Type) (enc : TypeId × Value → H) :
    ReturnsInHanded {} Try.checked os 7 .any (Rows.fnDigitDecodesEveryByteEncodeWritesSpec.pre6 enc Try.prog Try.f7 Rows.fnDigitDecodesEveryByteEncodeWritesRow.domain false) (Rows.fnDigitDecodesEveryByteEncodeWritesSpec.post enc Try.prog Try.f7 false true false false) := by
  refine returnsInHanded_of_change (C := Try.checked) own started (by kernel_rfl) Try.func7
    (ChangeSpec.witness6 (enc := enc) (C := Try.checked) false ⟨#[], #[.int .u8 0], []⟩ 8 (by kernel_rfl) (by kernel_rfl) (by kernel_rfl) (by kernel_rfl)) ?_
  intro W base args ds gs before hval0 hW hcnd _
  have hval : ∀ (j : Nat) t v, Try.f7.params[j]? = some t → args[j]? = some v → Value.okWide Try.prog W .any base t v := hval0
  have hW' := hW
  obtain ⟨p, q, hA0, hV, rfl, hfz, hnd⟩ := hW
  have hA : DataW.TrodAll enc Try.prog W 0 (fun _ => true) true Try.f7.params.toList args.toList ds p := hA0
  rw [Try.params7] at hA hval
  obtain ⟨v0, vs0, d0, ds0, p0, q0, hargs, rfl, rfl, h0, r0⟩ := trodAll_cons hA
  obtain ⟨rfl, rfl, rfl⟩ := trodAll_nil r0
  obtain rfl : args = #[v0] := by cases args; simp_all
  obtain ⟨rfl, rfl⟩ := trodVars_none hV
  obtain ⟨a0, rfl, rfl, rfl, w0⟩ := open_int Try.underlying5 (hval 0 5 v0 rfl rfl) h0
  clear hA0 hval0
  simp only [List.append_nil] at hW'
  refine (walk a0 w0 W).mono fun e W' ⟨he, hg⟩ => ?_
  subst he
  exact ⟨_, rfl, _, _, _, [], [], [], hW', (trodAll_cons_mk (shut_bool Try.underlying4 _) trodAll_mk0), (trodAll_cons_mk (shut_int Try.underlying5 w0) trodAll_mk0), rfl, hg.frame _, fun h => by cases h⟩

theorem over : Rows.fnDigitDecodesEveryByteEncodeWritesRow.holds Try.pinned (OpenSpec.ofChange Rows.fnDigitDecodesEveryByteEncodeWritesSpec) :=
  OpenClaim.holds_of_wide 7 Try.f7 rfl rfl rfl rfl rfl rfl rfl ⟨rfl, rfl, rfl, rfl, rfl⟩ rfl rfl rfl rfl rfl (by kernel_rfl) Try.func7 (by kernel_rfl)
    (of_decide_eq_true (by kernel_rfl)) (by unfold Func.isWrapper; first | (rw [if_pos (by decide +kernel)]; kernel_rfl) | (rw [if_neg (by decide +kernel)]; exact ⟨rfl, rfl⟩))
    (fun os started H enc _ => lifted os started H enc)

/-- ████ THE STATEMENT ████ -/
theorem proved : Rows.FnDigitDecodesEveryByteEncodeWritesSaid :=
  over
#print axioms proved
end Go.Proofs.Qxb6617093a.fnDigitDecodesEveryByteEncodeWrites
