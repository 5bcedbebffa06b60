/-
  The proof of one statement of this seat: the shell that the seat gives, its one open place filled.
-/
import Derived.Test.Qxb6617093aRows
import Derived.Test.Qxb6617093aEncode
import Derived.Deep.QuietTactic
import Derived.BigQuiet
import Derived.WalkKit
import Derived.ProofKit
import Derived.OpenShut
import Derived.ShutString
namespace Go.Proofs.Qxb6617093a.fnEncodeTwiceEscapesOnlyPercent
open Pct
open Go.ChangeShapes Go.WideShapes Go.ChangeAt Go.RowKit
open Go.ChangeMaps (open_string shut_string)
set_option linter.unusedVariables false      -- a walk need not use every 'w<i>' (that an integer argument fits its kind)

theorem own : ownKnob Try.prog.godebug = none := by kernel_rfl

/-! ### THE WALK -/
theorem bget {s : ByteArray} {i : Nat} {c : UInt8} (he : s.data.toList[i]? = some c) (h : i < s.size) : (s[i]'h).toNat = c.toNat := by
  have e : s[i]'h = s.data.toList[i]'(by simpa using h) := rfl
  rw [e]
  rw [List.getElem?_eq_getElem (by simpa using h)] at he
  simp only [Option.some.injEq] at he
  rw [he]

theorem enc_take_ge (l : List UInt8) (j : Nat) (hj : j < l.length) : enc l = enc (l.take j) ++ (encB l[j] ++ enc (l.drop (j + 1))) := by
  rw [← enc_cons, ← enc_append]
  congr 1
  rw [← List.drop_eq_getElem_cons hj, List.take_append_drop]

theorem enc_take_succ (l : List UInt8) (j : Nat) (hj : j < l.length) : enc (l.take (j + 1)) = enc (l.take j) ++ encB l[j] := by
  rw [List.take_succ_eq_append_getElem hj, enc_append]
  simp [enc]

theorem encB_pct : encB 37 = [37, 50, 53] := by decide

theorem hex_plain (n : Nat) (h : n < 16) : plainI (hexU n).toNat = true := by
  rw [hexU_toNat n h, plainI_iff]
  unfold hexN
  split <;> omega

theorem encB_bytes (b c : UInt8) (h : c ∈ encB b) : c = 37 ∨ plainI c.toNat = true := by
  have hb : b.toNat < 256 := UInt8.toNat_lt _
  unfold encB at h
  split at h
  · simp at h; subst h; right; assumption
  · simp at h
    rcases h with rfl | rfl | rfl
    · left; rfl
    · right; exact hex_plain _ (by omega)
    · right; exact hex_plain _ (by omega)

theorem enc_bytes (l : List UInt8) (c : UInt8) (h : c ∈ enc l) : c = 37 ∨ plainI c.toNat = true := by
  unfold enc at h
  rw [List.mem_flatMap] at h
  obtain ⟨b, _, hc⟩ := h
  exact encB_bytes b c hc

/-- One round of the second reading. -/
theorem twice_round (l : List UInt8) (E EE : ByteArray) (hE : E.data.toList = enc l) (hEE : EE.data.toList = enc E.data.toList) (j f : Nat) (hj : j < E.size) (hf : f = (enc (E.data.toList.take j)).length) :
    ((E[j].toNat = 37 → f + 3 ≤ EE.size ∧ (∀ h : f < EE.size, (EE[f]'h).toNat = 37) ∧ (∀ h : f + 1 < EE.size, (EE[f + 1]'h).toNat = 50) ∧ (∀ h : f + 2 < EE.size, (EE[f + 2]'h).toNat = 53) ∧ f + 3 = (enc (E.data.toList.take (j + 1))).length)) ∧
    (¬ E[j].toNat = 37 → f + 1 ≤ EE.size ∧ (∀ h : f < EE.size, (EE[f]'h).toNat = E[j].toNat) ∧ f + 1 = (enc (E.data.toList.take (j + 1))).length) := by
  have hjl : j < E.data.toList.length := by simpa using hj
  have hc : E[j] = E.data.toList[j] := rfl
  have hs1 := enc_take_ge E.data.toList j hjl
  have hs2 := enc_take_succ E.data.toList j hjl
  rw [← hc] at hs1 hs2
  rw [← hEE] at hs1
  have hsz : EE.size = f + ((encB E[j]).length + (enc (E.data.toList.drop (j + 1))).length) := by
    rw [Lib.size_eq EE, hs1, List.length_append, List.length_append, ← hf]
  have hget : ∀ t, t < (encB E[j]).length → EE.data.toList[f + t]? = (encB E[j])[t]? := by
    intro t ht
    rw [hs1, List.getElem?_append_right (by omega), ← hf, Nat.add_sub_cancel_left, List.getElem?_append_left ht]
  have hl2 : (enc (E.data.toList.take (j + 1))).length = f + (encB E[j]).length := by
    rw [hs2, List.length_append, ← hf]
  constructor
  · intro h37
    have hc37 : E[j] = 37 := UInt8.toNat_inj.1 h37
    rw [hc37, encB_pct] at hsz hget hl2
    simp only [List.length_cons, List.length_nil] at hsz hget hl2
    have g0 : EE.data.toList[f]? = some 37 := hget 0 (by omega)
    have g1 : EE.data.toList[f + 1]? = some 50 := hget 1 (by omega)
    have g2 : EE.data.toList[f + 2]? = some 53 := hget 2 (by omega)
    exact ⟨by omega, fun h => bget (c := 37) g0 h, fun h => bget (c := 50) g1 h, fun h => bget (c := 53) g2 h, by omega⟩
  · intro h37
    have hp : plainI E[j].toNat = true := by
      have hmem : E[j] ∈ enc l := by rw [← hE, hc]; exact List.getElem_mem _
      rcases enc_bytes l _ hmem with h | h
      · exact absurd (by rw [h]; rfl) h37
      · exact h
    have he1 : encB E[j] = [E[j]] := by simp [encB, hp]
    rw [he1] at hsz hget hl2
    simp only [List.length_cons, List.length_nil] at hsz hget hl2
    have g0 : EE.data.toList[f]? = some E[j] := hget 0 (by omega)
    exact ⟨by omega, fun h => bget g0 h, by omega⟩

theorem sizes_fit (a0 E : ByteArray) (hE : E.data.toList = enc a0.data.toList) : E.size = a0.size + 2 * npc a0.data.toList ∧ E.size ≤ 3 * a0.size ∧ npc a0.data.toList ≤ a0.size := by
  have hlen : E.size = a0.size + 2 * npc a0.data.toList := by
    rw [Lib.size_eq E, hE, enc_length, ← Lib.size_eq a0]
  have := npc_le a0.data.toList
  rw [← Lib.size_eq a0] at this
  omega

set_option maxHeartbeats 2000000 in
theorem walk (a0 : ByteArray) (w0 : a0.size ≤ maxLen) (w : World) :
    Calls Try.prog 5 #[.string a0] w fun e w' => e = .returned (.bool true) ∧ Below w.heap.size w w' := by
  by_cases hs : a0.size ≤ 1048576
  · go_enter Try.func5, Try.ntmps5
    go_wp2_with fail
    refine (bytes5_yes _ w hs).mono ?_
    rintro e w1 ⟨rfl, hw⟩
    have hw' := hw.symm
    clear hw
    subst hw'
    go_wp2_with fail
    refine (encode_ex a0 _ (by omega)).mono ?_
    rintro e W1 ⟨E, rfl, hE, hb1⟩
    obtain ⟨q2, q3, q4⟩ := sizes_fit a0 E hE.out
    have hne : ((E.size : Int) != (a0.size : Int) + 2 * (npc a0.data.toList : Int)) = false := by rw [q2]; simp
    have hEm : E.size ≤ 4194304 := by omega
    clear q2 q3
    go_wp2_with fail
    refine (count_any a0 _ w0).mono ?_
    rintro e w1 ⟨rfl, hw⟩
    have hw' := hw.symm
    clear hw
    subst hw'
    go_wp2_with fail
    refine (encode_ex E _ hEm).mono ?_
    rintro e W2 ⟨EE, rfl, hEE, hb2⟩
    have hb := hb1.trans (hb2.mono hb1.size)
    clear hb1 hb2
    obtain ⟨p2, p3, p4⟩ := sizes_fit E EE hEE.out
    have hEEm : EE.size ≤ 16777216 := by omega
    clear p2 p3 p4 hne
    go_wp2_with fail
    go_loopw [5, 6] (fun iv jv wr => ∃ j f : Nat, j ≤ E.size ∧ jv = .int .i64 j ∧ iv = .int .i64 f ∧ f ≤ EE.size ∧ Hid (f = (enc (E.data.toList.take j)).length) ∧ Below w.heap.size w wr) (fun _ jv _ => E.size - (intOf jv).toNat)
    case atStart => exact ⟨0, 0, Nat.zero_le _, rfl, rfl, Nat.zero_le _, rfl, hb⟩
    case round =>
      obtain ⟨j, f, hj, rfl, rfl, hfe, hf, hbr⟩ := hrel
      clear hb
      by_cases hlt : j < E.size
      · obtain ⟨r1, r2⟩ := twice_round a0.data.toList E EE hE.out hEE.out j f hlt hf.out
        by_cases h37 : E[j].toNat = 37
        · obtain ⟨g1, g2, g3, g4, g5⟩ := r1 h37
          clear r1 r2
          have G5 : Hid (f + 3 = (enc (E.data.toList.take (j + 1))).length) := g5
          clear g5
          have e0 := g2 (by omega)
          have e1 := g3 (by omega)
          have e2 := g4 (by omega)
          clear g2 g3 g4
          go_wp2_with fail
          go_roundw
          case rel => exact ⟨j + 1, f + 3, by omega, by go_num, by go_num, by omega, G5.out, hbr⟩
          case measure => simp [intOf]; omega
        · obtain ⟨g1, g2, g5⟩ := r2 h37
          clear r1 r2
          have G5 : Hid (f + 1 = (enc (E.data.toList.take (j + 1))).length) := g5
          clear g5
          have e0 := g2 (by omega)
          clear g2
          have hd : decide (EE.size ≤ f) = false := by simp; omega
          have hfI : (f : Int) < (EE.size : Int) := by omega
          have hjI : (j : Int) < (E.size : Int) := by omega
          have hn37 : ((E[j].toNat : Int) == 37) = false := by simp; omega
          go_wp2_with fail
          go_quiet (fail)
          go_wp2_with fail
          go_roundw
          case rel => exact ⟨j + 1, f + 1, by omega, by go_num, by go_num, by omega, G5.out, hbr.trans ⟨rfl, rfl, rfl, Nat.le_refl _, fun _ _ => rfl⟩⟩
          case measure => simp [intOf]; omega
      · have hend : f = EE.size := by
          rw [hf.out, List.take_of_length_le (by simp; omega), Lib.size_eq EE, hEE.out]
        have HE : Hid (((f : Int) == (EE.size : Int)) = true) := by show _ = _; rw [hend]; simp
        clear hend
        go_wp2_with fail
        go_ret
        exact ⟨ret_bool HE.out, hbr⟩
  · go_enter Try.func5, Try.ntmps5
    go_wp2_with (go_at_call 13; refine (bytes5_no _ _ hs).mono ?_; rintro e w' ⟨rfl, rfl⟩)
    go_ret
    exact ⟨rfl, Below.refl _ _⟩

/-! ### THE ROW's STEP -/
set_option maxRecDepth 100000 in
theorem lifted (os : Os) (started : os.Started) (H : Type) (enc : TypeId × Value → H) :
    ReturnsInHanded {} Try.checked os 5 .any (Rows.fnEncodeTwiceEscapesOnlyPercentSpec.pre6 enc Try.prog Try.f5 Rows.fnEncodeTwiceEscapesOnlyPercentRow.domain false) (Rows.fnEncodeTwiceEscapesOnlyPercentSpec.post enc Try.prog Try.f5 false true false false) := by
  refine returnsInHanded_of_change (C := Try.checked) own started (by kernel_rfl) Try.func5
    (ChangeSpec.witness6 (enc := enc) (C := Try.checked) false ⟨#[], #[.string ByteArray.empty], []⟩ 8 (by kernel_rfl) (by kernel_rfl) (by kernel_rfl) (by kernel_rfl)) ?_
  intro W base args ds gs before hval0 hW hcnd _
  have hval : ∀ (j : Nat) t v, Try.f5.params[j]? = some t → args[j]? = some v → Value.okWide Try.prog W .any base t v := hval0
  have hW' := hW
  obtain ⟨p, q, hA0, hV, rfl, hfz, hnd⟩ := hW
  have hA : DataW.TrodAll enc Try.prog W 0 (fun _ => true) true Try.f5.params.toList args.toList ds p := hA0
  rw [Try.params5] at hA hval
  obtain ⟨v0, vs0, d0, ds0, p0, q0, hargs, rfl, rfl, h0, r0⟩ := trodAll_cons hA
  obtain ⟨rfl, rfl, rfl⟩ := trodAll_nil r0
  obtain rfl : args = #[v0] := by cases args; simp_all
  obtain ⟨rfl, rfl⟩ := trodVars_none hV
  obtain ⟨a0, rfl, rfl, rfl, w0⟩ := open_string Try.underlying9 (hval 0 9 v0 rfl rfl) h0
  clear hA0 hval0
  simp only [List.append_nil] at hW'
  refine (walk a0 w0 W).mono fun e W' ⟨he, hg⟩ => ?_
  subst he
  exact ⟨_, rfl, _, _, _, [], [], [], hW', (trodAll_cons_mk (shut_bool Try.underlying4 _) trodAll_mk0), (trodAll_cons_mk (shut_string Try.underlying9 w0) trodAll_mk0), rfl, hg.frame _, fun h => by cases h⟩

theorem over : Rows.fnEncodeTwiceEscapesOnlyPercentRow.holds Try.pinned (OpenSpec.ofChange Rows.fnEncodeTwiceEscapesOnlyPercentSpec) :=
  OpenClaim.holds_of_wide 5 Try.f5 rfl rfl rfl rfl rfl rfl rfl ⟨rfl, rfl, rfl, rfl, rfl⟩ rfl rfl rfl rfl rfl (by kernel_rfl) Try.func5 (by kernel_rfl)
    (of_decide_eq_true (by kernel_rfl)) (by unfold Func.isWrapper; first | (rw [if_pos (by decide +kernel)]; kernel_rfl) | (rw [if_neg (by decide +kernel)]; exact ⟨rfl, rfl⟩))
    (fun os started H enc _ => lifted os started H enc)

/-- ████ THE STATEMENT ████ -/
theorem proved : Rows.FnEncodeTwiceEscapesOnlyPercentSaid :=
  over
#print axioms proved
end Go.Proofs.Qxb6617093a.fnEncodeTwiceEscapesOnlyPercent
