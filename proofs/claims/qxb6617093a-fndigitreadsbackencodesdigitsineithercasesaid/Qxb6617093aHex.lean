/-
  zzUpperHexValue, zzOneByte.
-/
import Derived.Test.Qxb6617093aLeaf
namespace Go.Proofs.Qxb6617093a
open Go.RowKit Pct

/-- The table of upper-case digits, as the program's text has it. -/
theorem hexTab : ∀ (k : Nat) (h : k < (ByteArray.mk #[48, 49, 50, 51, 52, 53, 54, 55, 56, 57, 65, 66, 67, 68, 69, 70]).size), ((ByteArray.mk #[48, 49, 50, 51, 52, 53, 54, 55, 56, 57, 65, 66, 67, 68, 69, 70])[k]'h).toNat = hexN k := by
  have h16 : ∀ k : Fin 16, ((ByteArray.mk #[48, 49, 50, 51, 52, 53, 54, 55, 56, 57, 65, 66, 67, 68, 69, 70])[k.val]'k.isLt).toNat = hexN k.val := by decide
  intro k h
  exact h16 ⟨k, h⟩

set_option maxHeartbeats 400000 in
theorem onebyte_any (v : UInt8) (w : World) :
    Calls Try.prog 15 #[.int .u8 v.toNat] w fun e w' => e = .returned (.string ⟨#[v]⟩) ∧ Below w.heap.size w w' := by
  have hcv : (convert 32 9 (.slice (some ⟨w.heap.size, 0, none⟩) 1 1)).run Try.prog (w.alloc (.cells #[.int .u8 v.toNat] 5)) = .ok (.string ⟨#[v]⟩) (w.alloc (.cells #[.int .u8 v.toNat] 5)) :=
    run_convert_bytes_back (P := Try.prog) (w.alloc (.cells #[.int .u8 v.toNat] 5)) 32 9 5 ⟨w.heap.size, 0, none⟩ 1 [v] Try.underlying32 Try.underlying5 Try.underlying9 (by
      intro j hj
      obtain rfl : j = 0 := by simp at hj; omega
      simp [Addr.add])
  go_enter Try.func15, Try.ntmps15
  go_wp2
  go_ret
  exact ⟨rfl, (Below.refl _ _).alloc (Nat.le_refl _) _⟩

set_option maxHeartbeats 400000 in
theorem hexval_any (n : Nat) (hn : n < 16) (w : World) :
    Calls Try.prog 23 #[.int .u8 (hexN n)] w fun e w' => e = .returned (.int .i64 n) ∧ w' = w := by
  go_enter Try.func23, Try.ntmps23
  go_wp2
  go_loop [3] (fun v => ∃ k : Nat, k ≤ n ∧ v = .int .i64 k) (fun v => 16 - (intOf v).toNat)
  case atStart => exact ⟨0, Nat.zero_le _, rfl⟩
  case round =>
    obtain ⟨k, hk, rfl⟩ := hrel
    have hk16 : k < 16 := by omega
    have ht := hexTab k hk16
    by_cases he : k = n
    · subst he
      go_wp2
      go_ret
      exact ⟨rfl, rfl⟩
    · have hne : ((hexN k : Int) == (hexN n : Int)) = false := by
        rw [beq_eq_false_iff_ne]
        intro h
        exact he (hexN_inj k n hk16 hn (by omega))
      go_wp2
      go_round
      case rel => exact ⟨k + 1, by omega, by go_num⟩
      case measure => simp [intOf]; omega
end Go.Proofs.Qxb6617093a
