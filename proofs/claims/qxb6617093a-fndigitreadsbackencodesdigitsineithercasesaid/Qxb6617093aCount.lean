/-
  zzNonPlainCount; the three bounds zzBytes_..
-/
import Derived.Test.Qxb6617093aHex
namespace Go.Proofs.Qxb6617093a
open Go.RowKit Pct

theorem take_snoc (s : ByteArray) (k : Nat) (h : k < s.size) : s.data.toList.take (k + 1) = s.data.toList.take k ++ [s[k]] := by
  rw [List.take_succ_eq_append_getElem (by simpa using h)]; rfl

theorem npc_snoc (s : ByteArray) (k : Nat) (h : k < s.size) : npc (s.data.toList.take (k + 1)) = npc (s.data.toList.take k) + if plainI s[k].toNat then 0 else 1 := by
  rw [take_snoc s k h, npc_append, npc_cons]
  simp [npc]

theorem npc_take_le (s : ByteArray) (k : Nat) : npc (s.data.toList.take k) ≤ k :=
  Nat.le_trans (npc_le _) (List.length_take_le _ _)

set_option maxHeartbeats 400000 in
theorem count_any (s : ByteArray) (w : World) (hs : s.size ≤ maxLen) :
    Calls Try.prog 12 #[.string s] w fun e w' => e = .returned (.int .i64 (npc s.data.toList)) ∧ w' = w := by
  unfold maxLen at hs
  go_enter Try.func12, Try.ntmps12
  go_wp2
  go_loop [3, 4] (fun n i => ∃ k : Nat, k ≤ s.size ∧ i = .int .i64 k ∧ n = .int .i64 (npc (s.data.toList.take k))) (fun _ i => s.size - (intOf i).toNat)
  case atStart => exact ⟨0, Nat.zero_le _, rfl, rfl⟩
  case round =>
    obtain ⟨k, hk, rfl, rfl⟩ := hrel
    have hd := npc_take_le s k
    by_cases hlt : k < s.size
    · have hsn := npc_snoc s k hlt
      cases hp : plainI s[k].toNat
      · have HS : Hid (npc (s.data.toList.take (k + 1)) = npc (s.data.toList.take k) + 1) := by rw [hp] at hsn; simp at hsn; exact hsn
        clear hsn
        go_wp2_with (go_at_call 17; refine (zzplain_any _ _).mono ?_; rintro e w' ⟨rfl, rfl⟩)
        go_round
        case rel => exact ⟨k + 1, by omega, by go_num, by rw [HS.out]; go_num⟩
        case measure => simp [intOf]; omega
      · have HS : Hid (npc (s.data.toList.take (k + 1)) = npc (s.data.toList.take k)) := by rw [hp] at hsn; simp at hsn; exact hsn
        clear hsn
        go_wp2_with (go_at_call 17; refine (zzplain_any _ _).mono ?_; rintro e w' ⟨rfl, rfl⟩)
        go_round
        case rel => exact ⟨k + 1, by omega, by go_num, by rw [HS.out]⟩
        case measure => simp [intOf]; omega
    · go_wp2
      go_ret
      exact ⟨ret_int (by rw [List.take_of_length_le (by simp; omega)]), rfl⟩

set_option maxHeartbeats 400000 in
theorem bytes3_yes (s : ByteArray) (w : World) (hs : s.size ≤ 1048576) :
    Calls Try.prog 8 #[.string s] w fun e w' => e = .returned (.bool true) ∧ w' = w := by
  go_enter Try.func8, Try.ntmps8
  go_wp2
  go_ret
  exact ⟨rfl, rfl⟩
set_option maxHeartbeats 400000 in
theorem bytes3_no (s : ByteArray) (w : World) (hs : ¬ s.size ≤ 1048576) :
    Calls Try.prog 8 #[.string s] w fun e w' => e = .returned (.bool false) ∧ w' = w := by
  go_enter Try.func8, Try.ntmps8
  go_wp2
  go_ret
  exact ⟨rfl, rfl⟩
set_option maxHeartbeats 400000 in
theorem bytes4_yes (s : ByteArray) (k : Int) (w : World) (hs : s.size ≤ 1048576) :
    Calls Try.prog 11 #[.string s, .int .i64 k] w fun e w' => e = .returned (.bool true) ∧ w' = w := by
  go_enter Try.func11, Try.ntmps11
  go_wp2
  go_ret
  exact ⟨rfl, rfl⟩
set_option maxHeartbeats 400000 in
theorem bytes4_no (s : ByteArray) (k : Int) (w : World) (hs : ¬ s.size ≤ 1048576) :
    Calls Try.prog 11 #[.string s, .int .i64 k] w fun e w' => e = .returned (.bool false) ∧ w' = w := by
  go_enter Try.func11, Try.ntmps11
  go_wp2
  go_ret
  exact ⟨rfl, rfl⟩
set_option maxHeartbeats 400000 in
theorem bytes5_yes (s : ByteArray) (w : World) (hs : s.size ≤ 1048576) :
    Calls Try.prog 13 #[.string s] w fun e w' => e = .returned (.bool true) ∧ w' = w := by
  go_enter Try.func13, Try.ntmps13
  go_wp2
  go_ret
  exact ⟨rfl, rfl⟩
set_option maxHeartbeats 400000 in
theorem bytes5_no (s : ByteArray) (w : World) (hs : ¬ s.size ≤ 1048576) :
    Calls Try.prog 13 #[.string s] w fun e w' => e = .returned (.bool false) ∧ w' = w := by
  go_enter Try.func13, Try.ntmps13
  go_wp2
  go_ret
  exact ⟨rfl, rfl⟩
end Go.Proofs.Qxb6617093a
