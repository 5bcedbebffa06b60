/-
  THE WALKS: filled, ZZFilled.
-/
import Derived.Test.Qxb6617100aRows
import Derived.WalkKit
import Derived.WalkSpells
import Derived.Deep.OwnRows
import Derived.Deep.QuietTactic
import Derived.BigQuiet
namespace Go.Proofs.Qxb6617100a
open Go.RowKit

theorem info21 : (Try.prog.info? 21).map (fun i => (i.zero, i.size, i.bytes)) = some (some (.int .i32 0), 1, 4) := by kernel_rfl

set_option maxHeartbeats 400000 in
theorem filled_any (n : Nat) (hn : n ≤ 65536) (v : Int) (w : World) :
    Calls Try.prog 11 #[.int .i64 n, .int .i32 v] w fun e w' => e = .returned (.slice (some ⟨w.heap.size, 0, none⟩) n n) ∧ w'.rowIs w.heap.size 21 n (fun _ => .int .i32 v) ∧ Below w.heap.size w w' := by
  have hmk := run_make_row' (P := Try.prog) 22 21 (.int .i32 0) 4 Try.underlying22 info21 rfl .i64 .i64 n (by omega) (by omega)
  go_enter Try.func11, Try.ntmps11
  go_wp2
  go_loopw [11] (fun i wr => ∃ k : Nat, k ≤ n ∧ i = .int .i64 k ∧ wr.rowIs w.heap.size 21 n (fun j => if j < k then .int .i32 v else .int .i32 0) ∧ Below w.heap.size w wr) (fun i _ => n - (intOf i).toNat)
  case atStart =>
    refine ⟨0, Nat.zero_le _, rfl, ?_, (Below.refl _ _).alloc (Nat.le_refl _) _⟩
    exact (World.rowIs_made w (.int .i32 0) n 21).congr (fun i _ => by simp)
  case round =>
    obtain ⟨k, hk, rfl, hrow, hb⟩ := hrel
    clear hmk
    by_cases hlt : k < n
    · have hc := hrow.cell hlt
      simp only [Nat.lt_irrefl, if_false] at hc
      have hf := hrow.frozen k
      have hI : (k : Int) < (n : Int) := by omega
      go_wp2
      go_roundw
      case rel =>
        refine ⟨k + 1, by omega, by go_num, ?_, hb.setCell (p := ⟨w.heap.size, k, none⟩) (Nat.le_refl _) _⟩
        exact (hrow.set k (.int .i32 v)).congr (fun j _ => by
          show (if j = k then _ else if j < k then _ else _) = _
          split
          · rw [if_pos (by omega)]
          · split
            · rw [if_pos (by omega)]
            · rw [if_neg (by omega)])
      case measure => simp [intOf]; omega
    · go_wp2
      go_ret
      exact ⟨rfl, hrow.congr (fun i hi => by rw [if_pos (by omega)]), hb⟩

set_option maxHeartbeats 400000 in
theorem zzfilled_any (n : Nat) (hn : n ≤ 65536) (v : Int) (w : World) :
    Calls Try.prog 7 #[.int .i64 n, .int .i32 v] w fun e w' => e = .returned (.slice (some ⟨w.heap.size, 0, none⟩) n n) ∧ w'.rowIs w.heap.size 21 n (fun _ => .int .i32 v) ∧ Below w.heap.size w w' := by
  go_enter Try.func7, Try.ntmps7
  go_wp2_with fail
  refine (filled_any n hn v w).mono ?_
  rintro e W1 ⟨rfl, hr, hb⟩
  go_wp2
  go_ret
  exact ⟨rfl, hr, hb⟩

theorem zzfilled_i (N : Int) (n : Nat) (hN : N = n) (hn : n ≤ 65536) (v : Int) (w : World) :
    Calls Try.prog 7 #[.int .i64 N, .int .i32 v] w fun e w' => e = .returned (.slice (some ⟨w.heap.size, 0, none⟩) n n) ∧ w'.rowIs w.heap.size 21 n (fun _ => .int .i32 v) ∧ Below w.heap.size w w' := by
  subst hN
  exact zzfilled_any n hn v w

end Go.Proofs.Qxb6617100a
