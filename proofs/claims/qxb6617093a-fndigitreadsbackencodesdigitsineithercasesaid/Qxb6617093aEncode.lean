/-
  THE WALK OF Encode.
-/
import Derived.Test.Qxb6617093aCount
import Derived.Test.Qxb6617093aShelf
import Derived.Lib.IndexBytes
namespace Go.Proofs.Qxb6617093a
open Go.RowKit Pct

theorem ret_str {a b : ByteArray} (h : a = b) : Ending.returned (.string a) = .returned (.string b) := by rw [h]

theorem bytes_self (s : ByteArray) : (ByteArray.mk s.data.toList.toArray) = s := by cases s; simp

/-- Grow, at the builder that Encode has just made. -/
theorem grow_here (w : World) (n : Int) (h0 : 0 ≤ n) (h1 : n ≤ 281474976710656) :
    Calls Try.prog 20 #[.pointer (some ⟨w.heap.size, 0, none⟩), .int .i64 n] (w.alloc (.cells #[.pointer none, .slice none 0 0] 34)) fun e w' =>
      e = .returned (.tuple #[]) ∧ Lib.IsBuilder 34 5 w.heap.size w.heap.size (Lib.byteCells []) w' ∧ Below w.heap.size w w' := by
  obtain ⟨m, rfl⟩ := Int.eq_ofNat_of_zero_le h0
  refine (Try.Builder_Grow_fresh w.heap.size w.heap.size m _ (Nat.le_refl _) (by simp [World.alloc, -World.alloc_eq]) (by simp [World.alloc, -World.alloc_eq]) (by omega)).mono ?_
  rintro e w' ⟨rfl, h1, h2⟩
  exact ⟨rfl, Or.inr h1, ((Below.refl _ _).alloc (Nat.le_refl _) _).trans h2⟩

/-- WriteByte, in bytes. -/
theorem wb_any (B : Nat) (acc : List UInt8) (c : UInt8) (i : Int) (hi : i = c.toNat) (w0 w : World) (h : Lib.IsBuilder 34 5 B B (Lib.byteCells acc) w) (hb : Below B w0 w) (hB : B ≤ w.heap.size) (hl : acc.length ≤ 100000000) :
    Calls Try.prog 21 #[.pointer (some ⟨B, 0, none⟩), .int .u8 i] w fun e w' =>
      e = .returned .nilIface ∧ Lib.IsBuilder 34 5 B B (Lib.byteCells (acc ++ [c])) w' ∧ Below B w0 w' ∧ B ≤ w'.heap.size := by
  refine (Try.Builder_WriteByte B B _ i w h (by rw [Lib.byteCells_length]; omega) hB).mono ?_
  rintro e w' ⟨rfl, h1, h2⟩
  refine ⟨rfl, Or.inr ?_, hb.trans h2, Nat.le_trans hB h2.size⟩
  rw [Lib.byteCells_append]
  subst hi
  exact h1

theorem enc_snoc (s : ByteArray) (k : Nat) (h : k < s.size) : enc (s.data.toList.take (k + 1)) = enc (s.data.toList.take k) ++ encB s[k] := by
  rw [take_snoc s k h, enc_append]
  simp [enc]

theorem enc_take_len (s : ByteArray) (k : Nat) (h : k ≤ s.size) : (enc (s.data.toList.take k)).length ≤ 3 * s.size := by
  have h1 := enc_length_le (s.data.toList.take k)
  have h2 := List.length_take_le k s.data.toList
  omega

set_option maxHeartbeats 1000000 in
set_option maxRecDepth 10000 in
theorem encode_any (s : ByteArray) (w : World) (hs : s.size ≤ 4194304) :
    Calls Try.prog 9 #[.string s] w fun e w' => e = .returned (.string ⟨(enc s.data.toList).toArray⟩) ∧ Below w.heap.size w w' := by
  go_enter Try.func9, Try.ntmps9
  go_wp2
  go_loop [3, 10] (fun n i => ∃ k : Nat, k ≤ s.size ∧ i = .int .i64 k ∧ n = .int .i64 (npc (s.data.toList.take k))) (fun _ i => s.size - (intOf i).toNat)
  case atStart => exact ⟨0, Nat.zero_le _, rfl, rfl⟩
  case round =>
    obtain ⟨k, hk, rfl, rfl⟩ := hrel
    have hd := npc_take_le s k
    by_cases hlt : k < s.size
    · have hsn := npc_snoc s k hlt
      cases hp : plainI s[k].toNat
      · have HS : Hid (npc (s.data.toList.take (k + 1)) = npc (s.data.toList.take k) + 1) := by rw [hp] at hsn; simp at hsn; exact hsn
        clear hsn
        go_wp2_with (go_at_call 19; refine (plain_any _ _).mono ?_; rintro e w' ⟨rfl, rfl⟩)
        go_round
        case rel => exact ⟨k + 1, by omega, by go_num, by rw [HS.out]; go_num⟩
        case measure => simp [intOf]; omega
      · have HS : Hid (npc (s.data.toList.take (k + 1)) = npc (s.data.toList.take k)) := by rw [hp] at hsn; simp at hsn; exact hsn
        clear hsn
        go_wp2_with (go_at_call 19; refine (plain_any _ _).mono ?_; rintro e w' ⟨rfl, rfl⟩)
        go_round
        case rel => exact ⟨k + 1, by omega, by go_num, by rw [HS.out]⟩
        case measure => simp [intOf]; omega
    · have htk : s.data.toList.take k = s.data.toList := List.take_of_length_le (by simp; omega)
      have hzz : npc (s.data.toList.take k) = npc s.data.toList := by rw [htk]
      have hnl : npc s.data.toList ≤ s.size := npc_le _
      by_cases hz : npc (s.data.toList.take k) = 0
      · have he : enc s.data.toList = s.data.toList := by rw [htk] at hz; exact enc_plain _ hz
        have HE : Hid (s = ByteArray.mk (enc s.data.toList).toArray) := by show _ = _; rw [he, bytes_self]
        clear he htk
        go_wp2
        go_ret
        exact ⟨ret_str HE.out, Below.refl _ _⟩
      · clear htk
        go_wp2_with fail
        refine (grow_here w _ (by omega) (by omega)).mono ?_
        rintro e W1 ⟨rfl, hI1, hb1⟩
        have hsz1 : w.heap.size ≤ W1.heap.size := hb1.size
        go_wp2_with fail
        go_loopw [32] (fun i wr => ∃ j : Nat, j ≤ s.size ∧ i = .int .i64 j ∧ Lib.IsBuilder 34 5 w.heap.size w.heap.size (Lib.byteCells (enc (s.data.toList.take j))) wr ∧ Below w.heap.size w wr ∧ w.heap.size ≤ wr.heap.size) (fun i _ => s.size - (intOf i).toNat)
        case atStart => exact ⟨0, Nat.zero_le _, rfl, hI1, hb1, hsz1⟩
        case round =>
          obtain ⟨j, hj, rfl, hI, hbw, hsz⟩ := hrel
          clear hI1 hb1 hsz1
          have hel := enc_take_len s j hj
          by_cases hjl : j < s.size
          · have HS : Hid (enc (s.data.toList.take (j + 1)) = enc (s.data.toList.take j) ++ encB s[j]) := enc_snoc s j hjl
            cases hp : plainI s[j].toNat
            · have hlt8 : s[j].toNat < 256 := UInt8.toNat_lt _
              have hq : 0 ≤ (s[j].toNat : Int) / 16 ∧ (s[j].toNat : Int) / 16 < 16 := by omega
              have hr : 0 ≤ (s[j].toNat : Int) % 16 ∧ (s[j].toNat : Int) % 16 < 16 := by omega
              have ha : bits .and .u8 (s[j].toNat : Int) 15 = (s[j].toNat : Int) % 16 := u8_and15 _ (by omega) (by omega)
              have hex1 := hexTab (s[j].toNat / 16) (by show _ < 16; omega)
              have hex2 := hexTab (s[j].toNat % 16) (by show _ < 16; omega)
              go_wp2_with (go_at_call 19; refine (plain_any _ _).mono ?_; rintro e w' ⟨rfl, rfl⟩)
              refine (wb_any w.heap.size _ 37 37 (by decide) w _ hI hbw hsz (by omega)).mono ?_
              rintro e W2 ⟨rfl, hI2, hb2, hs2⟩
              go_wp2_with fail
              refine (wb_any w.heap.size _ (hexU (s[j].toNat / 16)) _ (by rw [hexU_toNat _ (by omega)]) w _ hI2 hb2 hs2 (by simp; omega)).mono ?_
              rintro e W3 ⟨rfl, hI3, hb3, hs3⟩
              go_wp2_with fail
              refine (wb_any w.heap.size _ (hexU (s[j].toNat % 16)) _ (by rw [hexU_toNat _ (by omega)]) w _ hI3 hb3 hs3 (by simp; omega)).mono ?_
              rintro e W4 ⟨rfl, hI4, hb4, hs4⟩
              go_wp2_with fail
              go_roundw
              case rel => exact ⟨j + 1, by omega, by go_num, by rw [HS.out]; simp [encB, hp]; simpa using hI4, hb4, hs4⟩
              case measure => simp [intOf]; omega
            · go_wp2_with (go_at_call 19; refine (plain_any _ _).mono ?_; rintro e w' ⟨rfl, rfl⟩)
              refine (wb_any w.heap.size _ s[j] _ rfl w _ hI hbw hsz (by omega)).mono ?_
              rintro e W2 ⟨rfl, hI2, hb2, hs2⟩
              go_wp2_with fail
              go_roundw
              case rel => exact ⟨j + 1, by omega, by go_num, by rw [HS.out]; simp [encB, hp]; exact hI2, hb2, hs2⟩
              case measure => simp [intOf]; omega
          · have htj : s.data.toList.take j = s.data.toList := List.take_of_length_le (by simp; omega)
            rw [htj] at hI
            clear htj
            go_wp2_with fail
            refine (Try.Builder_String_any w.heap.size w.heap.size (enc s.data.toList) _ hI hsz).mono ?_
            rintro e W2 ⟨rfl, hb2⟩
            go_wp2_with fail
            go_ret
            exact ⟨rfl, hbw.trans hb2⟩

/-- Encode, its answer under a name. -/
theorem encode_ex (s : ByteArray) (w : World) (hs : s.size ≤ 4194304) :
    Calls Try.prog 9 #[.string s] w fun e w' => ∃ r : ByteArray, e = .returned (.string r) ∧ Hid (r.data.toList = enc s.data.toList) ∧ Below w.heap.size w w' :=
  (encode_any s w hs).mono fun e w' ⟨he, hb⟩ => ⟨_, he, by show _ = _; simp, hb⟩

end Go.Proofs.Qxb6617093a
