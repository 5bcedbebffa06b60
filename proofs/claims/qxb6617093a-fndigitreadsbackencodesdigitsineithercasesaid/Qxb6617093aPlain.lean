/-
  THE PLAIN LAW OF THIS SEAT: what the written form is, on lists of bytes. No Go in sight; imports nothing of the dump.
-/
namespace Go.Proofs.Qxb6617093a.Pct

def plainI (c : Int) : Bool :=
  (decide (97 ≤ c) && decide (c ≤ 122)) || (decide (65 ≤ c) && decide (c ≤ 90)) || (decide (48 ≤ c) && decide (c ≤ 57)) || decide (c = 95) || decide (c = 45) || decide (c = 46)

def hexN (n : Nat) : Nat := if n < 10 then 48 + n else 55 + n

def hexU (n : Nat) : UInt8 := UInt8.ofNat (hexN n)

def encB (c : UInt8) : List UInt8 := if plainI c.toNat then [c] else [37, hexU (c.toNat / 16), hexU (c.toNat % 16)]

def enc (l : List UInt8) : List UInt8 := l.flatMap encB

def npc (l : List UInt8) : Nat := l.countP (fun c => !plainI c.toNat)

theorem plainI_iff (c : Int) : plainI c = true ↔ (97 ≤ c ∧ c ≤ 122) ∨ (65 ≤ c ∧ c ≤ 90) ∨ (48 ≤ c ∧ c ≤ 57) ∨ c = 95 ∨ c = 45 ∨ c = 46 := by
  simp [plainI, or_assoc]

theorem plainI_pct : plainI 37 = false := by decide

theorem hexN_le (n : Nat) (h : n < 16) : hexN n < 256 := by unfold hexN; split <;> omega

theorem hexU_toNat (n : Nat) (h : n < 16) : (hexU n).toNat = hexN n := by
  have := hexN_le n h
  simp [hexU]; omega

theorem hexN_inj (a b : Nat) (ha : a < 16) (hb : b < 16) (h : hexN a = hexN b) : a = b := by
  unfold hexN at h; split at h <;> split at h <;> omega

theorem enc_nil : enc [] = [] := rfl

theorem enc_cons (c : UInt8) (l : List UInt8) : enc (c :: l) = encB c ++ enc l := by simp [enc]

theorem enc_append (a b : List UInt8) : enc (a ++ b) = enc a ++ enc b := by simp [enc]

theorem npc_cons (c : UInt8) (l : List UInt8) : npc (c :: l) = npc l + if plainI c.toNat then 0 else 1 := by
  unfold npc
  rw [List.countP_cons]
  cases h : plainI c.toNat <;> simp

theorem npc_append (a b : List UInt8) : npc (a ++ b) = npc a + npc b := by simp [npc]

theorem npc_le (l : List UInt8) : npc l ≤ l.length := List.countP_le_length

theorem encB_length (c : UInt8) : (encB c).length = 1 + 2 * if plainI c.toNat then 0 else 1 := by
  unfold encB; split <;> simp

theorem enc_length (l : List UInt8) : (enc l).length = l.length + 2 * npc l := by
  induction l with
  | nil => rfl
  | cons c l ih =>
    rw [enc_cons, npc_cons, List.length_append, encB_length, ih]
    simp only [List.length_cons]
    omega

theorem enc_plain (l : List UInt8) (h : npc l = 0) : enc l = l := by
  induction l with
  | nil => rfl
  | cons c l ih =>
    rw [npc_cons] at h
    have h1 : npc l = 0 := by omega
    have h2 : plainI c.toNat = true := by
      cases hp : plainI c.toNat
      · rw [hp] at h; simp at h
      · rfl
    rw [enc_cons, ih h1]
    simp [encB, h2]

theorem enc_length_le (l : List UInt8) : (enc l).length ≤ 3 * l.length := by
  rw [enc_length]; have := npc_le l; omega

/-- digit, zzUpperASCII, zzLowerASCII. -/
def digI (c : Int) : Int := if 48 ≤ c ∧ c ≤ 57 then c - 48 else if 97 ≤ c ∧ c ≤ 102 then c - 87 else if 65 ≤ c ∧ c ≤ 70 then c - 55 else -1
def upI (c : Int) : Int := if 97 ≤ c ∧ c ≤ 122 then c - 32 else c
def loI (c : Int) : Int := if 65 ≤ c ∧ c ≤ 90 then c + 32 else c

end Go.Proofs.Qxb6617093a.Pct
