import Derived.Laws.RangeAny
namespace Go.Proofs.Qxb6600803a

/-- The byte at j as a number, 300 beyond the end. -/
def at_ (s : ByteArray) (j : Nat) : Nat := if h : j < s.size then (s[j]'h).toNat else 300
def isD (v : Nat) : Bool := decide (48 ≤ v ∧ v ≤ 57)

theorem at_in {s : ByteArray} {j : Nat} (h : j < s.size) : at_ s j = (s[j]'h).toNat := by unfold at_; rw [dif_pos h]
theorem at_out {s : ByteArray} {j : Nat} (h : ¬ j < s.size) : at_ s j = 300 := by unfold at_; rw [dif_neg h]
theorem at_lt {s : ByteArray} {j : Nat} (h : at_ s j < 300) : j < s.size := by
  apply Classical.byContradiction
  intro e
  rw [at_out e] at h; omega
theorem isD_iff {v : Nat} : isD v = true ↔ 48 ≤ v ∧ v ≤ 57 := by unfold isD; simp
theorem isD_not {v : Nat} : isD v = false ↔ ¬ (48 ≤ v ∧ v ≤ 57) := by unfold isD; simp
theorem isD_in {s : ByteArray} {j : Nat} (h : isD (at_ s j) = true) : j < s.size := at_lt (by have := isD_iff.1 h; omega)

/-- The number that the first k bytes spell. -/
def valTo (s : ByteArray) : Nat → Nat
  | 0 => 0
  | k + 1 => 10 * valTo s k + (at_ s k - 48)
def AllD (s : ByteArray) (k : Nat) : Prop := ∀ j, j < k → isD (at_ s j) = true

theorem AllD.zero (s : ByteArray) : AllD s 0 := fun _ h => by omega
theorem AllD.succ {s : ByteArray} {k : Nat} (h : AllD s k) (hk : isD (at_ s k) = true) : AllD s (k + 1) := fun j hj => by
  by_cases e : j = k
  · rw [e]; exact hk
  · exact h j (by omega)
theorem valTo_lt {s : ByteArray} : ∀ k, AllD s k → valTo s k < 10 ^ k
  | 0, _ => by simp [valTo]
  | k + 1, h => by
    have ih := valTo_lt k fun j hj => h j (by omega)
    have := isD_iff.1 (h k (by omega))
    unfold valTo
    rw [Nat.pow_succ]; omega
theorem valTo_le {s : ByteArray} {k : Nat} (h : AllD s k) (h9 : k ≤ 9) : valTo s k ≤ 999999999 := by
  have := valTo_lt k h
  have : 10 ^ k ≤ 10 ^ 9 := Nat.pow_le_pow_right (by omega) h9
  omega

/-! The time of day, by its places. -/
def twoOk (s : ByteArray) (k : Nat) : Bool := isD (at_ s k) && isD (at_ s (k + 1))
def twoV (s : ByteArray) (k : Nat) : Nat := (at_ s k - 48) * 10 + (at_ s (k + 1) - 48)
def frD (s : ByteArray) (j : Nat) : Nat := if j < s.size then at_ s j - 48 else 0
def frV (s : ByteArray) : Nat → Nat
  | 0 => 0
  | k + 1 => frV s k * 10 + frD s (9 + k)
def FrOk (s : ByteArray) (k : Nat) : Prop := ∀ j, j < k → 9 + j < s.size → isD (at_ s (9 + j)) = true
def NoC (s : ByteArray) : Prop := ∀ j, 18 ≤ j → at_ s j ≠ 58

def TimeOk (s : ByteArray) (p h m ns : Nat) : Prop :=
  twoOk s 0 = true ∧ h = twoV s 0 ∧ h ≤ 23 ∧
  ((s.size = 2 ∧ p = 4 ∧ m = 0 ∧ ns = 0) ∨
   (at_ s 2 = 58 ∧ twoOk s 3 = true ∧ m = twoV s 3 ∧ m ≤ 59 ∧
    ((s.size = 5 ∧ p = 5 ∧ ns = 0) ∨
     (at_ s 5 = 58 ∧ twoOk s 6 = true ∧ twoV s 6 ≤ 60 ∧ p = 6 ∧
      ((s.size = 8 ∧ ns = twoV s 6 * 1000000000) ∨
       (at_ s 8 = 46 ∧ 9 < s.size ∧ FrOk s 9 ∧ NoC s ∧ ns = twoV s 6 * 1000000000 + frV s 9))))))

theorem at_size {s : ByteArray} {j n : Nat} (h : s.size = n) (hj : n ≤ j) : at_ s j = 300 := at_out (by omega)

theorem TimeOk.uniq {s : ByteArray} {p h m ns p' h' m' ns' : Nat} (H : TimeOk s p h m ns) (K : TimeOk s p' h' m' ns') : p = p' ∧ h = h' ∧ m = m' ∧ ns = ns' := by
  obtain ⟨_, h1, _, H⟩ := H
  obtain ⟨_, k1, _, K⟩ := K
  rcases H with ⟨a1, a2, a3, a4⟩ | ⟨a1, _, a2, _, H⟩
  · have e2 := at_size (j := 2) a1 (by omega)
    rcases K with ⟨b1, b2, b3, b4⟩ | ⟨b1, _, _, _, _⟩
    · omega
    · omega
  · have s2 := at_lt (s := s) (j := 2) (by omega)
    rcases K with ⟨b1, b2, b3, b4⟩ | ⟨b1, _, b2, _, K⟩
    · omega
    · rcases H with ⟨c1, c2, c3⟩ | ⟨c1, _, _, c2, H⟩
      · have e5 := at_size (j := 5) c1 (by omega)
        rcases K with ⟨d1, d2, d3⟩ | ⟨d1, _, _, d2, K⟩
        · omega
        · omega
      · have s5 := at_lt (s := s) (j := 5) (by omega)
        rcases K with ⟨d1, d2, d3⟩ | ⟨d1, _, _, d2, K⟩
        · omega
        · rcases H with ⟨e1, e2⟩ | ⟨e1, _, _, _, e2⟩
          · have e8 := at_size (j := 8) e1 (by omega)
            rcases K with ⟨f1, f2⟩ | ⟨f1, _, _, _, f2⟩
            · omega
            · omega
          · have s8 := at_lt (s := s) (j := 8) (by omega)
            rcases K with ⟨f1, f2⟩ | ⟨f1, _, _, _, f2⟩
            · omega
            · omega

def NoTime (s : ByteArray) : Prop := ∀ p h m ns, ¬ TimeOk s p h m ns

theorem no1 {s : ByteArray} (h : twoOk s 0 = false) : NoTime s := by
  rintro p h' m ns ⟨a, _⟩; rw [h] at a; exact absurd a (by decide)
theorem no2 {s : ByteArray} (h : 23 < twoV s 0) : NoTime s := by
  rintro p h' m ns ⟨_, a, b, _⟩; omega
theorem no3 {s : ByteArray} (h2 : s.size ≠ 2) (h : at_ s 2 ≠ 58) : NoTime s := by
  rintro p h' m ns ⟨_, _, _, ⟨a, _⟩ | ⟨a, _⟩⟩ <;> omega
theorem no4 {s : ByteArray} (h2 : s.size ≠ 2) (h : twoOk s 3 = false) : NoTime s := by
  rintro p h' m ns ⟨_, _, _, ⟨a, _⟩ | ⟨_, a, _⟩⟩
  · omega
  · rw [h] at a; exact absurd a (by decide)
theorem no5 {s : ByteArray} (h2 : s.size ≠ 2) (h : 59 < twoV s 3) : NoTime s := by
  rintro p h' m ns ⟨_, _, _, ⟨a, _⟩ | ⟨_, _, a, b, _⟩⟩ <;> omega
theorem no6 {s : ByteArray} (h2 : s.size ≠ 2) (h5 : s.size ≠ 5) (h : at_ s 5 ≠ 58) : NoTime s := by
  rintro p h' m ns ⟨_, _, _, ⟨a, _⟩ | ⟨_, _, _, _, ⟨a, _⟩ | ⟨a, _⟩⟩⟩ <;> omega
theorem no7 {s : ByteArray} (h2 : s.size ≠ 2) (h5 : s.size ≠ 5) (h : twoOk s 6 = false) : NoTime s := by
  rintro p h' m ns ⟨_, _, _, ⟨a, _⟩ | ⟨_, _, _, _, ⟨a, _⟩ | ⟨_, a, _⟩⟩⟩
  · omega
  · omega
  · rw [h] at a; exact absurd a (by decide)
theorem no8 {s : ByteArray} (h2 : s.size ≠ 2) (h5 : s.size ≠ 5) (h : 60 < twoV s 6) : NoTime s := by
  rintro p h' m ns ⟨_, _, _, ⟨a, _⟩ | ⟨_, _, _, _, ⟨a, _⟩ | ⟨_, _, a, _⟩⟩⟩ <;> omega
theorem no9 {s : ByteArray} (h2 : s.size ≠ 2) (h5 : s.size ≠ 5) (h8 : s.size ≠ 8) (h : at_ s 8 ≠ 46) : NoTime s := by
  rintro p h' m ns ⟨_, _, _, ⟨a, _⟩ | ⟨_, _, _, _, ⟨a, _⟩ | ⟨_, _, _, _, ⟨a, _⟩ | ⟨a, _⟩⟩⟩⟩ <;> omega
theorem no10 {s : ByteArray} (h : s.size = 9) : NoTime s := by
  rintro p h' m ns ⟨_, _, _, ⟨a, _⟩ | ⟨_, _, _, _, ⟨a, _⟩ | ⟨_, _, _, _, ⟨a, _⟩ | ⟨_, a, _⟩⟩⟩⟩ <;> omega
theorem no11 {s : ByteArray} (h2 : s.size ≠ 2) (h5 : s.size ≠ 5) (h8 : s.size ≠ 8) (h : ¬ FrOk s 9) : NoTime s := by
  rintro p h' m ns ⟨_, _, _, ⟨a, _⟩ | ⟨_, _, _, _, ⟨a, _⟩ | ⟨_, _, _, _, ⟨a, _⟩ | ⟨_, _, a, _⟩⟩⟩⟩
  · omega
  · omega
  · omega
  · exact h a
theorem no12 {s : ByteArray} (h2 : s.size ≠ 2) (h5 : s.size ≠ 5) (h8 : s.size ≠ 8) (h : ¬ NoC s) : NoTime s := by
  rintro p h' m ns ⟨_, _, _, ⟨a, _⟩ | ⟨_, _, _, _, ⟨a, _⟩ | ⟨_, _, _, _, ⟨a, _⟩ | ⟨_, _, _, a, _⟩⟩⟩⟩
  · omega
  · omega
  · omega
  · exact h a

theorem frD_le {s : ByteArray} {j : Nat} (h : j < s.size → isD (at_ s j) = true) : frD s j ≤ 9 := by
  unfold frD
  split
  · have := isD_iff.1 (h ‹_›); omega
  · omega
theorem frV_lt {s : ByteArray} : ∀ k, FrOk s k → frV s k < 10 ^ k
  | 0, _ => by simp [frV]
  | k + 1, h => by
    have ih := frV_lt k fun j hj => h j (by omega)
    have := frD_le (s := s) (j := 9 + k) (h k (by omega))
    unfold frV
    rw [Nat.pow_succ]; omega
theorem frV_le {s : ByteArray} {k : Nat} (h : FrOk s k) (h9 : k ≤ 9) : frV s k ≤ 999999999 := by
  have := frV_lt k h
  have : 10 ^ k ≤ 10 ^ 9 := Nat.pow_le_pow_right (by omega) h9
  omega
theorem FrOk.zero (s : ByteArray) : FrOk s 0 := fun _ h => by omega
theorem FrOk.succ {s : ByteArray} {k : Nat} (h : FrOk s k) (hk : 9 + k < s.size → isD (at_ s (9 + k)) = true) : FrOk s (k + 1) := fun j hj => by
  by_cases e : j = k
  · rw [e]; exact hk
  · exact h j (by omega)

end Go.Proofs.Qxb6600803a
