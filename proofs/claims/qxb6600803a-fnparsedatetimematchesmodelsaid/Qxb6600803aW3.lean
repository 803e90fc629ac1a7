import Derived.Test.Qxb6600803aW2
namespace Go.Proofs.Qxb6600803a
open Go.RowKit

/-- No byte c from a on, up to b. -/
def NoB (s : ByteArray) (c a b : Nat) : Prop := ∀ j, a ≤ j → j < b → at_ s j ≠ c
theorem NoB.nil (s : ByteArray) (c a : Nat) : NoB s c a a := fun _ _ _ => by omega
theorem NoB.succ {s : ByteArray} {c a b : Nat} (h : NoB s c a b) (hb : at_ s b ≠ c) : NoB s c a (b + 1) := fun j h1 h2 => by
  by_cases e : j = b
  · rw [e]; exact hb
  · exact h j h1 (by omega)

def E0 : ByteArray := ⟨#[]⟩

/-- How far the loop has come: the separators before k. -/
def FS (s : ByteArray) (c k nn fr : Nat) (p0 p1 p2 : ByteArray) : Prop :=
  (nn = 0 ∧ fr = 0 ∧ p0 = E0 ∧ p1 = E0 ∧ p2 = E0 ∧ NoB s c 0 k) ∨
  (nn = 1 ∧ p1 = E0 ∧ p2 = E0 ∧ ∃ i, i < k ∧ at_ s i = c ∧ NoB s c 0 i ∧ NoB s c (i + 1) k ∧ fr = i + 1 ∧ p0 = s.extract 0 i) ∨
  (nn = 2 ∧ p2 = E0 ∧ ∃ i j, i < j ∧ j < k ∧ at_ s i = c ∧ at_ s j = c ∧ NoB s c 0 i ∧ NoB s c (i + 1) j ∧ NoB s c (j + 1) k ∧ fr = j + 1 ∧ p0 = s.extract 0 i ∧ p1 = s.extract (i + 1) j)

/-- What fields answers. -/
def FA (s : ByteArray) (c : Nat) (p0 p1 p2 : ByteArray) (n : Int) (ok : Bool) : Prop :=
  (n = 1 ∧ ok = true ∧ NoB s c 0 s.size ∧ p0 = s ∧ p1 = E0 ∧ p2 = E0) ∨
  (n = 2 ∧ ok = true ∧ p2 = E0 ∧ ∃ i, i < s.size ∧ at_ s i = c ∧ NoB s c 0 i ∧ NoB s c (i + 1) s.size ∧ p0 = s.extract 0 i ∧ p1 = s.extract (i + 1) s.size) ∨
  (n = 3 ∧ ok = true ∧ ∃ i j, i < j ∧ j < s.size ∧ at_ s i = c ∧ at_ s j = c ∧ NoB s c 0 i ∧ NoB s c (i + 1) j ∧ NoB s c (j + 1) s.size ∧ p0 = s.extract 0 i ∧ p1 = s.extract (i + 1) j ∧ p2 = s.extract (j + 1) s.size) ∨
  (ok = false ∧ ∃ i j k, i < j ∧ j < k ∧ k < s.size ∧ at_ s i = c ∧ at_ s j = c ∧ at_ s k = c)

theorem ext_all (s : ByteArray) : s.extract 0 s.size = s := by
  apply ByteArray.ext; simp

set_option maxRecDepth 100000 in
set_option maxHeartbeats 2000000 in
theorem fields_any (s : ByteArray) (c : Nat) (cI : Int) (hcI : cI = (c : Int)) (w : World) (hs : s.size ≤ 1048576) :
    Calls Try.prog 24 #[.string s, .int .u8 cI] w fun e w' => (∃ p0 p1 p2 n ok, FA s c p0 p1 p2 n ok ∧ e = .returned (.tuple #[.agg #[.string p0, .string p1, .string p2], .int .i64 n, .bool ok])) ∧ Below w.heap.size w w' := by
  subst hcI
  go_enter Try.func24, Try.ntmps24
  go_wp2
  go_loopg [5, 7, 8, 11] s.size (fun g s5 s7 _ s11 wx => ∃ (k nn fr : Nat) (p0 p1 p2 : ByteArray), k ≤ s.size ∧ s.size ≤ k + g ∧ fr ≤ k ∧ s5 = .int .i64 nn ∧ s7 = .int .i64 fr ∧ s11 = .int .i64 k ∧ FS s c k nn fr p0 p1 p2 ∧ wx = w.alloc (.cells #[.string p0, .string p1, .string p2] 47))
  case atStart => exact ⟨0, 0, 0, E0, E0, E0, by omega, by omega, by omega, rfl, rfl, rfl, .inl ⟨rfl, rfl, rfl, rfl, rfl, NoB.nil _ _ _⟩, rfl⟩
  case round =>
    obtain ⟨k, nn, fr, p0, p1, p2, hk, hkg, hfr, rfl, rfl, rfl, hfs, rfl⟩ := hrel
    have hbel : Below w.heap.size w (w.alloc (.cells #[.string p0, .string p1, .string p2] 47)) := (Below.refl _ _).alloc (Nat.le_refl _) _
    by_cases hlt : k < s.size
    · have hltI : (k : Int) < (s.size : Int) := by omega
      by_cases hc : at_ s k = c
      · have hcb : (((s[k]'hlt).toNat : Int) != (c : Int)) = false := by rw [at_int hlt, hc]; simp
        have q1 : (fr : Int) ≤ (k : Int) := by omega
        have q2 : (k : Int) ≤ (s.size : Int) := by omega
        rcases hfs with ⟨rfl, rfl, rfl, rfl, rfl, n1⟩ | ⟨rfl, rfl, rfl, i, hi, ci, n1, n2, rfl, rfl⟩ | ⟨rfl, rfl, i, j, hij, hj, ci, cj, n1, n2, n3, rfl, rfl, rfl⟩
        · have HS : Hid (FS s c (k + 1) 1 (k + 1) (s.extract 0 k) E0 E0) := .inr (.inl ⟨rfl, rfl, rfl, k, by omega, hc, n1, NoB.nil _ _ _, rfl, rfl⟩)
          clear hc n1 hbel
          go_wp2
          go_roundg (s.size - (k + 1))
          case measure => omega
          case rel => exact ⟨k + 1, 1, k + 1, s.extract 0 k, E0, E0, by omega, by omega, by omega, by go_num, by go_num, by go_num, HS.out, rfl⟩
        · have HS : Hid (FS s c (k + 1) 2 (k + 1) (s.extract 0 i) (s.extract (i + 1) k) E0) := .inr (.inr ⟨rfl, rfl, i, k, hi, by omega, ci, hc, n1, n2, NoB.nil _ _ _, rfl, rfl, rfl⟩)
          have q3 : (i : Int) + 1 ≤ (k : Int) := by omega
          have q4 : (0 : Int) ≤ (i : Int) + 1 := by omega
          clear hc n1 n2 ci hbel
          go_wp2
          go_roundg (s.size - (k + 1))
          case measure => omega
          case rel => exact ⟨k + 1, 2, k + 1, s.extract 0 i, s.extract (i + 1) k, E0, by omega, by omega, by omega, by go_num, by go_num, by go_num, HS.out, rfl⟩
        · have HS : Hid (FA s c (s.extract 0 i) (s.extract (i + 1) j) E0 3 false) := .inr (.inr (.inr ⟨rfl, i, j, k, hij, hj, hlt, ci, cj, hc⟩))
          clear hc n1 n2 n3 ci cj
          go_wp2
          refine bodyPost_ret (v := .tuple #[.agg #[.string (s.extract 0 i), .string (s.extract (i + 1) j), .string E0], .int .i64 3, .bool false]) (by simp [results, Try.results24, go_sem]) rfl ?_
          exact ⟨⟨_, _, _, _, _, HS.out, rfl⟩, hbel⟩
      · have hcb : (((s[k]'hlt).toNat : Int) != (c : Int)) = true := by rw [at_int hlt]; exact bne_iff_ne.2 (by omega)
        have HS : Hid (FS s c (k + 1) nn fr p0 p1 p2) := by
          rcases hfs with ⟨h1, h2, h3, h4, h5, n1⟩ | ⟨h1, h2, h3, i, hi, ci, n1, n2, h4, h5⟩ | ⟨h1, h2, i, j, hij, hj, ci, cj, n1, n2, n3, h4, h5, h6⟩
          · exact .inl ⟨h1, h2, h3, h4, h5, n1.succ hc⟩
          · exact .inr (.inl ⟨h1, h2, h3, i, by omega, ci, n1, n2.succ hc, h4, h5⟩)
          · exact .inr (.inr ⟨h1, h2, i, j, hij, by omega, ci, cj, n1, n2, n3.succ hc, h4, h5, h6⟩)
        clear hfs hc hbel
        go_wp2
        go_roundg (s.size - (k + 1))
        case measure => omega
        case rel => exact ⟨k + 1, nn, fr, p0, p1, p2, by omega, by omega, by omega, rfl, rfl, by go_num, HS.out, rfl⟩
    · obtain rfl : k = s.size := by omega
      have q1 : (fr : Int) ≤ (s.size : Int) := by omega
      rcases hfs with ⟨rfl, rfl, rfl, rfl, rfl, n1⟩ | ⟨rfl, rfl, rfl, i, hi, ci, n1, n2, rfl, rfl⟩ | ⟨rfl, rfl, i, j, hij, hj, ci, cj, n1, n2, n3, rfl, rfl, rfl⟩
      · have HS : Hid (FA s c (s.extract 0 s.size) E0 E0 1 true) := .inl ⟨rfl, rfl, n1, ext_all s, rfl, rfl⟩
        clear n1 hbel
        go_wp2
        refine bodyPost_ret (v := .tuple #[.agg #[.string (s.extract 0 s.size), .string E0, .string E0], .int .i64 1, .bool true]) (by simp [results, Try.results24, go_sem]) rfl ?_
        exact ⟨⟨_, _, _, _, _, HS.out, rfl⟩, (Below.refl _ _).alloc (Nat.le_refl _) _⟩
      · have HS : Hid (FA s c (s.extract 0 i) (s.extract (i + 1) s.size) E0 2 true) := .inr (.inl ⟨rfl, rfl, rfl, i, hi, ci, n1, n2, rfl, rfl⟩)
        clear n1 n2 ci hbel
        go_wp2
        refine bodyPost_ret (v := .tuple #[.agg #[.string (s.extract 0 i), .string (s.extract (i + 1) s.size), .string E0], .int .i64 2, .bool true]) (by simp [results, Try.results24, go_sem]) rfl ?_
        exact ⟨⟨_, _, _, _, _, HS.out, rfl⟩, (Below.refl _ _).alloc (Nat.le_refl _) _⟩
      · have HS : Hid (FA s c (s.extract 0 i) (s.extract (i + 1) j) (s.extract (j + 1) s.size) 3 true) := .inr (.inr (.inl ⟨rfl, rfl, i, j, hij, hj, ci, cj, n1, n2, n3, rfl, rfl, rfl⟩))
        clear n1 n2 n3 ci cj hbel
        go_wp2
        refine bodyPost_ret (v := .tuple #[.agg #[.string (s.extract 0 i), .string (s.extract (i + 1) j), .string (s.extract (j + 1) s.size)], .int .i64 3, .bool true]) (by simp [results, Try.results24, go_sem]) rfl ?_
        exact ⟨⟨_, _, _, _, _, HS.out, rfl⟩, (Below.refl _ _).alloc (Nat.le_refl _) _⟩

end Go.Proofs.Qxb6600803a
