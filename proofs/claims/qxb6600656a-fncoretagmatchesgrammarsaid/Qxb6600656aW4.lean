import Derived.Test.Qxb6600656aW3
namespace Go.Proofs.Qxb6600656a
open Go.RowKit

theorem byte_cls (c : Int) : (48 ≤ c ∧ c ≤ 55) ∨ (c < 48) ∨ (c = 56) ∨ (c = 57) ∨ (58 ≤ c ∧ c < 65) ∨ (65 ≤ c ∧ c ≤ 70) ∨ (71 ≤ c ∧ c < 97) ∨ (97 ≤ c ∧ c ≤ 102) ∨ (103 ≤ c) := by omega

theorem dig8_iff (c : UInt8) : digB 8 c = true ↔ 48 ≤ (c.toNat : Int) ∧ (c.toNat : Int) ≤ 55 := by
  unfold digB dval
  rw [decide_eq_true_eq]
  split
  · omega
  · split
    · omega
    · split
      · omega
      · omega
theorem dig16_iff (c : UInt8) : digB 16 c = true ↔ (48 ≤ (c.toNat : Int) ∧ (c.toNat : Int) ≤ 57) ∨ (97 ≤ (c.toNat : Int) ∧ (c.toNat : Int) ≤ 102) ∨ (65 ≤ (c.toNat : Int) ∧ (c.toNat : Int) ≤ 70) := by
  unfold digB dval
  rw [decide_eq_true_eq]
  split
  · omega
  · split
    · omega
    · split
      · omega
      · omega
theorem dig_no {b : Nat} {c : UInt8} (h : ¬ digB b c = true) : digB b c = false := by simpa using h

/-- The bytes from 2 on, up to k, are digits. -/
def From2 (b : Nat) (s : ByteArray) (k : Nat) : Prop := ∀ j (h : j < s.size), 2 ≤ j → j < k → digB b (s[j]'h) = true
theorem From2.start (b : Nat) (s : ByteArray) : From2 b s 2 := fun _ _ _ h => by omega
theorem From2.succ {b : Nat} {s : ByteArray} {k : Nat} (h : From2 b s k) (hk : k < s.size) (hd : digB b (s[k]'hk) = true) : From2 b s (k + 1) := fun j hj h2 h1 => by
  by_cases e : j = k
  · subst e; exact hd
  · exact h j hj h2 (by omega)

theorem ext_at (s : ByteArray) (j : Nat) (h : j + 2 < s.size) : ∃ h' : j < (s.extract 2 s.size).size, (s.extract 2 s.size)[j]'h' = s[j + 2]'h := by
  have h' : j < (s.extract 2 s.size).size := by simp; omega
  refine ⟨h', ?_⟩
  have e1 := byteAt? (s.extract 2 s.size) j h'
  have e2 := byteAt? s (j + 2) h
  rw [ext_from, List.getElem?_drop, show 2 + j = j + 2 from by omega, e2] at e1
  exact (Option.some.inj e1).symm

theorem from2_all {b : Nat} {s : ByteArray} (h3 : 3 ≤ s.size) (h : From2 b s s.size) : digsB b (s.extract 2 s.size) = true := by
  refine digs_all (by simp; omega) fun j hj _ => ?_
  have hj2 : j + 2 < s.size := by simp at hj; omega
  obtain ⟨h', e⟩ := ext_at s j hj2
  rw [e]
  exact h (j + 2) hj2 (by omega) (by omega)
theorem from2_no {b : Nat} {s : ByteArray} {k : Nat} (hk : k < s.size) (h2 : 2 ≤ k) (hd : digB b (s[k]'hk) = false) : digsB b (s.extract 2 s.size) = false := by
  obtain ⟨h', e⟩ := ext_at s (k - 2) (by omega)
  refine digs_no h' ?_
  rw [e]
  have : s[k - 2 + 2]'(by omega) = s[k]'hk := by congr 1; omega
  rw [this]; exact hd

theorem list_two {s : ByteArray} (h : 2 ≤ s.size) : s.data.toList.take 2 = [s[0], s[1]] := by
  have e0 := byteAt? s 0 (by omega)
  have e1 := byteAt? s 1 (by omega)
  cases hl : s.data.toList with
  | nil => rw [hl] at e0; simp at e0
  | cons a l =>
    cases l with
    | nil => rw [hl] at e1; simp at e1
    | cons b l => rw [hl] at e0 e1; simp at e0 e1; rw [e0, e1]; rfl

/-- Of the radix test, in the tests' own words. -/
theorem rad_eq {s : ByteArray} (h : 3 ≤ s.size) : rad s.data.toList = ((s[0] == 48 && s[1] == 111 && digsB 8 (s.extract 2 s.size)) || (s[0] == 48 && s[1] == 120 && digsB 16 (s.extract 2 s.size))) := by
  unfold rad digsB
  rw [list_len, list_two (by omega), decide_eq_true (show 2 < s.size by omega), ext_from]
  have e : ∀ a b c d : UInt8, ([a, b] == [c, d]) = (a == c && b == d) := fun a b c d => by simp
  rw [e, e]; rfl
theorem rad_short {s : ByteArray} (h : s.size < 3) : rad s.data.toList = false := by
  unfold rad
  rw [list_len, decide_eq_false (by omega)]; rfl

theorem beq_of_int {c : UInt8} {n : UInt8} (h : (c.toNat : Int) = (n.toNat : Int)) : (c == n) = true := by
  rw [beq_iff_eq]; exact UInt8.toNat_inj.1 (by omega)
theorem beq_not_int {c : UInt8} {n : UInt8} (h : ¬ (c.toNat : Int) = (n.toNat : Int)) : (c == n) = false := by
  rw [beq_eq_false_iff_ne]; exact fun e => h (by rw [e])

set_option maxHeartbeats 400000 in
theorem radix_short (s : ByteArray) (w : World) (h : s.size < 3) :
    Calls Try.prog 14 #[.string s] w fun e w' => e = .returned (.bool (rad s.data.toList)) ∧ w' = w := by
  rw [rad_short h]
  have h' : (s.size : Int) < 3 := by omega
  go_enter Try.func14, Try.ntmps14
  go_wp2
  go_ret
  exact ⟨rfl, rfl⟩

set_option maxHeartbeats 400000 in
theorem radix_head (s : ByteArray) (w : World) (h : 3 ≤ s.size) (h0 : ¬ ((s[0]'(by omega)).toNat : Int) = 48) :
    Calls Try.prog 14 #[.string s] w fun e w' => e = .returned (.bool (rad s.data.toList)) ∧ w' = w := by
  rw [rad_eq h, beq_not_int (n := 48) h0]
  have h' : ¬ ((s.size : Int) < 3) := by omega
  have g : (((s[0]'(by omega)).toNat : Int) != 48) = true := bne_iff_ne.2 h0
  go_enter Try.func14, Try.ntmps14
  go_wp2
  go_ret
  exact ⟨rfl, rfl⟩

set_option maxHeartbeats 400000 in
theorem radix_mid (s : ByteArray) (w : World) (h : 3 ≤ s.size) (h0 : ((s[0]'(by omega)).toNat : Int) = 48) (h1 : ¬ ((s[1]'(by omega)).toNat : Int) = 120) (h2 : ¬ ((s[1]'(by omega)).toNat : Int) = 111) :
    Calls Try.prog 14 #[.string s] w fun e w' => e = .returned (.bool (rad s.data.toList)) ∧ w' = w := by
  rw [rad_eq h, beq_not_int (n := 120) h1, beq_not_int (n := 111) h2]
  have hr : ∀ a b c : Bool, (a && false && b || a && false && c) = false := by decide
  rw [hr]
  have h' : ¬ ((s.size : Int) < 3) := by omega
  have g1 : (((s[1]'(by omega)).toNat : Int) == 120) = false := beq_eq_false_iff_ne.2 h1
  have g2 : (((s[1]'(by omega)).toNat : Int) != 111) = true := bne_iff_ne.2 h2
  go_enter Try.func14, Try.ntmps14
  go_wp2
  go_ret
  exact ⟨rfl, rfl⟩

set_option maxHeartbeats 1000000 in
theorem radix_oct (s : ByteArray) (w : World) (hs : s.size ≤ 2097152) (h : 3 ≤ s.size) (h0 : ((s[0]'(by omega)).toNat : Int) = 48) (h1 : ((s[1]'(by omega)).toNat : Int) = 111) :
    Calls Try.prog 14 #[.string s] w fun e w' => e = .returned (.bool (digsB 8 (s.extract 2 s.size))) ∧ w' = w := by
  have h' : ¬ ((s.size : Int) < 3) := by omega
  have g1 : (((s[1]'(by omega)).toNat : Int) == 120) = false := beq_eq_false_iff_ne.2 (by omega)
  go_enter Try.func14, Try.ntmps14
  go_wp2
  go_loopg [4, 5] s.size (fun g i _ wx => ∃ k : Nat, 2 ≤ k ∧ k ≤ s.size ∧ s.size ≤ k + g ∧ i = .int .i64 k ∧ w = wx ∧ From2 8 s k)
  case atStart => exact ⟨2, by omega, by omega, by omega, rfl, rfl, From2.start _ _⟩
  case round =>
    obtain ⟨k, hk2, hk, hkg, rfl, rfl, hall⟩ := hrel
    have HA : Hid (From2 8 s k) := hall
    clear hall
    by_cases hlt : k < s.size
    · have hd8 := dig8_iff (s[k]'hlt)
      have HD : Hid (digB 8 (s[k]'hlt) = true ↔ 48 ≤ ((s[k]'hlt).toNat : Int) ∧ ((s[k]'hlt).toNat : Int) ≤ 55) := hd8
      clear hd8
      by_cases hr : 48 ≤ ((s[k]'hlt).toNat : Int) ∧ ((s[k]'hlt).toNat : Int) ≤ 55
      · obtain ⟨r1, r2⟩ := hr
        go_wp2
        go_roundg (s.size - (k + 1))
        case measure => omega
        case rel => exact ⟨k + 1, by omega, by omega, by omega, by go_num, rfl, HA.out.succ hlt (HD.out.2 ⟨r1, r2⟩)⟩
      · have HN : Hid (digsB 8 (s.extract 2 s.size) = false) := from2_no hlt hk2 (dig_no fun e => hr (HD.out.1 e))
        by_cases r1 : 48 ≤ ((s[k]'hlt).toNat : Int)
        · have r2 : ¬ ((s[k]'hlt).toNat : Int) ≤ 55 := fun e => hr ⟨r1, e⟩
          clear hr
          go_wp2
          go_ret
          exact ⟨ret_bool HN.out.symm, rfl⟩
        · clear hr
          go_wp2
          go_ret
          exact ⟨ret_bool HN.out.symm, rfl⟩
    · obtain rfl : k = s.size := by omega
      go_wp2
      go_ret
      exact ⟨ret_bool (from2_all h HA.out).symm, rfl⟩

set_option maxHeartbeats 4000000 in
theorem radix_hex (s : ByteArray) (w : World) (hs : s.size ≤ 2097152) (h : 3 ≤ s.size) (h0 : ((s[0]'(by omega)).toNat : Int) = 48) (h1 : ((s[1]'(by omega)).toNat : Int) = 120) :
    Calls Try.prog 14 #[.string s] w fun e w' => e = .returned (.bool (digsB 16 (s.extract 2 s.size))) ∧ w' = w := by
  have h' : ¬ ((s.size : Int) < 3) := by omega
  have g1 : (((s[1]'(by omega)).toNat : Int) == 120) = true := beq_iff_eq.2 h1
  go_enter Try.func14, Try.ntmps14
  go_wp2
  go_loopg [4, 5] s.size (fun g i _ wx => ∃ k : Nat, 2 ≤ k ∧ k ≤ s.size ∧ s.size ≤ k + g ∧ i = .int .i64 k ∧ w = wx ∧ From2 16 s k)
  case atStart => exact ⟨2, by omega, by omega, by omega, rfl, rfl, From2.start _ _⟩
  case round =>
    obtain ⟨k, hk2, hk, hkg, rfl, rfl, hall⟩ := hrel
    have HA : Hid (From2 16 s k) := hall
    clear hall
    by_cases hlt : k < s.size
    · have hd16 := dig16_iff (s[k]'hlt)
      have HD : Hid (digB 16 (s[k]'hlt) = true ↔ (48 ≤ ((s[k]'hlt).toNat : Int) ∧ ((s[k]'hlt).toNat : Int) ≤ 57) ∨ (97 ≤ ((s[k]'hlt).toNat : Int) ∧ ((s[k]'hlt).toNat : Int) ≤ 102) ∨ (65 ≤ ((s[k]'hlt).toNat : Int) ∧ ((s[k]'hlt).toNat : Int) ≤ 70)) := hd16
      clear hd16
      rcases byte_cls ((s[k]'hlt).toNat : Int) with r | r | r | r | r | r | r | r | r
      · have HY : Hid (From2 16 s (k + 1)) := HA.out.succ hlt (HD.out.2 (by omega))
        obtain ⟨r1, r2⟩ := r
        go_wp2
        go_roundg (s.size - (k + 1))
        case measure => omega
        case rel => exact ⟨k + 1, by omega, by omega, by omega, by go_num, rfl, HY.out⟩
      · have HN : Hid (digsB 16 (s.extract 2 s.size) = false) := from2_no hlt hk2 (dig_no fun e => by have := HD.out.1 e; omega)
        have b1 : (((s[k]'hlt).toNat : Int) == 56) = false := beq_eq_false_iff_ne.2 (by omega)
        have b2 : (((s[k]'hlt).toNat : Int) == 57) = false := beq_eq_false_iff_ne.2 (by omega)
        go_wp2
        go_ret
        exact ⟨ret_bool HN.out.symm, rfl⟩
      · have HY : Hid (From2 16 s (k + 1)) := HA.out.succ hlt (HD.out.2 (by omega))
        have b1 : (((s[k]'hlt).toNat : Int) == 56) = true := beq_iff_eq.2 r
        go_wp2
        go_roundg (s.size - (k + 1))
        case measure => omega
        case rel => exact ⟨k + 1, by omega, by omega, by omega, by go_num, rfl, HY.out⟩
      · have HY : Hid (From2 16 s (k + 1)) := HA.out.succ hlt (HD.out.2 (by omega))
        have b1 : (((s[k]'hlt).toNat : Int) == 56) = false := beq_eq_false_iff_ne.2 (by omega)
        have b2 : (((s[k]'hlt).toNat : Int) == 57) = true := beq_iff_eq.2 r
        go_wp2
        go_roundg (s.size - (k + 1))
        case measure => omega
        case rel => exact ⟨k + 1, by omega, by omega, by omega, by go_num, rfl, HY.out⟩
      · have HN : Hid (digsB 16 (s.extract 2 s.size) = false) := from2_no hlt hk2 (dig_no fun e => by have := HD.out.1 e; omega)
        have b1 : (((s[k]'hlt).toNat : Int) == 56) = false := beq_eq_false_iff_ne.2 (by omega)
        have b2 : (((s[k]'hlt).toNat : Int) == 57) = false := beq_eq_false_iff_ne.2 (by omega)
        obtain ⟨r1, r2⟩ := r
        go_wp2
        go_ret
        exact ⟨ret_bool HN.out.symm, rfl⟩
      · have HY : Hid (From2 16 s (k + 1)) := HA.out.succ hlt (HD.out.2 (by omega))
        have b1 : (((s[k]'hlt).toNat : Int) == 56) = false := beq_eq_false_iff_ne.2 (by omega)
        have b2 : (((s[k]'hlt).toNat : Int) == 57) = false := beq_eq_false_iff_ne.2 (by omega)
        obtain ⟨r1, r2⟩ := r
        go_wp2
        go_roundg (s.size - (k + 1))
        case measure => omega
        case rel => exact ⟨k + 1, by omega, by omega, by omega, by go_num, rfl, HY.out⟩
      · have HN : Hid (digsB 16 (s.extract 2 s.size) = false) := from2_no hlt hk2 (dig_no fun e => by have := HD.out.1 e; omega)
        have b1 : (((s[k]'hlt).toNat : Int) == 56) = false := beq_eq_false_iff_ne.2 (by omega)
        have b2 : (((s[k]'hlt).toNat : Int) == 57) = false := beq_eq_false_iff_ne.2 (by omega)
        obtain ⟨r1, r2⟩ := r
        go_wp2
        go_ret
        exact ⟨ret_bool HN.out.symm, rfl⟩
      · have HY : Hid (From2 16 s (k + 1)) := HA.out.succ hlt (HD.out.2 (by omega))
        have b1 : (((s[k]'hlt).toNat : Int) == 56) = false := beq_eq_false_iff_ne.2 (by omega)
        have b2 : (((s[k]'hlt).toNat : Int) == 57) = false := beq_eq_false_iff_ne.2 (by omega)
        obtain ⟨r1, r2⟩ := r
        go_wp2
        go_roundg (s.size - (k + 1))
        case measure => omega
        case rel => exact ⟨k + 1, by omega, by omega, by omega, by go_num, rfl, HY.out⟩
      · have HN : Hid (digsB 16 (s.extract 2 s.size) = false) := from2_no hlt hk2 (dig_no fun e => by have := HD.out.1 e; omega)
        have b1 : (((s[k]'hlt).toNat : Int) == 56) = false := beq_eq_false_iff_ne.2 (by omega)
        have b2 : (((s[k]'hlt).toNat : Int) == 57) = false := beq_eq_false_iff_ne.2 (by omega)
        go_wp2
        go_ret
        exact ⟨ret_bool HN.out.symm, rfl⟩
    · obtain rfl : k = s.size := by omega
      go_wp2
      go_ret
      exact ⟨ret_bool (from2_all h HA.out).symm, rfl⟩

theorem radix_any (s : ByteArray) (w : World) (hs : s.size ≤ 2097152) :
    Calls Try.prog 14 #[.string s] w fun e w' => e = .returned (.bool (rad s.data.toList)) ∧ w' = w := by
  by_cases h : 3 ≤ s.size
  · by_cases h0 : ((s[0]'(by omega)).toNat : Int) = 48
    · by_cases h1 : ((s[1]'(by omega)).toNat : Int) = 120
      · have e : rad s.data.toList = digsB 16 (s.extract 2 s.size) := by
          rw [rad_eq h, beq_of_int (n := 48) h0, beq_of_int (n := 120) h1, beq_not_int (n := 111) (by show ¬ _ = (111 : Int); omega)]; simp
        rw [e]; exact radix_hex s w hs h h0 h1
      · by_cases h2 : ((s[1]'(by omega)).toNat : Int) = 111
        · have e : rad s.data.toList = digsB 8 (s.extract 2 s.size) := by
            rw [rad_eq h, beq_of_int (n := 48) h0, beq_of_int (n := 111) h2, beq_not_int (n := 120) h1]; simp
          rw [e]; exact radix_oct s w hs h h0 h2
        · exact radix_mid s w h h0 h1 h2
    · exact radix_head s w h h0
  · exact radix_short s w (by omega)

end Go.Proofs.Qxb6600656a
