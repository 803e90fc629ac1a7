import Derived.Test.Qxb6600803aW4
import Derived.Test.Qxb6600803aPd
import Derived.Laws.Concat
namespace Go.Proofs.Qxb6600803a
open Go.RowKit

theorem ret2 {k : IntKind} {a b : Int} {c d : Bool} (h : a = b) (h2 : c = d) : Ending.returned (.tuple #[.int k a, .bool c]) = .returned (.tuple #[.int k b, .bool d]) := by rw [h, h2]
theorem ret_int {k : IntKind} {a b : Int} (h : a = b) : Ending.returned (.int k a) = .returned (.int k b) := by rw [h]

set_option maxHeartbeats 1000000 in
theorem daysIn_any (y mo : Nat) (w : World) (hy : y ≤ 9999) (h1 : 1 ≤ mo) (h12 : mo ≤ 12) :
    Calls Try.prog 27 #[.int .i64 y, .int .i64 mo] w fun e w' => e = .returned (.int .i64 (dim y mo)) ∧ w' = w := by
  by_cases m2 : mo = 2
  · subst m2
    have b2 : (((2 : Nat) : Int) == 2) = true := rfl
    by_cases h4 : y % 4 = 0
    · have c4 : (((y : Int) % 4) == 0) = true := beq_iff_eq.2 (by omega)
      by_cases h100 : y % 100 = 0
      · have c100 : (((y : Int) % 100) != 0) = false := by simp; omega
        by_cases h400 : y % 400 = 0
        · have c400 : (((y : Int) % 400) == 0) = true := beq_iff_eq.2 (by omega)
          have HD : Hid (dim y 2 = 29) := by show dim y 2 = _; unfold dim leap; simp [h4, h400]
          clear h4 h100 h400
          go_enter Try.func27, Try.ntmps27
          go_wp2
          go_ret
          exact ⟨ret_int (by rw [HD.out]; rfl), rfl⟩
        · have c400 : (((y : Int) % 400) == 0) = false := beq_eq_false_iff_ne.2 (by omega)
          have HD : Hid (dim y 2 = 28) := by show dim y 2 = _; unfold dim leap; simp [h4, h100, h400]
          clear h4 h100 h400
          go_enter Try.func27, Try.ntmps27
          go_wp2
          go_ret
          exact ⟨ret_int (by rw [HD.out]; rfl), rfl⟩
      · have c100 : (((y : Int) % 100) != 0) = true := by simp; omega
        have HD : Hid (dim y 2 = 29) := by show dim y 2 = _; unfold dim leap; simp [h4, h100]
        clear h4 h100
        go_enter Try.func27, Try.ntmps27
        go_wp2
        go_ret
        exact ⟨ret_int (by rw [HD.out]; rfl), rfl⟩
    · have c4 : (((y : Int) % 4) == 0) = false := beq_eq_false_iff_ne.2 (by omega)
      have HD : Hid (dim y 2 = 28) := by show dim y 2 = _; unfold dim leap; simp [h4]
      clear h4
      go_enter Try.func27, Try.ntmps27
      go_wp2
      go_ret
      exact ⟨ret_int (by rw [HD.out]; rfl), rfl⟩
  · obtain rfl | rfl | rfl | rfl | rfl | rfl | rfl | rfl | rfl | rfl | rfl : mo = 1 ∨ mo = 3 ∨ mo = 4 ∨ mo = 5 ∨ mo = 6 ∨ mo = 7 ∨ mo = 8 ∨ mo = 9 ∨ mo = 10 ∨ mo = 11 ∨ mo = 12 := by omega
    all_goals
      clear m2 h1 h12
      go_enter Try.func27, Try.ntmps27
      go_wp2
      go_ret
      exact ⟨rfl, rfl⟩

set_option maxHeartbeats 1000000 in
theorem zzLeap_any (y : Nat) (w : World) (hy : y ≤ 9999) :
    Calls Try.prog 23 #[.int .i64 y] w fun e w' => e = .returned (.bool (leap y)) ∧ w' = w := by
  by_cases h400 : y % 400 = 0
  · have c400 : (((y : Int) % 400) == 0) = true := beq_iff_eq.2 (by omega)
    have HD : Hid (leap y = true) := decide_eq_true ⟨by omega, .inr h400⟩
    clear h400
    go_enter Try.func23, Try.ntmps23
    go_wp2
    go_ret
    exact ⟨ret_bool (by rw [HD.out]), rfl⟩
  · have c400 : (((y : Int) % 400) == 0) = false := beq_eq_false_iff_ne.2 (by omega)
    by_cases h100 : y % 100 = 0
    · have c100 : (((y : Int) % 100) == 0) = true := beq_iff_eq.2 (by omega)
      have HD : Hid (leap y = false) := decide_eq_false (by omega)
      clear h400 h100
      go_enter Try.func23, Try.ntmps23
      go_wp2
      go_ret
      exact ⟨ret_bool (by rw [HD.out]), rfl⟩
    · have c100 : (((y : Int) % 100) == 0) = false := beq_eq_false_iff_ne.2 (by omega)
      have HD : Hid (leap y = (((y : Int) % 4) == 0)) := by
        show leap y = _
        by_cases h4 : y % 4 = 0
        · rw [beq_iff_eq.2 (show (y : Int) % 4 = 0 by omega)]; exact decide_eq_true ⟨h4, .inl h100⟩
        · rw [beq_eq_false_iff_ne.2 (show (y : Int) % 4 ≠ 0 by omega)]; exact decide_eq_false (by omega)
      clear h400 h100
      go_enter Try.func23, Try.ntmps23
      go_wp2
      go_ret
      exact ⟨ret_bool (by rw [HD.out]), rfl⟩

set_option maxHeartbeats 1000000 in
theorem zzDays_any (y mo : Nat) (w : World) (hy : y ≤ 9999) (h1 : 1 ≤ mo) (h12 : mo ≤ 12) :
    Calls Try.prog 15 #[.int .i64 y, .int .i64 mo] w fun e w' => e = .returned (.int .i64 (dim y mo)) ∧ w' = w := by
  by_cases m2 : mo = 2
  · subst m2
    cases hl : leap y
    · have HD : Hid (dim y 2 = 28) := by show dim y 2 = _; unfold dim; simp [hl]
      go_enter Try.func15, Try.ntmps15
      go_wp2_with (go_at_call 23; refine (zzLeap_any _ _ hy).mono ?_; rintro e w' ⟨rfl, hw⟩; rw [hw, hl]; clear hw)
      go_ret
      exact ⟨ret_int (by rw [HD.out]; rfl), rfl⟩
    · have HD : Hid (dim y 2 = 29) := by show dim y 2 = _; unfold dim; simp [hl]
      go_enter Try.func15, Try.ntmps15
      go_wp2_with (go_at_call 23; refine (zzLeap_any _ _ hy).mono ?_; rintro e w' ⟨rfl, hw⟩; rw [hw, hl]; clear hw)
      go_ret
      exact ⟨ret_int (by rw [HD.out]; rfl), rfl⟩
  · obtain rfl | rfl | rfl | rfl | rfl | rfl | rfl | rfl | rfl | rfl | rfl : mo = 1 ∨ mo = 3 ∨ mo = 4 ∨ mo = 5 ∨ mo = 6 ∨ mo = 7 ∨ mo = 8 ∨ mo = 9 ∨ mo = 10 ∨ mo = 11 ∨ mo = 12 := by omega
    all_goals
      clear m2 h1 h12
      go_enter Try.func15, Try.ntmps15
      go_wp2
      go_ret
      exact ⟨rfl, rfl⟩

set_option maxRecDepth 100000 in
set_option maxHeartbeats 1000000 in
theorem offsetAt_any (s : ByteArray) (w : World) (hs : s.size ≤ 1048576) :
    Calls Try.prog 28 #[.string s] w fun e w' => ((NoZone s ∧ e = .returned (.int .i64 (-1))) ∨ (∃ z : Nat, ZoneAt s z ∧ e = .returned (.int .i64 z))) ∧ w' = w := by
  go_enter Try.func28, Try.ntmps28
  go_wp2
  go_loopg [3, 6] s.size (fun g _ s6 wx => ∃ k : Nat, k ≤ s.size ∧ s.size ≤ k + g ∧ s6 = .int .i64 k ∧ w = wx ∧ ∀ j, j < k → ¬ isZ (at_ s j))
  case atStart => exact ⟨0, by omega, by omega, rfl, rfl, fun j hj => by omega⟩
  case round =>
    obtain ⟨k, hk, hkg, rfl, rfl, hno⟩ := hrel
    have HN : Hid (∀ j, j < k → ¬ isZ (at_ s j)) := hno
    clear hno
    by_cases hlt : k < s.size
    · have e := at_int hlt
      by_cases h1 : at_ s k = 90
      · have b1 : (((s[k]'hlt).toNat : Int) == 90) = true := by rw [e, h1]; rfl
        have HZ : Hid (ZoneAt s k) := ⟨hlt, .inl h1, HN.out⟩
        clear e h1
        go_wp2
        go_ret
        exact ⟨.inr ⟨k, HZ.out, rfl⟩, rfl⟩
      · have b1 : (((s[k]'hlt).toNat : Int) == 90) = false := by rw [e]; exact beq_eq_false_iff_ne.2 (by omega)
        by_cases h2 : at_ s k = 43
        · have b2 : (((s[k]'hlt).toNat : Int) == 43) = true := by rw [e, h2]; rfl
          have HZ : Hid (ZoneAt s k) := ⟨hlt, .inr (.inl h2), HN.out⟩
          clear e h1 h2
          go_wp2
          go_ret
          exact ⟨.inr ⟨k, HZ.out, rfl⟩, rfl⟩
        · have b2 : (((s[k]'hlt).toNat : Int) == 43) = false := by rw [e]; exact beq_eq_false_iff_ne.2 (by omega)
          by_cases h3 : at_ s k = 45
          · have b3 : (((s[k]'hlt).toNat : Int) == 45) = true := by rw [e, h3]; rfl
            have HZ : Hid (ZoneAt s k) := ⟨hlt, .inr (.inr h3), HN.out⟩
            clear e h1 h2 h3
            go_wp2
            go_ret
            exact ⟨.inr ⟨k, HZ.out, rfl⟩, rfl⟩
          · have b3 : (((s[k]'hlt).toNat : Int) == 45) = false := by rw [e]; exact beq_eq_false_iff_ne.2 (by omega)
            have HN2 : Hid (∀ j, j < k + 1 → ¬ isZ (at_ s j)) := fun j hj => by
              by_cases ej : j = k
              · rw [ej]; rintro (h | h | h) <;> omega
              · exact HN.out j (by omega)
            clear e h1 h2 h3
            go_wp2
            go_roundg (s.size - (k + 1))
            case measure => omega
            case rel => exact ⟨k + 1, by omega, by omega, by go_num, rfl, HN2.out⟩
    · have HZ : Hid (NoZone s) := fun j => by
        by_cases hj : j < k
        · exact HN.out j hj
        · rw [at_out (by omega)]; rintro (h | h | h) <;> omega
      go_wp2
      go_ret
      exact ⟨.inl ⟨HZ.out, rfl⟩, rfl⟩

set_option maxRecDepth 100000 in
set_option maxHeartbeats 1000000 in
theorem parseOffset_any (u : ByteArray) (w : World) (hs : u.size ≤ 1048576) (h0 : 0 < u.size) :
    Calls Try.prog 29 #[.string u] w fun e w' => ((∃ o, OffOk u o ∧ e = .returned (.tuple #[.int .i64 o, .bool true])) ∨ ((∀ o, ¬ OffOk u o) ∧ ∃ o, e = .returned (.tuple #[.int .i64 o, .bool false]))) ∧ Below w.heap.size w w' := by
  by_cases hZ : u.size = 1 ∧ at_ u 0 = 90
  · have hl : (u.toList == [90]) = true := by rw [Lib.toList_data, oneZ hZ.1 hZ.2]; rfl
    have HZ : Hid (OffOk u 0) := .inl ⟨hZ.1, hZ.2, rfl⟩
    clear hZ
    go_enter Try.func29, Try.ntmps29
    go_wp2
    go_ret2
    exact ⟨.inl ⟨0, HZ.out, rfl⟩, Below.refl _ _⟩
  · have hl : (u.toList == [90]) = false := by
      rw [Lib.toList_data]
      cases hb : (u.data.toList == [90])
      · rfl
      · exact absurd (isOneZ hb) hZ
    by_cases h45 : at_ u 0 = 45
    · have b45 : (((u[0]'h0).toNat : Int) == 45) = true := by rw [at_int h0, h45]; rfl
      have H45 : Hid (at_ u 0 = 45) := h45
      clear h45
      by_cases h6 : u.size = 6
      · have hmn : min 3 (u.size : Int) = 3 := by omega
        have q1 : (3 : Int) ≤ (u.size : Int) := by omega
        have q4 : (4 : Int) ≤ (u.size : Int) := by omega
        have n6 : ((u.size : Int) != 6) = false := by rw [h6]; rfl
        have z3 : 3 < u.size := by omega
        have z3I : (3 : Int) < (u.size : Int) := by omega
        have hx := p2_iff (s := u) (a := 1) (b := 3) (L := 99) (by omega) (by omega)
        have hy := p2_iff (s := u) (a := 4) (b := u.size) (L := 99) (Nat.le_refl _) (by omega)
        have HNE : Hid (∀ o, OffOk u o → at_ u 3 = 58 ∧ twoOk u 1 = true ∧ twoOk u 4 = true ∧ twoV u 1 ≤ 14 ∧ twoV u 4 ≤ 59) := by
          rintro o (⟨e, _⟩ | ⟨_, e1, e2, e3, e4, e5, _⟩)
          · omega
          · exact ⟨e1, e2, e3, e4, e5⟩
        have vx : ((u.extract 1 3).size = 2 ∧ digA (u.extract 1 3) = true) → twoOk u 1 = true ∧ valTo (u.extract 1 3) 2 = twoV u 1 := by
          intro hh
          have hl : valTo (u.extract 1 3) 2 ≤ 99 := by
            have := valTo_lt _ (AllD_of_digA hh.2); rw [hh.1] at this; omega
          exact ⟨(hx.1 ⟨hh, hl⟩).2.1, p2_val (by omega) (by omega) (L := 99) ⟨hh, hl⟩⟩
        have vy : ((u.extract 4 u.size).size = 2 ∧ digA (u.extract 4 u.size) = true) → twoOk u 4 = true ∧ valTo (u.extract 4 u.size) 2 = twoV u 4 := by
          intro hh
          have hl : valTo (u.extract 4 u.size) 2 ≤ 99 := by
            have := valTo_lt _ (AllD_of_digA hh.2); rw [hh.1] at this; omega
          exact ⟨(hy.1 ⟨hh, hl⟩).2.1, p2_val (Nat.le_refl _) (by omega) (L := 99) ⟨hh, hl⟩⟩
        have nx : twoOk u 1 = true → (u.extract 1 3).size = 2 ∧ digA (u.extract 1 3) = true := fun hh => (hx.2 ⟨rfl, hh, twoV_le hh⟩).1
        have ny : twoOk u 4 = true → (u.extract 4 u.size).size = 2 ∧ digA (u.extract 4 u.size) = true := fun hh => (hy.2 ⟨by omega, hh, twoV_le hh⟩).1
        have VX : Hid _ := vx
        have VY : Hid _ := vy
        have NX : Hid _ := nx
        have NY : Hid _ := ny
        have H6 : Hid (u.size = 6) := h6
        clear hx hy vx vy nx ny h6
        by_cases hp : (u.extract 1 3).size = 2 ∧ digA (u.extract 1 3) = true
        · have t1 := VX.out hp
          have l1 := twoV_le t1.1
          by_cases h3 : at_ u 3 = 58
          · have c3 : (((u[3]'z3).toNat : Int) != 58) = false := by rw [at_int z3, h3]; rfl
            have H3 : Hid (at_ u 3 = 58) := h3
            clear h3
            go_enter Try.func29, Try.ntmps29
            go_wp2_with fail
            refine (digits_yes (u.extract 1 3) 2 _ (by omega) hp).mono ?_
            rintro e w1 ⟨rfl, hb1⟩
            rw [t1.2]
            have T1 : Hid (twoOk u 1 = true) := t1.1
            clear t1 hp
            by_cases hq : (u.extract 4 u.size).size = 2 ∧ digA (u.extract 4 u.size) = true
            · have t4 := VY.out hq
              have l4 := twoV_le t4.1
              go_wp2_with fail
              refine (digits_yes (u.extract 4 u.size) 2 _ (by omega) hq).mono ?_
              rintro e w2 ⟨rfl, hb2⟩
              rw [t4.2]
              have T4 : Hid (twoOk u 4 = true) := t4.1
              clear t4 hq
              by_cases g1 : twoV u 1 ≤ 14
              · by_cases g4 : twoV u 4 ≤ 59
                · have HO : Hid (OffOk u (-(60 * (twoV u 1 : Int) + (twoV u 4 : Int)))) := .inr ⟨H6.out, H3.out, T1.out, T4.out, g1, g4, .inl ⟨H45.out, by omega⟩⟩
                  go_wp2
                  go_ret2
                  exact ⟨.inl ⟨_, HO.out, ret2 rfl (decide_eq_true (by omega))⟩, hb1.trans (hb2.mono hb1.size)⟩
                · have HO : Hid (∀ o, ¬ OffOk u o) := fun o hh => g4 (HNE.out o hh).2.2.2.2
                  go_wp2
                  go_ret2
                  exact ⟨.inr ⟨HO.out, _, ret2 rfl (decide_eq_false (by omega))⟩, hb1.trans (hb2.mono hb1.size)⟩
              · have HO : Hid (∀ o, ¬ OffOk u o) := fun o hh => g1 (HNE.out o hh).2.2.2.1
                go_wp2
                go_ret2
                exact ⟨.inr ⟨HO.out, _, rfl⟩, hb1.trans (hb2.mono hb1.size)⟩
            · have HO : Hid (∀ o, ¬ OffOk u o) := fun o hh => hq (NY.out (HNE.out o hh).2.2.1)
              go_wp2_with fail
              refine (digits_no (u.extract 4 u.size) 2 _ (by omega) hq).mono ?_
              rintro e w2 ⟨rfl, hb2⟩
              go_wp2
              go_ret2
              exact ⟨.inr ⟨HO.out, _, rfl⟩, hb1.trans (hb2.mono hb1.size)⟩
          · have c3 : (((u[3]'z3).toNat : Int) != 58) = true := by rw [at_int z3]; exact bne_iff_ne.2 (by omega)
            have HO : Hid (∀ o, ¬ OffOk u o) := fun o hh => h3 (HNE.out o hh).1
            clear h3
            go_enter Try.func29, Try.ntmps29
            go_wp2_with fail
            refine (digits_yes (u.extract 1 3) 2 _ (by omega) hp).mono ?_
            rintro e w1 ⟨rfl, hb1⟩
            go_wp2
            go_ret2
            exact ⟨.inr ⟨HO.out, _, rfl⟩, hb1⟩
        · have HO : Hid (∀ o, ¬ OffOk u o) := fun o hh => hp (NX.out (HNE.out o hh).2.1)
          by_cases h3 : at_ u 3 = 58
          · have c3 : (((u[3]'z3).toNat : Int) != 58) = false := by rw [at_int z3, h3]; rfl
            clear h3
            go_enter Try.func29, Try.ntmps29
            go_wp2_with fail
            refine (digits_no (u.extract 1 3) 2 _ (by omega) hp).mono ?_
            rintro e w1 ⟨rfl, hb1⟩
            go_wp2
            go_ret2
            exact ⟨.inr ⟨HO.out, _, rfl⟩, hb1⟩
          · have c3 : (((u[3]'z3).toNat : Int) != 58) = true := by rw [at_int z3]; exact bne_iff_ne.2 (by omega)
            clear h3
            go_enter Try.func29, Try.ntmps29
            go_wp2_with fail
            refine (digits_no (u.extract 1 3) 2 _ (by omega) hp).mono ?_
            rintro e w1 ⟨rfl, hb1⟩
            go_wp2
            go_ret2
            exact ⟨.inr ⟨HO.out, _, rfl⟩, hb1⟩
      · have n6 : ((u.size : Int) != 6) = true := bne_iff_ne.2 (by omega)
        have HO : Hid (∀ o, ¬ OffOk u o) := by
          rintro o (⟨e1, e2, _⟩ | ⟨e, _⟩)
          · exact hZ ⟨e1, e2⟩
          · exact h6 e
        obtain ⟨mn, hmn, m1, m2⟩ : ∃ mn : Nat, min 3 (u.size : Int) = mn ∧ 1 ≤ mn ∧ mn ≤ u.size := ⟨min 3 u.size, by omega, by omega, by omega⟩
        have q1 : (1 : Int) ≤ (mn : Int) := by omega
        have q2 : (mn : Int) ≤ (u.size : Int) := by omega
        clear h6
        by_cases hp : (u.extract 1 mn).size = 2 ∧ digA (u.extract 1 mn) = true
        · go_enter Try.func29, Try.ntmps29
          go_wp2_with fail
          refine (digits_yes (u.extract 1 mn) 2 _ (by omega) hp).mono ?_
          rintro e w1 ⟨rfl, hb1⟩
          go_wp2
          go_ret2
          exact ⟨.inr ⟨HO.out, _, rfl⟩, hb1⟩
        · go_enter Try.func29, Try.ntmps29
          go_wp2_with fail
          refine (digits_no (u.extract 1 mn) 2 _ (by omega) hp).mono ?_
          rintro e w1 ⟨rfl, hb1⟩
          go_wp2
          go_ret2
          exact ⟨.inr ⟨HO.out, _, rfl⟩, hb1⟩
    · have b45 : (((u[0]'h0).toNat : Int) == 45) = false := by rw [at_int h0]; exact beq_eq_false_iff_ne.2 (by omega)
      have H45 : Hid (at_ u 0 ≠ 45) := h45
      clear h45
      by_cases h6 : u.size = 6
      · have hmn : min 3 (u.size : Int) = 3 := by omega
        have q1 : (3 : Int) ≤ (u.size : Int) := by omega
        have q4 : (4 : Int) ≤ (u.size : Int) := by omega
        have n6 : ((u.size : Int) != 6) = false := by rw [h6]; rfl
        have z3 : 3 < u.size := by omega
        have z3I : (3 : Int) < (u.size : Int) := by omega
        have hx := p2_iff (s := u) (a := 1) (b := 3) (L := 99) (by omega) (by omega)
        have hy := p2_iff (s := u) (a := 4) (b := u.size) (L := 99) (Nat.le_refl _) (by omega)
        have HNE : Hid (∀ o, OffOk u o → at_ u 3 = 58 ∧ twoOk u 1 = true ∧ twoOk u 4 = true ∧ twoV u 1 ≤ 14 ∧ twoV u 4 ≤ 59) := by
          rintro o (⟨e, _⟩ | ⟨_, e1, e2, e3, e4, e5, _⟩)
          · omega
          · exact ⟨e1, e2, e3, e4, e5⟩
        have vx : ((u.extract 1 3).size = 2 ∧ digA (u.extract 1 3) = true) → twoOk u 1 = true ∧ valTo (u.extract 1 3) 2 = twoV u 1 := by
          intro hh
          have hl : valTo (u.extract 1 3) 2 ≤ 99 := by
            have := valTo_lt _ (AllD_of_digA hh.2); rw [hh.1] at this; omega
          exact ⟨(hx.1 ⟨hh, hl⟩).2.1, p2_val (by omega) (by omega) (L := 99) ⟨hh, hl⟩⟩
        have vy : ((u.extract 4 u.size).size = 2 ∧ digA (u.extract 4 u.size) = true) → twoOk u 4 = true ∧ valTo (u.extract 4 u.size) 2 = twoV u 4 := by
          intro hh
          have hl : valTo (u.extract 4 u.size) 2 ≤ 99 := by
            have := valTo_lt _ (AllD_of_digA hh.2); rw [hh.1] at this; omega
          exact ⟨(hy.1 ⟨hh, hl⟩).2.1, p2_val (Nat.le_refl _) (by omega) (L := 99) ⟨hh, hl⟩⟩
        have nx : twoOk u 1 = true → (u.extract 1 3).size = 2 ∧ digA (u.extract 1 3) = true := fun hh => (hx.2 ⟨rfl, hh, twoV_le hh⟩).1
        have ny : twoOk u 4 = true → (u.extract 4 u.size).size = 2 ∧ digA (u.extract 4 u.size) = true := fun hh => (hy.2 ⟨by omega, hh, twoV_le hh⟩).1
        have VX : Hid _ := vx
        have VY : Hid _ := vy
        have NX : Hid _ := nx
        have NY : Hid _ := ny
        have H6 : Hid (u.size = 6) := h6
        clear hx hy vx vy nx ny h6
        by_cases hp : (u.extract 1 3).size = 2 ∧ digA (u.extract 1 3) = true
        · have t1 := VX.out hp
          have l1 := twoV_le t1.1
          by_cases h3 : at_ u 3 = 58
          · have c3 : (((u[3]'z3).toNat : Int) != 58) = false := by rw [at_int z3, h3]; rfl
            have H3 : Hid (at_ u 3 = 58) := h3
            clear h3
            go_enter Try.func29, Try.ntmps29
            go_wp2_with fail
            refine (digits_yes (u.extract 1 3) 2 _ (by omega) hp).mono ?_
            rintro e w1 ⟨rfl, hb1⟩
            rw [t1.2]
            have T1 : Hid (twoOk u 1 = true) := t1.1
            clear t1 hp
            by_cases hq : (u.extract 4 u.size).size = 2 ∧ digA (u.extract 4 u.size) = true
            · have t4 := VY.out hq
              have l4 := twoV_le t4.1
              go_wp2_with fail
              refine (digits_yes (u.extract 4 u.size) 2 _ (by omega) hq).mono ?_
              rintro e w2 ⟨rfl, hb2⟩
              rw [t4.2]
              have T4 : Hid (twoOk u 4 = true) := t4.1
              clear t4 hq
              by_cases g1 : twoV u 1 ≤ 14
              · by_cases g4 : twoV u 4 ≤ 59
                · have HO : Hid (OffOk u (60 * (twoV u 1 : Int) + (twoV u 4 : Int))) := .inr ⟨H6.out, H3.out, T1.out, T4.out, g1, g4, .inr ⟨H45.out, by omega⟩⟩
                  go_wp2
                  go_ret2
                  exact ⟨.inl ⟨_, HO.out, ret2 rfl (decide_eq_true (by omega))⟩, hb1.trans (hb2.mono hb1.size)⟩
                · have HO : Hid (∀ o, ¬ OffOk u o) := fun o hh => g4 (HNE.out o hh).2.2.2.2
                  go_wp2
                  go_ret2
                  exact ⟨.inr ⟨HO.out, _, ret2 rfl (decide_eq_false (by omega))⟩, hb1.trans (hb2.mono hb1.size)⟩
              · have HO : Hid (∀ o, ¬ OffOk u o) := fun o hh => g1 (HNE.out o hh).2.2.2.1
                go_wp2
                go_ret2
                exact ⟨.inr ⟨HO.out, _, rfl⟩, hb1.trans (hb2.mono hb1.size)⟩
            · have HO : Hid (∀ o, ¬ OffOk u o) := fun o hh => hq (NY.out (HNE.out o hh).2.2.1)
              go_wp2_with fail
              refine (digits_no (u.extract 4 u.size) 2 _ (by omega) hq).mono ?_
              rintro e w2 ⟨rfl, hb2⟩
              go_wp2
              go_ret2
              exact ⟨.inr ⟨HO.out, _, rfl⟩, hb1.trans (hb2.mono hb1.size)⟩
          · have c3 : (((u[3]'z3).toNat : Int) != 58) = true := by rw [at_int z3]; exact bne_iff_ne.2 (by omega)
            have HO : Hid (∀ o, ¬ OffOk u o) := fun o hh => h3 (HNE.out o hh).1
            clear h3
            go_enter Try.func29, Try.ntmps29
            go_wp2_with fail
            refine (digits_yes (u.extract 1 3) 2 _ (by omega) hp).mono ?_
            rintro e w1 ⟨rfl, hb1⟩
            go_wp2
            go_ret2
            exact ⟨.inr ⟨HO.out, _, rfl⟩, hb1⟩
        · have HO : Hid (∀ o, ¬ OffOk u o) := fun o hh => hp (NX.out (HNE.out o hh).2.1)
          by_cases h3 : at_ u 3 = 58
          · have c3 : (((u[3]'z3).toNat : Int) != 58) = false := by rw [at_int z3, h3]; rfl
            clear h3
            go_enter Try.func29, Try.ntmps29
            go_wp2_with fail
            refine (digits_no (u.extract 1 3) 2 _ (by omega) hp).mono ?_
            rintro e w1 ⟨rfl, hb1⟩
            go_wp2
            go_ret2
            exact ⟨.inr ⟨HO.out, _, rfl⟩, hb1⟩
          · have c3 : (((u[3]'z3).toNat : Int) != 58) = true := by rw [at_int z3]; exact bne_iff_ne.2 (by omega)
            clear h3
            go_enter Try.func29, Try.ntmps29
            go_wp2_with fail
            refine (digits_no (u.extract 1 3) 2 _ (by omega) hp).mono ?_
            rintro e w1 ⟨rfl, hb1⟩
            go_wp2
            go_ret2
            exact ⟨.inr ⟨HO.out, _, rfl⟩, hb1⟩
      · have n6 : ((u.size : Int) != 6) = true := bne_iff_ne.2 (by omega)
        have HO : Hid (∀ o, ¬ OffOk u o) := by
          rintro o (⟨e1, e2, _⟩ | ⟨e, _⟩)
          · exact hZ ⟨e1, e2⟩
          · exact h6 e
        obtain ⟨mn, hmn, m1, m2⟩ : ∃ mn : Nat, min 3 (u.size : Int) = mn ∧ 1 ≤ mn ∧ mn ≤ u.size := ⟨min 3 u.size, by omega, by omega, by omega⟩
        have q1 : (1 : Int) ≤ (mn : Int) := by omega
        have q2 : (mn : Int) ≤ (u.size : Int) := by omega
        clear h6
        by_cases hp : (u.extract 1 mn).size = 2 ∧ digA (u.extract 1 mn) = true
        · go_enter Try.func29, Try.ntmps29
          go_wp2_with fail
          refine (digits_yes (u.extract 1 mn) 2 _ (by omega) hp).mono ?_
          rintro e w1 ⟨rfl, hb1⟩
          go_wp2
          go_ret2
          exact ⟨.inr ⟨HO.out, _, rfl⟩, hb1⟩
        · go_enter Try.func29, Try.ntmps29
          go_wp2_with fail
          refine (digits_no (u.extract 1 mn) 2 _ (by omega) hp).mono ?_
          rintro e w1 ⟨rfl, hb1⟩
          go_wp2
          go_ret2
          exact ⟨.inr ⟨HO.out, _, rfl⟩, hb1⟩

end Go.Proofs.Qxb6600803a
