import Derived.Test.Qxb6600656aW5
import Derived.Test.Qxb6600656aPl2
import Derived.Laws.Concat
namespace Go.Proofs.Qxb6600656a
open Go.RowKit

set_option maxHeartbeats 400000 in
theorem zz13_any (s : ByteArray) (w : World) (h : s.size ≤ 1048576) :
    Calls Try.prog 13 #[.string s] w fun e w' => e = .returned (.bool true) ∧ w' = w := by
  go_enter Try.func13, Try.ntmps13
  go_wp2
  go_ret
  exact ⟨rfl, rfl⟩

set_option maxHeartbeats 400000 in
theorem zz13_no (s : ByteArray) (w : World) (hs : s.size ≤ maxLen) (h : 1048576 < s.size) :
    Calls Try.prog 13 #[.string s] w fun e w' => e = .returned (.bool false) ∧ w' = w := by
  unfold maxLen at hs
  go_enter Try.func13, Try.ntmps13
  go_wp2
  go_ret
  exact ⟨rfl, rfl⟩

theorem tag_vals (l : List UInt8) : tag l = 0 ∨ tag l = 1 ∨ tag l = 2 ∨ tag l = 3 ∨ tag l = 4 := by
  unfold tag
  repeat' split
  all_goals simp

theorem plus_list (c : UInt8) (s : ByteArray) : ((⟨#[c]⟩ : ByteArray) ++ s).data.toList = c :: s.data.toList := by
  rw [ByteArray.data_append, Array.toList_append]; rfl
theorem plus_size (c : UInt8) (s : ByteArray) : ((⟨#[c]⟩ : ByteArray) ++ s).size = 1 + s.size := by
  rw [ByteArray.size_append]; rfl

/-- The tag of the text with a sign ahead. -/
theorem zzcore_sign (c : UInt8) (hc : c = 43 ∨ c = 45) (s : ByteArray) (w : World) (hs : s.size ≤ 1048576) :
    Calls Try.prog 11 #[.string (⟨#[c]⟩ ++ s)] w fun e w' => e = .returned (.string (tagS (num s.data.toList))) ∧ Below w.heap.size w w' := by
  have := zzcore_any (⟨#[c]⟩ ++ s) w (by rw [plus_size]; omega)
  rw [plus_list, tag_signed c hc] at this
  exact this

/-- What the law calls a plain number. -/
def plainB (s : ByteArray) (h : 0 < s.size) : Bool :=
  !((s[0]'h) == 43) && !((s[0]'h) == 45) && !rad s.data.toList && !isNan s.data.toList && (decide (tag s.data.toList = 2) || decide (tag s.data.toList = 3))

theorem sign_law' (s : ByteArray) (h : 0 < s.size) :
    (decide (num s.data.toList = 2) || decide (num s.data.toList = 3)) = plainB s h ∧ (num s.data.toList ≠ 4 → num s.data.toList = tag s.data.toList) := by
  have e := list_cons h
  unfold plainB
  generalize s[0]'h = c at e
  generalize s.data.toList.drop 1 = r at e
  rw [e]
  exact sign_law c r

theorem bne_int {c n : UInt8} (h : (c == n) = false) : ((c.toNat : Int) != (n.toNat : Int)) = true := by
  rw [bne_iff_ne]; intro e
  exact (beq_eq_false_iff_ne.1 h) (UInt8.toNat_inj.1 (by omega))
theorem bne_int' {c n : UInt8} (h : (c == n) = true) : ((c.toNat : Int) != (n.toNat : Int)) = false := by
  rw [beq_iff_eq] at h; rw [h]; simp

theorem plain_yes {s : ByteArray} {h : 0 < s.size} (hp : plainB s h = true) :
    (((s[0]'h).toNat : Int) != 43) = true ∧ (((s[0]'h).toNat : Int) != 45) = true ∧ rad s.data.toList = false ∧ (s.toList == [46, 110, 97, 110]) = false ∧ (s.toList == [46, 78, 97, 78]) = false ∧ (s.toList == [46, 78, 65, 78]) = false := by
  unfold plainB isNan at hp
  simp only [Bool.and_eq_true, Bool.not_eq_true', Bool.or_eq_false_iff] at hp
  obtain ⟨⟨⟨⟨h1, h2⟩, h3⟩, ⟨h4, h5⟩, h6⟩, _⟩ := hp
  exact ⟨bne_int h1, bne_int h2, h3, tl h4, tl h5, tl h6⟩

theorem plain_no {s : ByteArray} {h : 0 < s.size} (hp : plainB s h = false) :
    ((((s[0]'h).toNat : Int) != 43) = false) ∨
    ((((s[0]'h).toNat : Int) != 43) = true ∧ (((s[0]'h).toNat : Int) != 45) = false) ∨
    ((((s[0]'h).toNat : Int) != 43) = true ∧ (((s[0]'h).toNat : Int) != 45) = true ∧ rad s.data.toList = true) ∨
    ((((s[0]'h).toNat : Int) != 43) = true ∧ (((s[0]'h).toNat : Int) != 45) = true ∧ rad s.data.toList = false ∧ (s.toList == [46, 110, 97, 110]) = true) ∨
    ((((s[0]'h).toNat : Int) != 43) = true ∧ (((s[0]'h).toNat : Int) != 45) = true ∧ rad s.data.toList = false ∧ (s.toList == [46, 110, 97, 110]) = false ∧ (s.toList == [46, 78, 97, 78]) = true) ∨
    ((((s[0]'h).toNat : Int) != 43) = true ∧ (((s[0]'h).toNat : Int) != 45) = true ∧ rad s.data.toList = false ∧ (s.toList == [46, 110, 97, 110]) = false ∧ (s.toList == [46, 78, 97, 78]) = false ∧ (s.toList == [46, 78, 65, 78]) = true) ∨
    ((((s[0]'h).toNat : Int) != 43) = true ∧ (((s[0]'h).toNat : Int) != 45) = true ∧ rad s.data.toList = false ∧ (s.toList == [46, 110, 97, 110]) = false ∧ (s.toList == [46, 78, 97, 78]) = false ∧ (s.toList == [46, 78, 65, 78]) = false ∧ (tag s.data.toList = 0 ∨ tag s.data.toList = 1 ∨ tag s.data.toList = 4)) := by
  cases h1 : ((s[0]'h) == 43) with
  | true => exact .inl (bne_int' h1)
  | false =>
    refine .inr ?_
    cases h2 : ((s[0]'h) == 45) with
    | true => exact .inl ⟨bne_int h1, bne_int' h2⟩
    | false =>
      refine .inr ?_
      cases h3 : rad s.data.toList with
      | true => exact .inl ⟨bne_int h1, bne_int h2, rfl⟩
      | false =>
        refine .inr ?_
        cases h4 : (s.data.toList == [46, 110, 97, 110]) with
        | true => exact .inl ⟨bne_int h1, bne_int h2, rfl, tl h4⟩
        | false =>
          refine .inr ?_
          cases h5 : (s.data.toList == [46, 78, 97, 78]) with
          | true => exact .inl ⟨bne_int h1, bne_int h2, rfl, tl h4, tl h5⟩
          | false =>
            refine .inr ?_
            cases h6 : (s.data.toList == [46, 78, 65, 78]) with
            | true => exact .inl ⟨bne_int h1, bne_int h2, rfl, tl h4, tl h5, tl h6⟩
            | false =>
              refine .inr ⟨bne_int h1, bne_int h2, rfl, tl h4, tl h5, tl h6, ?_⟩
              unfold plainB isNan at hp
              rw [h1, h2, h3, h4, h5, h6] at hp
              rcases tag_vals s.data.toList with e | e | e | e | e <;> rw [e] at hp ⊢ <;> simp at hp ⊢

set_option maxHeartbeats 4000000 in
theorem sign_in (s : ByteArray) (w : World) (h : s.size ≤ 1048576) :
    Calls Try.prog 5 #[.string s] w fun e w' => e = .returned (.bool true) ∧ Below w.heap.size w w' := by
  by_cases h0 : s.size = 0
  · have hn : num s.data.toList = 4 := by rw [list_nil h0]; rfl
    go_enter Try.func5, Try.ntmps5
    go_wp2_with (go_at_call 13; refine (zz13_any _ _ h).mono ?_; rintro e w' ⟨rfl, hw⟩; rw [hw]; clear hw)
    refine (zzcore_sign 43 (.inl rfl) s _ h).mono ?_; rintro e w1 ⟨rfl, hb1⟩; rw [hn]; simp only [tagS]
    go_wp2_with fail
    refine (zzcore_sign 45 (.inr rfl) s _ h).mono ?_; rintro e w2 ⟨rfl, hb2⟩; rw [hn]; simp only [tagS]
    go_wp2
    go_ret
    exact ⟨rfl, hb1.trans (hb2.mono hb1.size)⟩
  · have hpos : 0 < s.size := by omega
    have hz : ((s.size : Int) == 0) = false := beq_eq_false_iff_ne.2 (by omega)
    obtain ⟨L1, L2⟩ := sign_law' s hpos
    have HL1 : Hid ((decide (num s.data.toList = 2) || decide (num s.data.toList = 3)) = plainB s hpos) := L1
    have HL2 : Hid (num s.data.toList ≠ 4 → num s.data.toList = tag s.data.toList) := L2
    clear L1 L2
    go_enter Try.func5, Try.ntmps5
    go_wp2_with (go_at_call 13; refine (zz13_any _ _ h).mono ?_; rintro e w' ⟨rfl, hw⟩; rw [hw]; clear hw)
    refine (zzcore_sign 43 (.inl rfl) s _ h).mono ?_; rintro e w1 ⟨rfl, hb1⟩
    go_wp2_with fail
    refine (zzcore_sign 45 (.inr rfl) s _ h).mono ?_; rintro e w2 ⟨rfl, hb2⟩
    have hbb := hb1.trans (hb2.mono hb1.size)
    clear hb1 hb2
    rcases num_vals s.data.toList with hn | hn | hn
    · have ht : tag s.data.toList = 2 := by rw [← HL2.out (by rw [hn]; decide), hn]
      obtain ⟨p1, p2, p3, p4, p5, p6⟩ := plain_yes (s := s) (h := hpos) (by rw [← HL1.out, hn]; rfl)
      clear HL1 HL2
      rw [hn]
      simp only [tagS]
      go_wp2_with (first
        | (go_at_call 11; refine (zzcore_any _ _ (by omega)).mono ?_; rintro e w3 ⟨rfl, hb3⟩; rw [ht]; simp only [tagS])
        | (go_at_call 14; refine (radix_any _ _ (by omega)).mono ?_; rintro e w' ⟨rfl, hw⟩; rw [hw, p3]; clear hw))
      go_ret
      exact ⟨rfl, hbb.trans (hb3.mono hbb.size)⟩
    · have ht : tag s.data.toList = 3 := by rw [← HL2.out (by rw [hn]; decide), hn]
      obtain ⟨p1, p2, p3, p4, p5, p6⟩ := plain_yes (s := s) (h := hpos) (by rw [← HL1.out, hn]; rfl)
      clear HL1 HL2
      rw [hn]
      simp only [tagS]
      go_wp2_with (first
        | (go_at_call 11; refine (zzcore_any _ _ (by omega)).mono ?_; rintro e w3 ⟨rfl, hb3⟩; rw [ht]; simp only [tagS])
        | (go_at_call 14; refine (radix_any _ _ (by omega)).mono ?_; rintro e w' ⟨rfl, hw⟩; rw [hw, p3]; clear hw))
      go_ret
      exact ⟨rfl, hbb.trans (hb3.mono hbb.size)⟩
    · have hpl := plain_no (s := s) (h := hpos) (by rw [← HL1.out, hn]; rfl)
      clear HL1 HL2
      rw [hn]
      simp only [tagS]
      rcases hpl with p1 | ⟨p1, p2⟩ | ⟨p1, p2, p3⟩ | ⟨p1, p2, p3, p4⟩ | ⟨p1, p2, p3, p4, p5⟩ | ⟨p1, p2, p3, p4, p5, p6⟩ | ⟨p1, p2, p3, p4, p5, p6, p7⟩
      · go_wp2_with (go_at_call 11; refine (zzcore_any _ _ (by omega)).mono ?_; rintro e w3 ⟨rfl, hb3⟩)
        go_ret
        exact ⟨rfl, hbb.trans (hb3.mono hbb.size)⟩
      · go_wp2_with (go_at_call 11; refine (zzcore_any _ _ (by omega)).mono ?_; rintro e w3 ⟨rfl, hb3⟩)
        go_ret
        exact ⟨rfl, hbb.trans (hb3.mono hbb.size)⟩
      · go_wp2_with (first
          | (go_at_call 11; refine (zzcore_any _ _ (by omega)).mono ?_; rintro e w3 ⟨rfl, hb3⟩)
          | (go_at_call 14; refine (radix_any _ _ (by omega)).mono ?_; rintro e w' ⟨rfl, hw⟩; rw [hw, p3]; clear hw))
        go_ret
        exact ⟨rfl, hbb.trans (hb3.mono hbb.size)⟩
      · go_wp2_with (first
          | (go_at_call 11; refine (zzcore_any _ _ (by omega)).mono ?_; rintro e w3 ⟨rfl, hb3⟩)
          | (go_at_call 14; refine (radix_any _ _ (by omega)).mono ?_; rintro e w' ⟨rfl, hw⟩; rw [hw, p3]; clear hw))
        go_ret
        exact ⟨rfl, hbb.trans (hb3.mono hbb.size)⟩
      · go_wp2_with (first
          | (go_at_call 11; refine (zzcore_any _ _ (by omega)).mono ?_; rintro e w3 ⟨rfl, hb3⟩)
          | (go_at_call 14; refine (radix_any _ _ (by omega)).mono ?_; rintro e w' ⟨rfl, hw⟩; rw [hw, p3]; clear hw))
        go_ret
        exact ⟨rfl, hbb.trans (hb3.mono hbb.size)⟩
      · go_wp2_with (first
          | (go_at_call 11; refine (zzcore_any _ _ (by omega)).mono ?_; rintro e w3 ⟨rfl, hb3⟩)
          | (go_at_call 14; refine (radix_any _ _ (by omega)).mono ?_; rintro e w' ⟨rfl, hw⟩; rw [hw, p3]; clear hw))
        go_ret
        exact ⟨rfl, hbb.trans (hb3.mono hbb.size)⟩
      · rcases p7 with p7 | p7 | p7
        all_goals
          go_wp2_with (first
            | (go_at_call 11; refine (zzcore_any _ _ (by omega)).mono ?_; rintro e w3 ⟨rfl, hb3⟩; rw [p7]; simp only [tagS])
            | (go_at_call 14; refine (radix_any _ _ (by omega)).mono ?_; rintro e w' ⟨rfl, hw⟩; rw [hw, p3]; clear hw))
          go_ret
          exact ⟨rfl, hbb.trans (hb3.mono hbb.size)⟩

set_option maxHeartbeats 400000 in
theorem sign_out (s : ByteArray) (w : World) (hs : s.size ≤ maxLen) (h : 1048576 < s.size) :
    Calls Try.prog 5 #[.string s] w fun e w' => e = .returned (.bool true) ∧ Below w.heap.size w w' := by
  go_enter Try.func5, Try.ntmps5
  go_wp2_with (go_at_call 13; refine (zz13_no _ _ hs h).mono ?_; rintro e w' ⟨rfl, hw⟩; rw [hw]; clear hw)
  go_ret
  exact ⟨rfl, Below.refl _ _⟩

theorem sign_any (s : ByteArray) (w : World) (hs : s.size ≤ maxLen) :
    Calls Try.prog 5 #[.string s] w fun e w' => e = .returned (.bool true) ∧ Below w.heap.size w w' := by
  by_cases h : s.size ≤ 1048576
  · exact sign_in s w h
  · exact sign_out s w hs (by omega)

end Go.Proofs.Qxb6600656a
