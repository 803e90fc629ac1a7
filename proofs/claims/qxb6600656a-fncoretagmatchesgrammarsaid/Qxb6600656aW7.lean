import Derived.Test.Qxb6600656aW6
import Derived.Test.Qxb6600656aPl3
import Derived.Deep.CutBlock
namespace Go.Proofs.Qxb6600656a
open Go.RowKit

theorem dig10_iff (c : UInt8) : digB 10 c = decide (48 ≤ (c.toNat : Int) ∧ (c.toNat : Int) ≤ 57) := by
  unfold digB dval
  apply decide_eq_decide.2
  split
  · omega
  · split
    · omega
    · split
      · omega
      · omega

set_option maxHeartbeats 400000 in
theorem isDec_any (c : UInt8) (w : World) : Calls Try.prog 24 #[.int .u8 c.toNat] w fun e w' => e = .returned (.bool (digB 10 c)) ∧ w' = w := by
  by_cases h1 : 48 ≤ (c.toNat : Int)
  · by_cases h2 : (c.toNat : Int) ≤ 57
    · rw [dig10_iff, decide_eq_true ⟨h1, h2⟩]
      go_enter Try.func24, Try.ntmps24
      go_wp2
      go_ret
      exact ⟨rfl, rfl⟩
    · rw [dig10_iff, decide_eq_false (fun h => h2 h.2)]
      go_enter Try.func24, Try.ntmps24
      go_wp2
      go_ret
      exact ⟨rfl, rfl⟩
  · rw [dig10_iff, decide_eq_false (fun h => h1 h.1)]
    go_enter Try.func24, Try.ntmps24
    go_wp2
    go_ret
    exact ⟨rfl, rfl⟩

set_option maxRecDepth 100000 in
set_option maxHeartbeats 1000000 in
theorem model_null (s : ByteArray) (w : World) (h : isNull s.data.toList = true) :
    Calls Try.prog 12 #[.string s] w fun e w' => e = .returned (.string (tagS 0)) ∧ w' = w := by
  unfold isNull at h
  simp only [Bool.or_eq_true, or_assoc] at h
  rcases h with h | h | h | h | h
  all_goals
    obtain rfl := of_list h
    clear h
    go_enter Try.func12, Try.ntmps12
    go_wp2
    go_ret
    exact ⟨rfl, rfl⟩

set_option maxRecDepth 100000 in
set_option maxHeartbeats 1000000 in
theorem model_bool (s : ByteArray) (w : World) (h : isBool s.data.toList = true) :
    Calls Try.prog 12 #[.string s] w fun e w' => e = .returned (.string (tagS 1)) ∧ w' = w := by
  unfold isBool at h
  simp only [Bool.or_eq_true, or_assoc] at h
  rcases h with h | h | h | h | h | h
  all_goals
    obtain rfl := of_list h
    clear h
    go_enter Try.func12, Try.ntmps12
    go_wp2
    go_ret
    exact ⟨rfl, rfl⟩

set_option maxRecDepth 100000 in
set_option maxHeartbeats 1000000 in
theorem model_nan (s : ByteArray) (w : World) (h : isNan s.data.toList = true) :
    Calls Try.prog 12 #[.string s] w fun e w' => e = .returned (.string (tagS 3)) ∧ w' = w := by
  unfold isNan at h
  simp only [Bool.or_eq_true, or_assoc] at h
  rcases h with h | h | h
  all_goals
    obtain rfl := of_list h
    clear h
    go_enter Try.func12, Try.ntmps12
    go_wp2
    go_ret
    exact ⟨rfl, rfl⟩

/-- Of the text's first byte. -/
def headIs (f : UInt8 → Bool) : List UInt8 → Bool
  | [] => false
  | c :: _ => f c
def isE (c : UInt8) : Bool := c == 101 || c == 69
def isS (c : UInt8) : Bool := c == 43 || c == 45

theorem uns_head {l : List UInt8} (h : headIs isS l = true) : uns l = l.drop 1 := by
  cases l with
  | nil => rfl
  | cons c t => rw [uns, if_pos (by simpa [headIs, isS] using h)]; rfl
theorem uns_nohead {l : List UInt8} (h : headIs isS l = false) : uns l = l := by
  cases l with
  | nil => rfl
  | cons c t => rw [uns, if_neg (by simpa [headIs, isS] using h)]
theorem st2_no {l : List UInt8} (h : headIs (· == 46) l = false) : st2 l = (false, 0, l) := by
  cases l with
  | nil => rfl
  | cons c t => rw [st2, if_neg (by simpa [headIs] using h)]
theorem st2_yes {l : List UInt8} (h : headIs (· == 46) l = true) : st2 l = (true, nd (l.drop 1), (l.drop 1).drop (nd (l.drop 1))) := by
  cases l with
  | nil => simp [headIs] at h
  | cons c t => rw [st2, if_pos (by simpa [headIs] using h)]; rfl
theorem st3_no {l : List UInt8} (h : headIs isE l = false) : st3 l = some (false, l) := by
  cases l with
  | nil => rfl
  | cons c t => rw [st3, if_neg (by simpa [headIs, isE] using h)]
theorem st3_yes {l : List UInt8} (h : headIs isE l = true) : st3 l = if nd (uns (l.drop 1)) = 0 then none else some (true, (uns (l.drop 1)).drop (nd (uns (l.drop 1)))) := by
  cases l with
  | nil => simp [headIs] at h
  | cons c t => rw [st3, if_pos (by simpa [headIs, isE] using h)]; rfl

/-! The text from a place on. -/
theorem drop_at {s : ByteArray} {j : Nat} (h : j < s.size) : s.data.toList.drop j = s[j] :: s.data.toList.drop (j + 1) := by
  have h' : j < s.data.toList.length := by rw [list_len]; exact h
  rw [List.drop_eq_getElem_cons h']
  congr 1
theorem drop_end {s : ByteArray} {j : Nat} (h : ¬ j < s.size) : s.data.toList.drop j = [] := List.drop_of_length_le (by rw [list_len]; omega)

/-- k digits from j0 on: as far as the loop has come. -/
def Run (s : ByteArray) (j0 k : Nat) : Prop := nd (s.data.toList.drop j0) = k + nd (s.data.toList.drop (j0 + k)) ∧ j0 + k ≤ s.size

theorem Run.start {s : ByteArray} {j0 : Nat} (h : j0 ≤ s.size) : Run s j0 0 := ⟨by simp, h⟩
theorem Run.step {s : ByteArray} {j0 k : Nat} (h : Run s j0 k) (hlt : j0 + k < s.size) (hd : digB 10 (s[j0 + k]'hlt) = true) : Run s j0 (k + 1) := by
  refine ⟨?_, by omega⟩
  rw [h.1, drop_at hlt, nd, if_pos hd, show j0 + (k + 1) = j0 + k + 1 from by omega]; omega
theorem Run.stop {s : ByteArray} {j0 k : Nat} (h : Run s j0 k) (hlt : j0 + k < s.size) (hd : digB 10 (s[j0 + k]'hlt) = false) : k = nd (s.data.toList.drop j0) := by
  rw [h.1, drop_at hlt, nd, if_neg (by rw [hd]; simp)]; rfl
theorem head_at {s : ByteArray} {j : Nat} (h : j < s.size) (f : UInt8 → Bool) : headIs f (s.data.toList.drop j) = f (s[j]'h) := by rw [drop_at h]; rfl
theorem head_end {s : ByteArray} {j : Nat} (h : ¬ j < s.size) (f : UInt8 → Bool) : headIs f (s.data.toList.drop j) = false := by rw [drop_end h]; rfl
theorem Run.last {s : ByteArray} {j0 k : Nat} (h : Run s j0 k) (hlt : ¬ j0 + k < s.size) : k = nd (s.data.toList.drop j0) := by
  rw [h.1, drop_end hlt]; rfl

set_option maxRecDepth 100000 in
set_option maxHeartbeats 8000000 in
theorem model_other (s : ByteArray) (w : World) (hs : s.size ≤ 1048576) (hN : isNull s.data.toList = false) (hB : isBool s.data.toList = false) (hA : isNan s.data.toList = false) (hR : rad s.data.toList = false) :
    Calls Try.prog 12 #[.string s] w fun e w' => e = .returned (.string (tagS (modelTag s.data.toList))) ∧ w' = w := by
  have HT : Hid (modelTag s.data.toList = if isInf (uns s.data.toList) then 3 else modelNum (uns s.data.toList)) := by
    show modelTag _ = _
    unfold modelTag
    rw [hN, hB, hA, hR]; rfl
  have hpos : 0 < s.size := by
    apply Nat.pos_of_ne_zero
    intro e
    rw [list_nil e] at hN
    exact absurd hN (by decide)
  unfold isNull at hN
  unfold isBool at hB
  unfold isNan at hA
  simp only [Bool.or_eq_false_iff] at hN hB hA
  obtain ⟨⟨⟨⟨n1, n2⟩, n3⟩, n4⟩, n5⟩ := hN
  obtain ⟨⟨⟨⟨⟨b1, b2⟩, b3⟩, b4⟩, b5⟩, b6⟩ := hB
  obtain ⟨⟨a1, a2⟩, a3⟩ := hA
  replace n1 := tl n1; replace n2 := tl n2; replace n3 := tl n3; replace n4 := tl n4; replace n5 := tl n5
  replace b1 := tl b1; replace b2 := tl b2; replace b3 := tl b3; replace b4 := tl b4; replace b5 := tl b5; replace b6 := tl b6
  replace a1 := tl a1; replace a2 := tl a2; replace a3 := tl a3
  have q3 : (1 : Int) ≤ (s.size : Int) := by omega
  go_enter Try.func12, Try.ntmps12
  go_upto_region 23 with (go_at_call 14; refine (radix_any _ _ (by omega)).mono ?_; rintro e w' ⟨rfl, hw⟩; rw [hw, hR]; clear hw)
  clear n1 n2 n3 n4 n5 b1 b2 b3 b4 b5 b6 a1 a2 a3 hR
  go_cut [39] from 32 to 38 (fun s39 wc => s39 = .bool (sgn s hpos) ∧ w = wc)
  case first =>
    by_cases g1 : ((s[0]'hpos).toNat : Int) = 43
    · have HS : Hid (sgn s hpos = true) := decide_eq_true (.inl g1)
      go_wp2
      go_meet
      case rel => exact ⟨by rw [HS.out], rfl⟩
    · have c1 : (((s[0]'hpos).toNat : Int) == 43) = false := beq_eq_false_iff_ne.2 g1
      by_cases g2 : ((s[0]'hpos).toNat : Int) = 45
      · have HS : Hid (sgn s hpos = true) := decide_eq_true (.inr g2)
        go_wp2
        go_meet
        case rel => exact ⟨by rw [HS.out], rfl⟩
      · have c2 : (((s[0]'hpos).toNat : Int) == 45) = false := beq_eq_false_iff_ne.2 g2
        have HS : Hid (sgn s hpos = false) := decide_eq_false (fun e => e.elim g1 g2)
        clear g1 g2
        go_wp2
        go_meet
        case rel => exact ⟨by rw [HS.out], rfl⟩
  case rest =>
    obtain ⟨rfl, rfl⟩ := hcut
    go_upto_if 39 with fail
    go_cut [4, 39] from 40 to 41 (fun s4 _ wc => ∃ j : Nat, s4 = .int .i64 j ∧ j ≤ 1 ∧ s.data.toList.drop j = uns s.data.toList ∧ w = wc)
    case first =>
      cases hsg : sgn s hpos
      · have HU : Hid (s.data.toList.drop 0 = uns s.data.toList) := by
          have := of_decide_eq_false hsg
          exact (uns_none hpos (fun e => this (.inl e)) (fun e => this (.inr e))).symm
        go_wp2
        go_meet
        case rel => exact ⟨0, rfl, by omega, HU.out, rfl⟩
      · have HU : Hid (s.data.toList.drop 1 = uns s.data.toList) := (uns_sign hpos (of_decide_eq_true hsg)).symm
        go_wp2
        go_meet
        case rel => exact ⟨1, rfl, by omega, HU.out, rfl⟩
    case rest =>
      obtain ⟨j0, rfl, hj0, hu, rfl⟩ := hcut
      have HU : Hid (s.data.toList.drop j0 = uns s.data.toList) := hu
      clear hu
      have q4 : (j0 : Int) ≤ (s.size : Int) := by omega
      cases hinf : isInf (s.extract j0 s.size).data.toList
      · have HI : Hid (isInf (uns s.data.toList) = false) := by show isInf _ = _; rw [← HU.out, ← ext_from]; exact hinf
        unfold isInf at hinf
        simp only [Bool.or_eq_false_iff] at hinf
        obtain ⟨⟨i1, i2⟩, i3⟩ := hinf
        replace i1 := tl i1; replace i2 := tl i2; replace i3 := tl i3
        go_upto_block 2 with fail
        clear i1 i2 i3
        go_cut [4, 5] from 47 to 59 (fun s4 s5 wc => ∃ a j1 : Nat, a = nd (s.data.toList.drop j0) ∧ j1 = j0 + a ∧ j1 ≤ s.size ∧ a ≤ s.size ∧ s4 = .int .i64 j1 ∧ s5 = .int .i64 a ∧ w = wc)
        case first =>
          go_wp2_with fail
          go_loopg [4, 5] s.size (fun g s4 s5 wx => ∃ k : Nat, Run s j0 k ∧ s.size ≤ j0 + k + g ∧ s4 = .int .i64 ((j0 + k : Nat) : Int) ∧ s5 = .int .i64 k ∧ w = wx)
          case atStart => exact ⟨0, Run.start (by omega), by omega, by simp, rfl, rfl⟩
          case round =>
            obtain ⟨k, hrun, hg, rfl, rfl, rfl⟩ := hrel
            have hle := hrun.2
            have HRn : Hid (Run s j0 k) := hrun
            clear hrun
            by_cases hlt : j0 + k < s.size
            · have hltI : (j0 : Int) + (k : Int) < (s.size : Int) := by omega
              cases hd : digB 10 (s[j0 + k]'hlt)
              · have HK : Hid (k = nd (s.data.toList.drop j0)) := HRn.out.stop hlt hd
                go_wp2_with (go_at_call 24; refine (isDec_any _ _).mono ?_; rintro e w' ⟨rfl, hw⟩; rw [hw, hd]; clear hw)
                go_meet
                case rel => exact ⟨k, j0 + k, HK.out, rfl, by omega, by omega, by go_num, rfl, rfl⟩
              · have HK : Hid (Run s j0 (k + 1)) := HRn.out.step hlt hd
                go_wp2_with (go_at_call 24; refine (isDec_any _ _).mono ?_; rintro e w' ⟨rfl, hw⟩; rw [hw, hd]; clear hw)
                go_roundg (s.size - (j0 + k + 1))
                case measure => omega
                case rel => exact ⟨k + 1, HK.out, by omega, by go_num, by go_num, rfl⟩
            · have HK : Hid (k = nd (s.data.toList.drop j0)) := HRn.out.last hlt
              go_wp2
              go_meet
              case rel => exact ⟨k, j0 + k, HK.out, rfl, by omega, by omega, by go_num, rfl, rfl⟩
        case rest =>
          obtain ⟨a, j1, ha, hj1, hj1s, has, rfl, rfl, rfl⟩ := hcut
          have HA : Hid (a = nd (uns s.data.toList) ∧ s.data.toList.drop j1 = (uns s.data.toList).drop a) := by
            refine ⟨by rw [ha, HU.out], ?_⟩
            rw [← HU.out, List.drop_drop, hj1]
          have HT2 : Hid (modelTag s.data.toList = modelNum (uns s.data.toList)) := by show modelTag _ = _; rw [HT.out, HI.out]; rfl
          clear ha hj1 HI HT HU
          clear hj0 q4
          go_upto_region 36 with fail
          go_cut [68] from 60 to 67 (fun s68 wc => s68 = .bool (headIs (· == 46) (s.data.toList.drop j1)) ∧ w = wc)
          case first =>
            by_cases hlt : j1 < s.size
            · have hltI : (j1 : Int) < (s.size : Int) := by omega
              by_cases hc : ((s[j1]'hlt).toNat : Int) = 46
              · have HH : Hid (headIs (· == 46) (s.data.toList.drop j1) = true) := by show headIs _ _ = _; rw [head_at hlt]; exact beq_of_int hc
                go_wp2
                go_meet
                case rel => exact ⟨by rw [HH.out], rfl⟩
              · have HH : Hid (headIs (· == 46) (s.data.toList.drop j1) = false) := by show headIs _ _ = _; rw [head_at hlt]; exact beq_not_int hc
                have hcb : (((s[j1]'hlt).toNat : Int) == 46) = false := beq_eq_false_iff_ne.2 hc
                clear hc
                go_wp2
                go_meet
                case rel => exact ⟨by rw [HH.out], rfl⟩
            · have HH : Hid (headIs (· == 46) (s.data.toList.drop j1) = false) := head_end hlt _
              have hltI : ¬ (j1 : Int) < (s.size : Int) := by omega
              go_wp2
              go_meet
              case rel => exact ⟨by rw [HH.out], rfl⟩
          case rest =>
            obtain ⟨rfl, rfl⟩ := hcut
            go_upto_if 68 with fail
            go_cut [4, 6, 7, 68] from 69 to 83 (fun s4 s6 s7 _ wc => ∃ (p : Bool) (b j2 : Nat), st2 (s.data.toList.drop j1) = (p, b, s.data.toList.drop j2) ∧ j2 ≤ s.size ∧ b ≤ s.size ∧ s4 = .int .i64 j2 ∧ s6 = .bool p ∧ s7 = .int .i64 b ∧ w = wc)
            case first =>
              cases hh : headIs (· == 46) (s.data.toList.drop j1)
              · have HS2 : Hid (st2 (s.data.toList.drop j1) = (false, 0, s.data.toList.drop j1)) := st2_no hh
                go_wp2
                go_meet
                case rel => exact ⟨false, 0, j1, HS2.out, hj1s, by omega, rfl, rfl, rfl, rfl⟩
              · have hlt : j1 < s.size := by
                  apply Nat.lt_of_not_ge
                  intro e
                  rw [head_end (by omega)] at hh
                  exact absurd hh (by decide)
                have HS2 : Hid (st2 (s.data.toList.drop j1) = (true, nd (s.data.toList.drop (j1 + 1)), s.data.toList.drop (j1 + 1 + nd (s.data.toList.drop (j1 + 1))))) := by
                  show st2 _ = _
                  rw [st2_yes hh, List.drop_drop, List.drop_drop]
                go_wp2_with fail
                go_loopg [4, 7] s.size (fun g s4 s7 wx => ∃ k : Nat, Run s (j1 + 1) k ∧ s.size ≤ j1 + 1 + k + g ∧ s4 = .int .i64 ((j1 + 1 + k : Nat) : Int) ∧ s7 = .int .i64 k ∧ w = wx)
                case atStart => exact ⟨0, Run.start (by omega), by omega, by go_num, rfl, rfl⟩
                case round =>
                  obtain ⟨k, hrun, hg, rfl, rfl, rfl⟩ := hrel
                  have hle := hrun.2
                  have HRn : Hid (Run s (j1 + 1) k) := hrun
                  clear hrun
                  by_cases hlt : j1 + 1 + k < s.size
                  · have hltI : (j1 : Int) + 1 + (k : Int) < (s.size : Int) := by omega
                    cases hd : digB 10 (s[j1 + 1 + k]'hlt)
                    · have HK : Hid (k = nd (s.data.toList.drop (j1 + 1))) := HRn.out.stop hlt hd
                      go_wp2_with (go_at_call 24; refine (isDec_any _ _).mono ?_; rintro e w' ⟨rfl, hw⟩; rw [hw, hd]; clear hw)
                      go_meet
                      case rel => exact ⟨true, k, j1 + 1 + k, by rw [HS2.out, ← HK.out], by omega, by omega, by go_num, rfl, rfl, rfl⟩
                    · have HK : Hid (Run s (j1 + 1) (k + 1)) := HRn.out.step hlt hd
                      go_wp2_with (go_at_call 24; refine (isDec_any _ _).mono ?_; rintro e w' ⟨rfl, hw⟩; rw [hw, hd]; clear hw)
                      go_roundg (s.size - (j1 + 1 + k + 1))
                      case measure => omega
                      case rel => exact ⟨k + 1, HK.out, by omega, by go_num, by go_num, rfl⟩
                  · have HK : Hid (k = nd (s.data.toList.drop (j1 + 1))) := HRn.out.last hlt
                    go_wp2
                    go_meet
                    case rel => exact ⟨true, k, j1 + 1 + k, by rw [HS2.out, ← HK.out], by omega, by omega, by go_num, rfl, rfl, rfl⟩
            case rest =>
              obtain ⟨p, b, j2, hst2, hj2, hbs, rfl, rfl, rfl, rfl⟩ := hcut
              have HM : Hid (modelTag s.data.toList = match st3 (s.data.toList.drop j2) with | none => 4 | some (e, r) => if r ≠ [] ∨ a + b = 0 then 4 else if (!p && !e) = true then 2 else 3) := by
                show modelTag _ = _
                rw [HT2.out]
                unfold modelNum
                rw [← HA.out.1, ← HA.out.2, hst2]
                rfl
              clear hst2 HA HT2 hj1s
              go_upto_region 43 with fail
              go_cut [98] from 84 to 97 (fun s98 wc => s98 = .bool (headIs isE (s.data.toList.drop j2)) ∧ w = wc)
              case first =>
                by_cases hlt : j2 < s.size
                · have hltI : (j2 : Int) < (s.size : Int) := by omega
                  by_cases hc : ((s[j2]'hlt).toNat : Int) = 101
                  · have HH : Hid (headIs isE (s.data.toList.drop j2) = true) := by show headIs _ _ = _; rw [head_at hlt]; unfold isE; rw [beq_of_int (n := 101) hc]; rfl
                    go_wp2
                    go_meet
                    case rel => exact ⟨by rw [HH.out], rfl⟩
                  · have hcb : (((s[j2]'hlt).toNat : Int) == 101) = false := beq_eq_false_iff_ne.2 hc
                    by_cases hc2 : ((s[j2]'hlt).toNat : Int) = 69
                    · have HH : Hid (headIs isE (s.data.toList.drop j2) = true) := by show headIs _ _ = _; rw [head_at hlt]; unfold isE; rw [beq_of_int (n := 69) hc2]; simp
                      clear hc
                      go_wp2
                      go_meet
                      case rel => exact ⟨by rw [HH.out], rfl⟩
                    · have HH : Hid (headIs isE (s.data.toList.drop j2) = false) := by show headIs _ _ = _; rw [head_at hlt]; unfold isE; rw [beq_not_int (n := 101) hc, beq_not_int (n := 69) hc2]; rfl
                      have hcb2 : (((s[j2]'hlt).toNat : Int) == 69) = false := beq_eq_false_iff_ne.2 hc2
                      clear hc hc2
                      go_wp2
                      go_meet
                      case rel => exact ⟨by rw [HH.out], rfl⟩
                · have HH : Hid (headIs isE (s.data.toList.drop j2) = false) := head_end hlt _
                  have hltI : ¬ (j2 : Int) < (s.size : Int) := by omega
                  go_wp2
                  go_meet
                  case rel => exact ⟨by rw [HH.out], rfl⟩
              case rest =>
                obtain ⟨rfl, rfl⟩ := hcut
                go_upto_if 98 with fail
                go_cut [4, 8, 9, 98] from 99 to 132 (fun s4 s8 _ _ wc => ∃ (e : Bool) (j4 : Nat), st3 (s.data.toList.drop j2) = some (e, s.data.toList.drop j4) ∧ j4 ≤ s.size ∧ s4 = .int .i64 j4 ∧ s8 = .bool e ∧ w = wc)
                case first =>
                  cases hh : headIs isE (s.data.toList.drop j2)
                  · have HS3 : Hid (st3 (s.data.toList.drop j2) = some (false, s.data.toList.drop j2)) := st3_no hh
                    go_wp2
                    go_meet
                    case rel => exact ⟨false, j2, HS3.out, hj2, rfl, rfl, rfl⟩
                  · have hlt : j2 < s.size := by
                      apply Nat.lt_of_not_ge
                      intro e
                      rw [head_end (by omega)] at hh
                      exact absurd hh (by decide)
                    have HS3 : Hid (st3 (s.data.toList.drop j2) = if nd (uns (s.data.toList.drop (j2 + 1))) = 0 then none else some (true, (uns (s.data.toList.drop (j2 + 1))).drop (nd (uns (s.data.toList.drop (j2 + 1)))))) := by
                      show st3 _ = _
                      rw [st3_yes hh, List.drop_drop]
                    go_upto_region 46 with fail
                    go_cut [115] from 101 to 114 (fun s115 wc => s115 = .bool (headIs isS (s.data.toList.drop (j2 + 1))) ∧ w = wc)
                    case first =>
                      by_cases hlt : j2 + 1 < s.size
                      · have hltI : (j2 : Int) + 1 < (s.size : Int) := by omega
                        by_cases hc : ((s[j2 + 1]'hlt).toNat : Int) = 43
                        · have HH : Hid (headIs isS (s.data.toList.drop (j2 + 1)) = true) := by show headIs _ _ = _; rw [head_at hlt]; unfold isS; rw [beq_of_int (n := 43) hc]; rfl
                          go_wp2
                          go_meet
                          case rel => exact ⟨by rw [HH.out], rfl⟩
                        · have hcb : (((s[j2 + 1]'hlt).toNat : Int) == 43) = false := beq_eq_false_iff_ne.2 hc
                          by_cases hc2 : ((s[j2 + 1]'hlt).toNat : Int) = 45
                          · have HH : Hid (headIs isS (s.data.toList.drop (j2 + 1)) = true) := by show headIs _ _ = _; rw [head_at hlt]; unfold isS; rw [beq_of_int (n := 45) hc2]; simp
                            clear hc
                            go_wp2
                            go_meet
                            case rel => exact ⟨by rw [HH.out], rfl⟩
                          · have HH : Hid (headIs isS (s.data.toList.drop (j2 + 1)) = false) := by show headIs _ _ = _; rw [head_at hlt]; unfold isS; rw [beq_not_int (n := 43) hc, beq_not_int (n := 45) hc2]; rfl
                            have hcb2 : (((s[j2 + 1]'hlt).toNat : Int) == 45) = false := beq_eq_false_iff_ne.2 hc2
                            clear hc hc2
                            go_wp2
                            go_meet
                            case rel => exact ⟨by rw [HH.out], rfl⟩
                      · have HH : Hid (headIs isS (s.data.toList.drop (j2 + 1)) = false) := head_end hlt _
                        have hltI : ¬ (j2 : Int) + 1 < (s.size : Int) := by omega
                        go_wp2
                        go_meet
                        case rel => exact ⟨by rw [HH.out], rfl⟩
                    case rest =>
                      obtain ⟨rfl, rfl⟩ := hcut
                      go_upto_if 115 with fail
                      go_cut [4, 115] from 116 to 117 (fun s4 _ wc => ∃ j3 : Nat, j3 ≤ s.size ∧ uns (s.data.toList.drop (j2 + 1)) = s.data.toList.drop j3 ∧ s4 = .int .i64 j3 ∧ w = wc)
                      case first =>
                        cases hg : headIs isS (s.data.toList.drop (j2 + 1))
                        · have HG : Hid (uns (s.data.toList.drop (j2 + 1)) = s.data.toList.drop (j2 + 1)) := uns_nohead hg
                          go_wp2
                          go_meet
                          case rel => exact ⟨j2 + 1, by omega, HG.out, by go_num, rfl⟩
                        · have HG : Hid (uns (s.data.toList.drop (j2 + 1)) = s.data.toList.drop (j2 + 1 + 1)) := by show uns _ = _; rw [uns_head hg, List.drop_drop]
                          have hlt2 : j2 + 1 < s.size := by
                            apply Nat.lt_of_not_ge
                            intro e
                            rw [head_end (by omega)] at hg
                            exact absurd hg (by decide)
                          go_wp2
                          go_meet
                          case rel => exact ⟨j2 + 1 + 1, by omega, HG.out, by go_num, rfl⟩
                      case rest =>
                        obtain ⟨j3, hj3, hu3, rfl, rfl⟩ := hcut
                        have HS4 : Hid (st3 (s.data.toList.drop j2) = if nd (s.data.toList.drop j3) = 0 then none else some (true, s.data.toList.drop (j3 + nd (s.data.toList.drop j3)))) := by
                          show st3 _ = _
                          rw [HS3.out, hu3, List.drop_drop]
                        clear HS3 hu3
                        go_wp2_with fail
                        go_loopg [4, 9] s.size (fun g s4 s9 wx => ∃ k : Nat, Run s j3 k ∧ s.size ≤ j3 + k + g ∧ s4 = .int .i64 ((j3 + k : Nat) : Int) ∧ s9 = .int .i64 k ∧ w = wx)
                        case atStart => exact ⟨0, Run.start (by omega), by omega, by go_num, rfl, rfl⟩
                        case round =>
                          obtain ⟨k, hrun, hg, rfl, rfl, rfl⟩ := hrel
                          have hle := hrun.2
                          have HRn : Hid (Run s j3 k) := hrun
                          clear hrun
                          by_cases hlt : j3 + k < s.size
                          · have hltI : (j3 : Int) + (k : Int) < (s.size : Int) := by omega
                            cases hd : digB 10 (s[j3 + k]'hlt)
                            · have HK : Hid (k = nd (s.data.toList.drop j3)) := HRn.out.stop hlt hd
                              by_cases hk0 : k = 0
                              · have HE : Hid (modelTag s.data.toList = 4) := by
                                  show modelTag _ = _
                                  rw [HM.out, HS4.out, if_pos (by rw [← HK.out]; exact hk0)]
                                have hkb : ((k : Int) == 0) = true := beq_iff_eq.2 (by omega)
                                clear hk0
                                go_wp2_with (go_at_call 24; refine (isDec_any _ _).mono ?_; rintro e w' ⟨rfl, hw⟩; rw [hw, hd]; clear hw)
                                go_ret
                                exact ⟨by rw [HE.out]; rfl, rfl⟩
                              · have HE : Hid (st3 (s.data.toList.drop j2) = some (true, s.data.toList.drop (j3 + k))) := by
                                  show st3 _ = _
                                  rw [HS4.out, ← HK.out, if_neg hk0]
                                have hkb : ((k : Int) == 0) = false := beq_eq_false_iff_ne.2 (by omega)
                                clear hk0
                                go_wp2_with (go_at_call 24; refine (isDec_any _ _).mono ?_; rintro e w' ⟨rfl, hw⟩; rw [hw, hd]; clear hw)
                                go_meet
                                case rel => exact ⟨true, j3 + k, HE.out, by omega, by go_num, rfl, rfl⟩
                            · have HK : Hid (Run s j3 (k + 1)) := HRn.out.step hlt hd
                              go_wp2_with (go_at_call 24; refine (isDec_any _ _).mono ?_; rintro e w' ⟨rfl, hw⟩; rw [hw, hd]; clear hw)
                              go_roundg (s.size - (j3 + k + 1))
                              case measure => omega
                              case rel => exact ⟨k + 1, HK.out, by omega, by go_num, by go_num, rfl⟩
                          · have HK : Hid (k = nd (s.data.toList.drop j3)) := HRn.out.last hlt
                            by_cases hk0 : k = 0
                            · have HE : Hid (modelTag s.data.toList = 4) := by
                                show modelTag _ = _
                                rw [HM.out, HS4.out, if_pos (by rw [← HK.out]; exact hk0)]
                              have hkb : ((k : Int) == 0) = true := beq_iff_eq.2 (by omega)
                              clear hk0
                              go_wp2
                              go_ret
                              exact ⟨by rw [HE.out]; rfl, rfl⟩
                            · have HE : Hid (st3 (s.data.toList.drop j2) = some (true, s.data.toList.drop (j3 + k))) := by
                                show st3 _ = _
                                rw [HS4.out, ← HK.out, if_neg hk0]
                              have hkb : ((k : Int) == 0) = false := beq_eq_false_iff_ne.2 (by omega)
                              clear hk0
                              go_wp2
                              go_meet
                              case rel => exact ⟨true, j3 + k, HE.out, by omega, by go_num, rfl, rfl⟩
                case rest =>
                  obtain ⟨e, j4, hst3, hj4, rfl, rfl, rfl⟩ := hcut
                  have HM2 : Hid (modelTag s.data.toList = if s.data.toList.drop j4 ≠ [] ∨ a + b = 0 then 4 else if (!p && !e) = true then 2 else 3) := by
                    show modelTag _ = _
                    rw [HM.out, hst3]
                  clear hst3 HM
                  by_cases hend : j4 < s.size
                  · have hne : ((j4 : Int) != (s.size : Int)) = true := bne_iff_ne.2 (by omega)
                    have HE : Hid (modelTag s.data.toList = 4) := by
                      show modelTag _ = _
                      rw [HM2.out, if_pos (.inl (by rw [drop_at hend]; simp))]
                    go_wp2
                    go_ret
                    exact ⟨by rw [HE.out]; rfl, rfl⟩
                  · obtain rfl : j4 = s.size := by omega
                    have hdr : s.data.toList.drop s.size = [] := drop_end hend
                    have HD : Hid (s.data.toList.drop s.size = []) := hdr
                    clear hdr
                    by_cases hz : a + b = 0
                    · have HE : Hid (modelTag s.data.toList = 4) := by
                        show modelTag _ = _
                        rw [HM2.out, if_pos (.inr hz)]
                      have ha0 : a = 0 := by omega
                      have hb0 : b = 0 := by omega
                      subst ha0 hb0
                      go_wp2
                      go_ret
                      exact ⟨by rw [HE.out]; rfl, rfl⟩
                    · have hzb : (((a : Int) + (b : Int)) == 0) = false := beq_eq_false_iff_ne.2 (by omega)
                      have HE : Hid (modelTag s.data.toList = if (!p && !e) = true then 2 else 3) := by
                        show modelTag _ = _
                        rw [HM2.out, if_neg (by rintro (h | h); exact h HD.out; exact hz h)]
                      clear HM2
                      cases p <;> cases e
                      all_goals
                        go_wp2
                        go_ret
                        exact ⟨by rw [HE.out]; rfl, rfl⟩
      · have HE : Hid (modelTag s.data.toList = 3) := by
          show modelTag _ = _
          rw [HT.out, ← HU.out, ← ext_from, hinf]; rfl
        unfold isInf at hinf
        cases i1 : ((s.extract j0 s.size).data.toList == [46, 105, 110, 102])
        · cases i2 : ((s.extract j0 s.size).data.toList == [46, 73, 110, 102])
          · rw [i1, i2] at hinf
            have i3 : ((s.extract j0 s.size).data.toList == [46, 73, 78, 70]) = true := hinf
            clear hinf
            replace i1 := tl i1; replace i2 := tl i2; replace i3 := tl i3
            go_wp2
            go_ret
            exact ⟨by rw [HE.out]; rfl, rfl⟩
          · clear hinf
            replace i1 := tl i1; replace i2 := tl i2
            go_wp2
            go_ret
            exact ⟨by rw [HE.out]; rfl, rfl⟩
        · clear hinf
          replace i1 := tl i1
          go_wp2
          go_ret
          exact ⟨by rw [HE.out]; rfl, rfl⟩

set_option maxRecDepth 100000 in
set_option maxHeartbeats 1000000 in
theorem model_rad (s : ByteArray) (w : World) (hs : s.size ≤ 1048576) (hN : isNull s.data.toList = false) (hB : isBool s.data.toList = false) (hA : isNan s.data.toList = false) (hR : rad s.data.toList = true) :
    Calls Try.prog 12 #[.string s] w fun e w' => e = .returned (.string (tagS 2)) ∧ w' = w := by
  unfold isNull at hN
  unfold isBool at hB
  unfold isNan at hA
  simp only [Bool.or_eq_false_iff] at hN hB hA
  obtain ⟨⟨⟨⟨n1, n2⟩, n3⟩, n4⟩, n5⟩ := hN
  obtain ⟨⟨⟨⟨⟨b1, b2⟩, b3⟩, b4⟩, b5⟩, b6⟩ := hB
  obtain ⟨⟨a1, a2⟩, a3⟩ := hA
  replace n1 := tl n1; replace n2 := tl n2; replace n3 := tl n3; replace n4 := tl n4; replace n5 := tl n5
  replace b1 := tl b1; replace b2 := tl b2; replace b3 := tl b3; replace b4 := tl b4; replace b5 := tl b5; replace b6 := tl b6
  replace a1 := tl a1; replace a2 := tl a2; replace a3 := tl a3
  go_enter Try.func12, Try.ntmps12
  go_wp2_with (go_at_call 14; refine (radix_any _ _ (by omega)).mono ?_; rintro e w' ⟨rfl, hw⟩; rw [hw, hR]; clear hw)
  go_ret
  exact ⟨rfl, rfl⟩

theorem model_any (s : ByteArray) (w : World) (hs : s.size ≤ 1048576) :
    Calls Try.prog 12 #[.string s] w fun e w' => e = .returned (.string (tagS (tag s.data.toList))) ∧ w' = w := by
  rw [← model_eq]
  cases hN : isNull s.data.toList
  · cases hB : isBool s.data.toList
    · cases hA : isNan s.data.toList
      · cases hR : rad s.data.toList
        · exact model_other s w hs hN hB hA hR
        · have : modelTag s.data.toList = 2 := by unfold modelTag; rw [hN, hB, hA, hR]; rfl
          rw [this]
          exact model_rad s w hs hN hB hA hR
      · have : modelTag s.data.toList = 3 := by unfold modelTag; rw [hN, hB, hA]; rfl
        rw [this]
        exact model_nan s w hA
    · have : modelTag s.data.toList = 1 := by unfold modelTag; rw [hN, hB]; rfl
      rw [this]
      exact model_bool s w hB
  · have : modelTag s.data.toList = 0 := by unfold modelTag; rw [hN]; rfl
    rw [this]
    exact model_null s w hN

set_option maxHeartbeats 400000 in
theorem zz10_any (s : ByteArray) (w : World) (h : s.size ≤ 1048576) :
    Calls Try.prog 10 #[.string s] w fun e w' => e = .returned (.bool true) ∧ w' = w := by
  go_enter Try.func10, Try.ntmps10
  go_wp2
  go_ret
  exact ⟨rfl, rfl⟩

set_option maxHeartbeats 400000 in
theorem zz10_no (s : ByteArray) (w : World) (hs : s.size ≤ maxLen) (h : 1048576 < s.size) :
    Calls Try.prog 10 #[.string s] w fun e w' => e = .returned (.bool false) ∧ w' = w := by
  unfold maxLen at hs
  go_enter Try.func10, Try.ntmps10
  go_wp2
  go_ret
  exact ⟨rfl, rfl⟩

set_option maxHeartbeats 400000 in
theorem gram_in (s : ByteArray) (w : World) (h : s.size ≤ 1048576) :
    Calls Try.prog 4 #[.string s] w fun e w' => e = .returned (.bool true) ∧ Below w.heap.size w w' := by
  go_enter Try.func4, Try.ntmps4
  go_wp2_with (first
    | (go_at_call 10; refine (zz10_any _ _ h).mono ?_; rintro e w' ⟨rfl, hw⟩; rw [hw]; clear hw)
    | (go_at_call 11; refine (zzcore_any _ _ (by omega)).mono ?_; rintro e w1 ⟨rfl, hb⟩)
    | (go_at_call 12; refine (model_any _ _ h).mono ?_; rintro e w' ⟨rfl, hw⟩; rw [hw]; clear hw))
  go_ret
  exact ⟨by simp, hb⟩

set_option maxHeartbeats 400000 in
theorem gram_out (s : ByteArray) (w : World) (hs : s.size ≤ maxLen) (h : 1048576 < s.size) :
    Calls Try.prog 4 #[.string s] w fun e w' => e = .returned (.bool true) ∧ Below w.heap.size w w' := by
  go_enter Try.func4, Try.ntmps4
  go_wp2_with (go_at_call 10; refine (zz10_no _ _ hs h).mono ?_; rintro e w' ⟨rfl, hw⟩; rw [hw]; clear hw)
  go_ret
  exact ⟨rfl, Below.refl _ _⟩

theorem gram_any (s : ByteArray) (w : World) (hs : s.size ≤ maxLen) :
    Calls Try.prog 4 #[.string s] w fun e w' => e = .returned (.bool true) ∧ Below w.heap.size w w' := by
  by_cases h : s.size ≤ 1048576
  · exact gram_in s w h
  · exact gram_out s w hs (by omega)

end Go.Proofs.Qxb6600656a
