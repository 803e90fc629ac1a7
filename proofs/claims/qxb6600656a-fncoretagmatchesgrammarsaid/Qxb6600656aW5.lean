import Derived.Test.Qxb6600656aW4
namespace Go.Proofs.Qxb6600656a
open Go.RowKit

/-- The tags' texts. -/
def tagS : Nat → ByteArray
  | 0 => ⟨#[33, 33, 110, 117, 108, 108]⟩
  | 1 => ⟨#[33, 33, 98, 111, 111, 108]⟩
  | 2 => ⟨#[33, 33, 105, 110, 116]⟩
  | 3 => ⟨#[33, 33, 102, 108, 111, 97, 116]⟩
  | _ => ⟨#[33, 33, 115, 116, 114]⟩

theorem of_list {s : ByteArray} {l : List UInt8} (h : (s.data.toList == l) = true) : s = ⟨l.toArray⟩ := by
  apply ByteArray.ext
  apply Array.ext'
  simpa using h

set_option maxHeartbeats 1000000 in
theorem core_null (s : ByteArray) (w : World) (h : isNull s.data.toList = true) :
    Calls Try.prog 23 #[.string s] w fun e w' => e = .returned (.string (tagS 0)) ∧ w' = w := by
  unfold isNull at h
  simp only [Bool.or_eq_true, or_assoc] at h
  rcases h with h | h | h | h | h
  all_goals
    obtain rfl := of_list h
    clear h
    go_enter Try.func23, Try.ntmps23
    go_wp2
    go_ret
    exact ⟨rfl, rfl⟩

set_option maxHeartbeats 1000000 in
theorem core_bool (s : ByteArray) (w : World) (h : isBool s.data.toList = true) :
    Calls Try.prog 23 #[.string s] w fun e w' => e = .returned (.string (tagS 1)) ∧ w' = w := by
  unfold isBool at h
  simp only [Bool.or_eq_true, or_assoc] at h
  rcases h with h | h | h | h | h | h
  all_goals
    obtain rfl := of_list h
    clear h
    go_enter Try.func23, Try.ntmps23
    go_wp2
    go_ret
    exact ⟨rfl, rfl⟩

set_option maxHeartbeats 1000000 in
theorem core_nan (s : ByteArray) (w : World) (h : isNan s.data.toList = true) :
    Calls Try.prog 23 #[.string s] w fun e w' => e = .returned (.string (tagS 3)) ∧ w' = w := by
  unfold isNan at h
  simp only [Bool.or_eq_true, or_assoc] at h
  rcases h with h | h | h
  all_goals
    obtain rfl := of_list h
    clear h
    go_enter Try.func23, Try.ntmps23
    go_wp2
    go_ret
    exact ⟨rfl, rfl⟩

theorem tl {s : ByteArray} {l : List UInt8} {b : Bool} (h : (s.data.toList == l) = b) : (s.toList == l) = b := by rw [Lib.toList_data]; exact h

def sgn (s : ByteArray) (h : 0 < s.size) : Bool := decide (((s[0]'h).toNat : Int) = 43 ∨ ((s[0]'h).toNat : Int) = 45)

set_option maxHeartbeats 2000000 in
theorem core_other (s : ByteArray) (w : World) (hs : s.size ≤ 2097152) (hN : isNull s.data.toList = false) (hB : isBool s.data.toList = false) (hA : isNan s.data.toList = false) :
    Calls Try.prog 23 #[.string s] w fun e w' => e = .returned (.string (tagS (tag s.data.toList))) ∧ Below w.heap.size w w' := by
  have HT : Hid (tag s.data.toList = if isInf (uns s.data.toList) then 3 else if rad s.data.toList then 2 else if digs 10 (uns s.data.toList) then 2 else if isFl (uns s.data.toList) then 3 else 4) := by
    show tag _ = _
    unfold tag
    rw [hN, hB, hA]; rfl
  have hpos : 0 < s.size := by
    apply Nat.pos_of_ne_zero
    intro e
    rw [list_nil e] at hN
    exact absurd hN (by decide)
  unfold isNull at hN
  unfold isBool at hB
  unfold isNan at hA
  simp only [Bool.or_eq_false_iff] at hN hB hA
  obtain ⟨⟨⟨⟨n1, n2⟩, n3⟩, n4⟩, n5⟩ := hN
  obtain ⟨⟨⟨⟨⟨b1, b2⟩, b3⟩, b4⟩, b5⟩, b6⟩ := hB
  obtain ⟨⟨a1, a2⟩, a3⟩ := hA
  replace n1 := tl n1; replace n2 := tl n2; replace n3 := tl n3; replace n4 := tl n4; replace n5 := tl n5
  replace b1 := tl b1; replace b2 := tl b2; replace b3 := tl b3; replace b4 := tl b4; replace b5 := tl b5; replace b6 := tl b6
  replace a1 := tl a1; replace a2 := tl a2; replace a3 := tl a3
  have q3 : (1 : Int) ≤ (s.size : Int) := by omega
  go_enter Try.func23, Try.ntmps23
  go_upto_region 20 with fail
  clear n1 n2 n3 n4 n5 b1 b2 b3 b4 b5 b6 a1 a2 a3
  go_cut [30] from 23 to 29 (fun s30 wc => s30 = .bool (sgn s hpos) ∧ w = wc)
  case first =>
    by_cases g1 : ((s[0]'hpos).toNat : Int) = 43
    · have HS : Hid (sgn s hpos = true) := decide_eq_true (.inl g1)
      go_wp2
      go_meet
      case rel => exact ⟨by rw [HS.out], rfl⟩
    · have c1 : (((s[0]'hpos).toNat : Int) == 43) = false := beq_eq_false_iff_ne.2 g1
      by_cases g2 : ((s[0]'hpos).toNat : Int) = 45
      · have HS : Hid (sgn s hpos = true) := decide_eq_true (.inr g2)
        go_wp2
        go_meet
        case rel => exact ⟨by rw [HS.out], rfl⟩
      · have c2 : (((s[0]'hpos).toNat : Int) == 45) = false := beq_eq_false_iff_ne.2 g2
        have HS : Hid (sgn s hpos = false) := decide_eq_false (fun e => e.elim g1 g2)
        clear g1 g2
        go_wp2
        go_meet
        case rel => exact ⟨by rw [HS.out], rfl⟩
  case rest =>
    obtain ⟨rfl, rfl⟩ := hcut
    go_upto_if 30 with fail
    go_cut [3, 30] from 31 to 32 (fun s3 _ wc => ∃ u : ByteArray, s3 = .string u ∧ u.size ≤ s.size ∧ u.data.toList = uns s.data.toList ∧ w = wc)
    case first =>
      cases hsg : sgn s hpos
      · have HU : Hid (s.data.toList = uns s.data.toList) := by
          have := of_decide_eq_false hsg
          exact (uns_none hpos (fun e => this (.inl e)) (fun e => this (.inr e))).symm
        go_wp2
        go_meet
        case rel => exact ⟨s, rfl, Nat.le_refl _, HU.out, rfl⟩
      · have HU : Hid ((s.extract 1 s.size).data.toList = uns s.data.toList) := by
          show _ = _
          rw [uns_sign hpos (of_decide_eq_true hsg), ext_from]
        go_wp2
        go_meet
        case rel => exact ⟨s.extract 1 s.size, rfl, by simp, HU.out, rfl⟩
    case rest =>
      obtain ⟨u, rfl, hus, hu, rfl⟩ := hcut
      have HU : Hid (u.data.toList = uns s.data.toList) := hu
      clear hu
      cases hinf : isInf u.data.toList
      · have HI : Hid (isInf u.data.toList = false) := hinf
        unfold isInf at hinf
        simp only [Bool.or_eq_false_iff] at hinf
        obtain ⟨⟨i1, i2⟩, i3⟩ := hinf
        replace i1 := tl i1; replace i2 := tl i2; replace i3 := tl i3
        go_upto_region 24 with fail
        clear i1 i2 i3
        go_cut [44] from 45 to 67 (fun s44 wc => s44 = .bool (rad s.data.toList) ∧ Below w.heap.size w wc)
        case first =>
          by_cases h3 : 3 ≤ s.size
          · have hz : (2 : Int) < (s.size : Int) := by omega
            have q4 : (2 : Int) ≤ (s.size : Int) := by omega
            have hxs : (s.extract 2 s.size).size ≤ 2097152 := by simp; omega
            have hr := rad_eq h3
            have e2 : (s.extract 0 2).data.toList = [s[0], s[1]] := by rw [ext_to, list_two (by omega)]
            have e : ∀ a b c d : UInt8, ([a, b] == [c, d]) = (a == c && b == d) := fun a b c d => by simp
            have x1 : ((s.extract 0 2).toList == [48, 111]) = (s[0] == 48 && s[1] == 111) := by rw [Lib.toList_data, e2, e]
            have x2 : ((s.extract 0 2).toList == [48, 120]) = (s[0] == 48 && s[1] == 120) := by rw [Lib.toList_data, e2, e]
            rw [← x1, ← x2] at hr
            have HR : Hid (rad s.data.toList = (((s.extract 0 2).toList == [48, 111]) && digsB 8 (s.extract 2 s.size) || ((s.extract 0 2).toList == [48, 120]) && digsB 16 (s.extract 2 s.size))) := hr
            have HX : Hid (((s.extract 0 2).toList == [48, 111]) = true → ((s.extract 0 2).toList == [48, 120]) = false) := by
              intro hh
              rw [Lib.toList_data] at hh ⊢
              rw [of_list hh]; decide
            clear hr x1 x2 e e2
            cases y1 : ((s.extract 0 2).toList == [48, 111])
            · cases y2 : ((s.extract 0 2).toList == [48, 120])
              · go_wp2
                go_meet
                case rel => exact ⟨by rw [HR.out, y1, y2]; rfl, Below.refl _ _⟩
              · go_wp2_with (go_at_call 28; refine (digits_any _ 16 _ (le_max hxs) (by omega)).mono ?_; rintro e w' ⟨rfl, hb3⟩)
                go_meet
                case rel => exact ⟨by rw [HR.out, y1, y2]; rfl, hb3⟩
            · have y2 := HX.out y1
              cases y3 : digsB 8 (s.extract 2 s.size)
              · go_wp2_with (go_at_call 28; refine (digits_any _ 8 _ (le_max hxs) (by omega)).mono ?_; rintro e w' ⟨rfl, hb3⟩; rw [y3])
                go_meet
                case rel => exact ⟨by rw [HR.out, y1, y2, y3]; rfl, hb3⟩
              · go_wp2_with (go_at_call 28; refine (digits_any _ 8 _ (le_max hxs) (by omega)).mono ?_; rintro e w' ⟨rfl, hb3⟩; rw [y3])
                go_meet
                case rel => exact ⟨by rw [HR.out, y1, y3]; rfl, hb3⟩
          · have hz : ¬ ((2 : Int) < (s.size : Int)) := by omega
            have HR : Hid (rad s.data.toList = false) := rad_short (by omega)
            go_wp2
            go_meet
            case rel => exact ⟨by rw [HR.out], Below.refl _ _⟩
        case rest =>
          obtain ⟨rfl, hb⟩ := hcut
          cases hr : rad s.data.toList
          · cases hd : digsB 10 u
            · cases hf : isFl u.data.toList
              · have HE : Hid (tag s.data.toList = 4) := by
                  show tag _ = _
                  rw [HT.out, ← HU.out, HI.out, hr, show digs 10 u.data.toList = false from hd, hf]; rfl
                go_wp2_with (first
                  | (go_at_call 28; refine (digits_any _ 10 _ (le_max (Nat.le_trans hus hs)) (by omega)).mono ?_; rintro e w' ⟨rfl, hb2⟩; rw [hd])
                  | (go_at_call 29; refine (isFloat_any _ _ (Nat.le_trans hus hs)).mono ?_; rintro e w' ⟨rfl, hb3⟩; rw [hf]))
                go_ret
                exact ⟨by rw [HE.out]; rfl, (hb.trans (hb2.mono hb.size)).trans (hb3.mono (Nat.le_trans hb.size hb2.size))⟩
              · have HE : Hid (tag s.data.toList = 3) := by
                  show tag _ = _
                  rw [HT.out, ← HU.out, HI.out, hr, show digs 10 u.data.toList = false from hd, hf]; rfl
                go_wp2_with (first
                  | (go_at_call 28; refine (digits_any _ 10 _ (le_max (Nat.le_trans hus hs)) (by omega)).mono ?_; rintro e w' ⟨rfl, hb2⟩; rw [hd])
                  | (go_at_call 29; refine (isFloat_any _ _ (Nat.le_trans hus hs)).mono ?_; rintro e w' ⟨rfl, hb3⟩; rw [hf]))
                go_ret
                exact ⟨by rw [HE.out]; rfl, (hb.trans (hb2.mono hb.size)).trans (hb3.mono (Nat.le_trans hb.size hb2.size))⟩
            · have HE : Hid (tag s.data.toList = 2) := by
                show tag _ = _
                rw [HT.out, ← HU.out, HI.out, hr, show digs 10 u.data.toList = true from hd]; rfl
              go_wp2_with (go_at_call 28; refine (digits_any _ 10 _ (le_max (Nat.le_trans hus hs)) (by omega)).mono ?_; rintro e w' ⟨rfl, hb2⟩; rw [hd])
              go_ret
              exact ⟨by rw [HE.out]; rfl, hb.trans (hb2.mono hb.size)⟩
          · have HE : Hid (tag s.data.toList = 2) := by
              show tag _ = _
              rw [HT.out, ← HU.out, HI.out, hr]; rfl
            go_wp2
            go_ret
            exact ⟨by rw [HE.out]; rfl, hb⟩
      · have HE : Hid (tag s.data.toList = 3) := by
          show tag _ = _
          rw [HT.out, ← HU.out, hinf]; rfl
        unfold isInf at hinf
        cases i1 : (u.data.toList == [46, 105, 110, 102])
        · cases i2 : (u.data.toList == [46, 73, 110, 102])
          · rw [i1, i2] at hinf
            have i3 : (u.data.toList == [46, 73, 78, 70]) = true := hinf
            clear hinf
            replace i1 := tl i1; replace i2 := tl i2; replace i3 := tl i3
            go_wp2
            go_ret
            exact ⟨by rw [HE.out]; rfl, Below.refl _ _⟩
          · clear hinf
            replace i1 := tl i1; replace i2 := tl i2
            go_wp2
            go_ret
            exact ⟨by rw [HE.out]; rfl, Below.refl _ _⟩
        · clear hinf
          replace i1 := tl i1
          go_wp2
          go_ret
          exact ⟨by rw [HE.out]; rfl, Below.refl _ _⟩

theorem core_any (s : ByteArray) (w : World) (hs : s.size ≤ 2097152) :
    Calls Try.prog 23 #[.string s] w fun e w' => e = .returned (.string (tagS (tag s.data.toList))) ∧ Below w.heap.size w w' := by
  cases hN : isNull s.data.toList
  · cases hB : isBool s.data.toList
    · cases hA : isNan s.data.toList
      · exact core_other s w hs hN hB hA
      · have : tag s.data.toList = 3 := by unfold tag; rw [hN, hB, hA]; rfl
        rw [this]
        exact (core_nan s w hA).mono fun e w' ⟨h1, h2⟩ => ⟨h1, h2 ▸ Below.refl _ _⟩
    · have : tag s.data.toList = 1 := by unfold tag; rw [hN, hB]; rfl
      rw [this]
      exact (core_bool s w hB).mono fun e w' ⟨h1, h2⟩ => ⟨h1, h2 ▸ Below.refl _ _⟩
  · have : tag s.data.toList = 0 := by unfold tag; rw [hN]; rfl
    rw [this]
    exact (core_null s w hN).mono fun e w' ⟨h1, h2⟩ => ⟨h1, h2 ▸ Below.refl _ _⟩

set_option maxHeartbeats 400000 in
theorem zzcore_any (s : ByteArray) (w : World) (hs : s.size ≤ 2097152) :
    Calls Try.prog 11 #[.string s] w fun e w' => e = .returned (.string (tagS (tag s.data.toList))) ∧ Below w.heap.size w w' := by
  go_enter Try.func11, Try.ntmps11
  go_wp2_with (go_at_call 23; refine (core_any _ _ hs).mono ?_; rintro e w' ⟨rfl, hb⟩)
  go_ret
  exact ⟨rfl, hb⟩

end Go.Proofs.Qxb6600656a
