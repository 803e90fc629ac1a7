import Derived.Test.Qxb6600656aW2
import Derived.Deep.CutRange
namespace Go.Proofs.Qxb6600656a
open Go.RowKit

theorem toList_nil {s : ByteArray} (h : s.size = 0) : (s.toList == []) = true := by
  rw [Lib.toList_data, List.eq_nil_of_length_eq_zero (l := s.data.toList) (by rw [list_len]; exact h)]; rfl

theorem list_nil {s : ByteArray} (h : s.size = 0) : s.data.toList = [] := List.eq_nil_of_length_eq_zero (by rw [list_len]; exact h)

theorem list_cons {s : ByteArray} (h : 0 < s.size) : s.data.toList = s[0] :: s.data.toList.drop 1 := by
  have h1 := byteAt? s 0 h
  cases hl : s.data.toList with
  | nil => rw [hl] at h1; simp at h1
  | cons a l => rw [hl] at h1; simp at h1; rw [h1]; rfl

theorem uns_sign {s : ByteArray} (h : 0 < s.size) (hc : ((s[0]'h).toNat : Int) = 43 ∨ ((s[0]'h).toNat : Int) = 45) : uns s.data.toList = s.data.toList.drop 1 := by
  have e := list_cons h
  generalize s.data.toList.drop 1 = r at e
  rw [e]
  have : (s[0]'h) = 43 ∨ (s[0]'h) = 45 := by
    rcases hc with hc | hc
    · exact .inl (UInt8.toNat_inj.1 (by show _ = 43; omega))
    · exact .inr (UInt8.toNat_inj.1 (by show _ = 45; omega))
  rw [uns, if_pos this]
theorem uns_none {s : ByteArray} (h : 0 < s.size) (h1 : ¬ ((s[0]'h).toNat : Int) = 43) (h2 : ¬ ((s[0]'h).toNat : Int) = 45) : uns s.data.toList = s.data.toList := by
  have e := list_cons h
  generalize s.data.toList.drop 1 = r at e
  rw [e]
  rw [uns, if_neg]
  rintro (hc | hc)
  · exact h1 (by rw [hc]; rfl)
  · exact h2 (by rw [hc]; rfl)

theorem le_max {n : Nat} (h : n ≤ 2097152) : n ≤ maxLen := by unfold maxLen; omega

theorem isFl_no {l : List UInt8} {k : Nat} {e : ByteArray} (h : Lib.indexAny l [101, 69] = k) (hu : uns (l.drop (k + 1)) = e.data.toList) (hd : digsB 10 e = false) : isFl l = false := by
  unfold isFl
  rw [h, if_neg (by omega), Int.toNat_natCast, hu]
  unfold digsB at hd
  rw [hd]; rfl
theorem isFl_yes {l : List UInt8} {k : Nat} {e : ByteArray} (h : Lib.indexAny l [101, 69] = k) (hu : uns (l.drop (k + 1)) = e.data.toList) (hd : digsB 10 e = true) : isFl l = fin (l.take k) true := by
  unfold isFl
  rw [h, if_neg (by omega), Int.toNat_natCast, hu]
  unfold digsB at hd
  rw [hd]; rfl

set_option maxHeartbeats 1000000 in
theorem isFloat_any (s : ByteArray) (w : World) (hs : s.size ≤ 2097152) :
    Calls Try.prog 29 #[.string s] w fun e w' => e = .returned (.bool (isFl s.data.toList)) ∧ Below w.heap.size w w' := by
  have hix := idx_cases [101, 69] s.data.toList
  have hia := idx_any s w (by omega)
  generalize hI : Lib.indexAny s.data.toList [101, 69] = ix at hix hia
  have HI : Hid (Lib.indexAny s.data.toList [101, 69] = ix) := hI
  have HX : Hid _ := hix
  clear hI hix
  go_enter Try.func29, Try.ntmps29
  go_upto_if 14 with (go_at_call 34; refine hia.mono ?_; rintro e w' ⟨rfl, hb⟩)
  clear hia
  go_cut [3, 4, 5] from 15 to 38 (fun s3 _ s5 wc => ∃ (m : ByteArray) (he : Bool), s3 = .string m ∧ s5 = .bool he ∧ m.size ≤ s.size ∧ Below w.heap.size w wc ∧ isFl s.data.toList = fin m.data.toList he)
  case first =>
    rcases HX.out with ⟨h1, _⟩ | ⟨k, hk, h1, _, _⟩
    · subst h1
      have HF : Hid (isFl s.data.toList = fin s.data.toList false) := by show isFl _ = _; unfold isFl; rw [HI.out]; rfl
      go_wp2
      go_meet
      case rel => exact ⟨s, false, rfl, rfl, Nat.le_refl _, hb, HF.out⟩
    · subst h1
      rw [list_len] at hk
      have q1 : (k : Int) ≤ (s.size : Int) := by omega
      have q2 : (k : Int) + 1 ≤ (s.size : Int) := by omega
      go_wp2
      go_quiet (fail)
      have hexs : (s.extract (k + 1) s.size).size ≤ 2097152 := by simp; omega
      have HEX : Hid ((s.extract (k + 1) s.size).data.toList = s.data.toList.drop (k + 1)) := ext_from _ _
      have HM : Hid ((s.extract 0 k).data.toList = s.data.toList.take k) := ext_to _ _
      have hms : (s.extract 0 k).size ≤ s.size := by simp; omega
      generalize s.extract (k + 1) s.size = ex at hexs HEX ⊢
      generalize s.extract 0 k = m at HM hms ⊢
      by_cases hz : ex.size = 0
      · have hne := toList_nil hz
        have hb1 := below_drewN hb nq
        generalize w'.drewN nq = w1 at hb1 ⊢
        have HU : Hid (uns (s.data.toList.drop (k + 1)) = ex.data.toList) := by
          show uns _ = _
          rw [← HEX.out, list_nil hz]; rfl
        cases hd : digsB 10 ex
        · have HF : Hid (isFl s.data.toList = false) := isFl_no HI.out HU.out hd
          go_wp2_with (go_at_call 28; refine (digits_any _ 10 _ (le_max hexs) (by omega)).mono ?_; rintro e w' ⟨rfl, hb3⟩; rw [hd])
          go_ret
          exact ⟨ret_bool HF.out.symm, hb1.trans (hb3.mono hb1.size)⟩
        · have HF : Hid (isFl s.data.toList = fin m.data.toList true) := by show isFl _ = _; rw [HM.out]; exact isFl_yes HI.out HU.out hd
          go_wp2_with (go_at_call 28; refine (digits_any _ 10 _ (le_max hexs) (by omega)).mono ?_; rintro e w' ⟨rfl, hb3⟩; rw [hd])
          go_meet
          case rel => exact ⟨m, true, rfl, rfl, hms, hb1.trans (hb3.mono hb1.size), HF.out⟩
      · have hpos : 0 < ex.size := by omega
        have hne := toList_ne hpos
        have hnn : (ex.toList != []) = true := by rw [bne, hne]; rfl
        have hb1 := below_drewN hb nq
        generalize w'.drewN nq = w1 at hb1 ⊢
        have q3 : (1 : Int) ≤ (ex.size : Int) := by omega
        by_cases hsg : ((ex[0]'hpos).toNat : Int) = 43 ∨ ((ex[0]'hpos).toNat : Int) = 45
        · have HU : Hid (uns (s.data.toList.drop (k + 1)) = (ex.extract 1 ex.size).data.toList) := by
            show uns _ = _
            rw [← HEX.out, uns_sign hpos hsg, ext_from]
          have hxs : (ex.extract 1 ex.size).size ≤ 2097152 := by simp; omega
          cases hd : digsB 10 (ex.extract 1 ex.size)
          · have HF : Hid (isFl s.data.toList = false) := isFl_no HI.out HU.out hd
            rcases hsg with hsg | hsg
            all_goals
              go_wp2_with (go_at_call 28; refine (digits_any _ 10 _ (le_max hxs) (by omega)).mono ?_; rintro e w' ⟨rfl, hb3⟩; rw [hd])
              go_ret
              exact ⟨ret_bool HF.out.symm, hb1.trans (hb3.mono hb1.size)⟩
          · have HF : Hid (isFl s.data.toList = fin m.data.toList true) := by show isFl _ = _; rw [HM.out]; exact isFl_yes HI.out HU.out hd
            rcases hsg with hsg | hsg
            all_goals
              go_wp2_with (go_at_call 28; refine (digits_any _ 10 _ (le_max hxs) (by omega)).mono ?_; rintro e w' ⟨rfl, hb3⟩; rw [hd])
              go_meet
              case rel => exact ⟨m, true, rfl, rfl, hms, hb1.trans (hb3.mono hb1.size), HF.out⟩
        · have g1 : ¬ ((ex[0]'hpos).toNat : Int) = 43 := fun e => hsg (.inl e)
          have g2 : ¬ ((ex[0]'hpos).toNat : Int) = 45 := fun e => hsg (.inr e)
          clear hsg
          have HU : Hid (uns (s.data.toList.drop (k + 1)) = ex.data.toList) := by
            show uns _ = _
            rw [← HEX.out, uns_none hpos g1 g2]
          have g3 : (((ex[0]'hpos).toNat : Int) == 43) = false := beq_eq_false_iff_ne.2 g1
          have g4 : (((ex[0]'hpos).toNat : Int) == 45) = false := beq_eq_false_iff_ne.2 g2
          clear g1 g2
          cases hd : digsB 10 ex
          · have HF : Hid (isFl s.data.toList = false) := isFl_no HI.out HU.out hd
            go_wp2_with (go_at_call 28; refine (digits_any _ 10 _ (le_max hexs) (by omega)).mono ?_; rintro e w' ⟨rfl, hb3⟩; rw [hd])
            go_ret
            exact ⟨ret_bool HF.out.symm, hb1.trans (hb3.mono hb1.size)⟩
          · have HF : Hid (isFl s.data.toList = fin m.data.toList true) := by show isFl _ = _; rw [HM.out]; exact isFl_yes HI.out HU.out hd
            go_wp2_with (go_at_call 28; refine (digits_any _ 10 _ (le_max hexs) (by omega)).mono ?_; rintro e w' ⟨rfl, hb3⟩; rw [hd])
            go_meet
            case rel => exact ⟨m, true, rfl, rfl, hms, hb1.trans (hb3.mono hb1.size), HF.out⟩
  case rest =>
    obtain ⟨m, he, rfl, rfl, hm, hbel, hfl⟩ := hcut
    have HF : Hid (isFl s.data.toList = fin m.data.toList he) := hfl
    clear hfl
    have hml : m.size ≤ maxLen := by unfold maxLen; omega
    rcases indexByte_cases 46 m.data.toList with h1 | ⟨k, hk, h1⟩
    · have HN : Hid (fin m.data.toList he = (he && digsB 10 m)) := by show fin _ _ = _; unfold fin; rw [h1]; rfl
      cases he
      · go_wp2_with (first
          | (go_at_call 35; refine (cut_no _ _ h1).mono ?_; rintro e w' ⟨rfl, hb2⟩)
          | (go_at_call 28; refine (digits_any _ 10 _ hml (by omega)).mono ?_; rintro e w' ⟨rfl, hb3⟩))
        go_ret
        exact ⟨ret_bool (by rw [HF.out, HN.out]; rfl), hbel.trans (hb2.mono hbel.size)⟩
      · go_wp2_with (first
          | (go_at_call 35; refine (cut_no _ _ h1).mono ?_; rintro e w' ⟨rfl, hb2⟩)
          | (go_at_call 28; refine (digits_any _ 10 _ hml (by omega)).mono ?_; rintro e w' ⟨rfl, hb3⟩))
        go_ret
        exact ⟨ret_bool (by rw [HF.out, HN.out]; rfl), (hbel.trans (hb2.mono hbel.size)).trans (hb3.mono (Nat.le_trans hbel.size hb2.size))⟩
    · rw [list_len] at hk
      have hc := cut_yes m k wc hml hk h1
      clear hml
      have hws : (m.extract 0 k).size ≤ 2097152 := by simp; omega
      have hfs : (m.extract (k + 1) m.size).size ≤ 2097152 := by simp; omega
      have HN : Hid (fin m.data.toList he = if (m.extract 0 k).data.toList == [] then digsB 10 (m.extract (k + 1) m.size) else digsB 10 (m.extract 0 k) && ((m.extract (k + 1) m.size).data.toList == [] || digsB 10 (m.extract (k + 1) m.size))) := by
        show fin _ _ = _
        unfold fin digsB
        rw [h1, if_neg (by omega), Int.toNat_natCast, ext_to, ext_from]
      clear h1 hk
      generalize m.extract 0 k = x at hc hws HN
      generalize m.extract (k + 1) m.size = y at hc hfs HN
      by_cases hx : x.size = 0
      · have hxn := toList_nil hx
        go_wp2_with (first
          | (go_at_call 35; refine hc.mono ?_; rintro e w' ⟨rfl, hb2⟩)
          | (go_at_call 28; refine (digits_any _ 10 _ (le_max hfs) (by omega)).mono ?_; rintro e w' ⟨rfl, hb3⟩))
        go_ret
        exact ⟨ret_bool (by rw [HF.out, HN.out, list_nil hx]; rfl), (hbel.trans (hb2.mono hbel.size)).trans (hb3.mono (Nat.le_trans hbel.size hb2.size))⟩
      · have hxn := toList_ne (s := x) (by omega)
        have HXN : Hid ((x.data.toList == []) = false) := by show _ = false; rw [← Lib.toList_data]; exact hxn
        cases hd : digsB 10 x
        · go_wp2_with (first
            | (go_at_call 35; refine hc.mono ?_; rintro e w' ⟨rfl, hb2⟩)
            | (go_at_call 28; refine (digits_any _ 10 _ (le_max hws) (by omega)).mono ?_; rintro e w' ⟨rfl, hb3⟩; rw [hd]))
          go_ret
          exact ⟨ret_bool (by rw [HF.out, HN.out, HXN.out, hd]; rfl), (hbel.trans (hb2.mono hbel.size)).trans (hb3.mono (Nat.le_trans hbel.size hb2.size))⟩
        · by_cases hy : y.size = 0
          · have hyn := toList_nil hy
            go_wp2_with (first
              | (go_at_call 35; refine hc.mono ?_; rintro e w' ⟨rfl, hb2⟩)
              | (go_at_call 28; refine (digits_any _ 10 _ (le_max hws) (by omega)).mono ?_; rintro e w' ⟨rfl, hb3⟩; rw [hd]))
            go_ret
            exact ⟨ret_bool (by rw [HF.out, HN.out, HXN.out, hd, list_nil hy]; rfl), (hbel.trans (hb2.mono hbel.size)).trans (hb3.mono (Nat.le_trans hbel.size hb2.size))⟩
          · have hyn := toList_ne (s := y) (by omega)
            have HYN : Hid ((y.data.toList == []) = false) := by show _ = false; rw [← Lib.toList_data]; exact hyn
            go_wp2_with fail
            refine hc.mono ?_; rintro e w' ⟨rfl, hb2⟩
            go_wp2_with fail
            refine (digits_any _ 10 _ (le_max hws) (by omega)).mono ?_; rintro e w2 ⟨rfl, hb3⟩; rw [hd]
            go_wp2_with fail
            refine (digits_any _ 10 _ (le_max hfs) (by omega)).mono ?_; rintro e w3 ⟨rfl, hb4⟩
            go_wp2
            go_ret
            exact ⟨ret_bool (by rw [HF.out, HN.out, HXN.out, hd, HYN.out]; rfl), ((hbel.trans (hb2.mono hbel.size)).trans (hb3.mono (Nat.le_trans hbel.size hb2.size))).trans (hb4.mono (Nat.le_trans (Nat.le_trans hbel.size hb2.size) hb3.size))⟩

end Go.Proofs.Qxb6600656a
