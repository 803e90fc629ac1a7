import Derived.Test.Qxb6600803aW1
namespace Go.Proofs.Qxb6600803a
open Go.RowKit

theorem results_tmp5 {fn : Func} {t u v x y : Tmp} (h : fn.results = #[.tmp t, .tmp u, .tmp v, .tmp x, .tmp y]) (tmps : Array Value) (P : Program) (w : World) :
    (results fn tmps).run P w = .ok (.tuple #[tmps.getD t undef, tmps.getD u undef, tmps.getD v undef, tmps.getD x undef, tmps.getD y undef]) w := by
  simp [results, h]

/-- What zzb1ModelTime answers. -/
def MT (s : ByteArray) (e : Ending) : Prop :=
  (∃ p h m ns : Nat, TimeOk s p h m ns ∧ e = .returned (.tuple #[.bool true, .int .i64 p, .int .i64 h, .int .i64 m, .int .i64 ns])) ∨
  (NoTime s ∧ e = .returned (.tuple #[.bool false, .int .i64 0, .int .i64 0, .int .i64 0, .int .i64 0]))

theorem MT.no {s : ByteArray} (h : NoTime s) : MT s (.returned (.tuple #[.bool false, .int .i64 0, .int .i64 0, .int .i64 0, .int .i64 0])) := .inr ⟨h, rfl⟩
theorem MT.yes {s : ByteArray} {p h m ns : Nat} (hk : TimeOk s p h m ns) : MT s (.returned (.tuple #[.bool true, .int .i64 p, .int .i64 h, .int .i64 m, .int .i64 ns])) := .inl ⟨p, h, m, ns, hk, rfl⟩

theorem at_int {s : ByteArray} {j : Nat} (h : j < s.size) : ((s[j]'h).toNat : Int) = (at_ s j : Int) := by rw [at_in h]

set_option maxRecDepth 100000 in
set_option maxHeartbeats 4000000 in
theorem model_any (s : ByteArray) (w : World) (hs : s.size ≤ 1048576) :
    Calls Try.prog 10 #[.string s] w fun e w' => MT s e ∧ Below w.heap.size w w' := by
  cases t0 : twoOk s 0
  · have HN := no1 t0
    have H : Hid (NoTime s) := HN
    clear HN
    have i0 := twoI_no t0
    go_enter Try.func10, Try.ntmps10
    go_wp2_with (go_at_call 20; refine (two_any _ 0 _ (by omega)).mono ?_; rintro e w' ⟨rfl, hb⟩; rw [t0, i0])
    refine bodyPost_ret (results_tmp5 rfl _ _ _) rfl ?_
    exact ⟨MT.no H.out, hb⟩
  · have z0 := twoOk_size t0
    have l0 := twoV_le t0
    have i0 := twoI_yes t0
    have T0 : Hid (twoOk s 0 = true) := t0
    by_cases h23 : 23 < twoV s 0
    · have H : Hid (NoTime s) := no2 h23
      go_enter Try.func10, Try.ntmps10
      go_wp2_with (go_at_call 20; refine (two_any _ 0 _ (by omega)).mono ?_; rintro e w' ⟨rfl, hb⟩; rw [t0, i0])
      refine bodyPost_ret (results_tmp5 rfl _ _ _) rfl ?_
      exact ⟨MT.no H.out, hb⟩
    · go_enter Try.func10, Try.ntmps10
      go_wp2_with fail
      refine (two_any _ 0 _ (by omega)).mono ?_; rintro e w0 ⟨rfl, hb0⟩; rw [t0, i0]
      have L0 : Hid (twoV s 0 ≤ 23) := by show _ ≤ _; omega
      clear t0 i0
      generalize hV0 : twoV s 0 = V0 at l0 h23 ⊢
      have HV0 : Hid (twoV s 0 = V0) := hV0
      clear hV0
      by_cases s2 : s.size = 2
      · have b2 : ((s.size : Int) == 2) = true := beq_iff_eq.2 (by omega)
        have H : Hid (TimeOk s 4 V0 0 0) := ⟨T0.out, HV0.out.symm, by have := L0.out; have := HV0.out; omega, .inl ⟨s2, rfl, rfl, rfl⟩⟩
        go_wp2
        refine bodyPost_ret (results_tmp5 rfl _ _ _) rfl ?_
        exact ⟨MT.yes H.out, hb0⟩
      · have b2 : ((s.size : Int) == 2) = false := beq_eq_false_iff_ne.2 (by omega)
        have z2 : 2 < s.size := by omega
        have z2I : (2 : Int) < (s.size : Int) := by omega
        by_cases c2 : at_ s 2 = 58
        · have d2 : (((s[2]'z2).toNat : Int) != 58) = false := by rw [at_int z2, c2]; rfl
          have C2 : Hid (at_ s 2 = 58) := c2
          clear c2
          go_wp2_with fail
          refine (two_any _ 3 _ (by omega)).mono ?_; rintro e w3 ⟨rfl, hb3⟩
          have hbb := hb0.trans (hb3.mono hb0.size)
          clear hb0 hb3
          cases t3 : twoOk s 3
          · have H : Hid (NoTime s) := no4 s2 t3
            go_wp2
            refine bodyPost_ret (results_tmp5 rfl _ _ _) rfl ?_
            exact ⟨MT.no H.out, hbb⟩
          · have T3 : Hid (twoOk s 3 = true) := t3
            have z3 := twoOk_size t3
            have l3 := twoV_le t3
            rw [twoI_yes t3]
            clear t3
            generalize hV3 : twoV s 3 = V3 at l3 ⊢
            have HV3 : Hid (twoV s 3 = V3) := hV3
            clear hV3
            by_cases h59 : 59 < V3
            · have H : Hid (NoTime s) := no5 s2 (by rw [HV3.out]; exact h59)
              go_wp2
              refine bodyPost_ret (results_tmp5 rfl _ _ _) rfl ?_
              exact ⟨MT.no H.out, hbb⟩
            · by_cases s5 : s.size = 5
              · have b5 : ((s.size : Int) == 5) = true := beq_iff_eq.2 (by omega)
                have H : Hid (TimeOk s 5 V0 V3 0) := ⟨T0.out, HV0.out.symm, by have := L0.out; have := HV0.out; omega, .inr ⟨C2.out, T3.out, HV3.out.symm, by omega, .inl ⟨s5, rfl, rfl⟩⟩⟩
                go_wp2
                refine bodyPost_ret (results_tmp5 rfl _ _ _) rfl ?_
                exact ⟨MT.yes H.out, hbb⟩
              · have b5 : ((s.size : Int) == 5) = false := beq_eq_false_iff_ne.2 (by omega)
                have z5 : 5 < s.size := by omega
                have z5I : (5 : Int) < (s.size : Int) := by omega
                by_cases c5 : at_ s 5 = 58
                · have d5 : (((s[5]'z5).toNat : Int) != 58) = false := by rw [at_int z5, c5]; rfl
                  have C5 : Hid (at_ s 5 = 58) := c5
                  clear c5
                  go_wp2_with fail
                  refine (two_any _ 6 _ (by omega)).mono ?_; rintro e w6 ⟨rfl, hb6⟩
                  have hbc := hbb.trans (hb6.mono hbb.size)
                  clear hbb hb6
                  cases t6 : twoOk s 6
                  · have H : Hid (NoTime s) := no7 s2 s5 t6
                    go_wp2
                    refine bodyPost_ret (results_tmp5 rfl _ _ _) rfl ?_
                    exact ⟨MT.no H.out, hbc⟩
                  · have T6 : Hid (twoOk s 6 = true) := t6
                    have z6 := twoOk_size t6
                    have l6 := twoV_le t6
                    rw [twoI_yes t6]
                    clear t6
                    generalize hV6 : twoV s 6 = V6 at l6 ⊢
                    have HV6 : Hid (twoV s 6 = V6) := hV6
                    clear hV6
                    by_cases h60 : 60 < V6
                    · have H : Hid (NoTime s) := no8 s2 s5 (by rw [HV6.out]; exact h60)
                      go_wp2
                      refine bodyPost_ret (results_tmp5 rfl _ _ _) rfl ?_
                      exact ⟨MT.no H.out, hbc⟩
                    · by_cases s8 : s.size = 8
                      · have b8 : ((s.size : Int) == 8) = true := beq_iff_eq.2 (by omega)
                        have H : Hid (TimeOk s 6 V0 V3 (V6 * 1000000000)) := ⟨T0.out, HV0.out.symm, by have := L0.out; have := HV0.out; omega, .inr ⟨C2.out, T3.out, HV3.out.symm, by omega, .inr ⟨C5.out, T6.out, by rw [HV6.out]; omega, rfl, .inl ⟨s8, by rw [HV6.out]⟩⟩⟩⟩
                        go_wp2
                        refine bodyPost_ret (results_tmp5 rfl _ _ _) rfl ?_
                        exact ⟨MT.yes H.out, hbc⟩
                      · have b8 : ((s.size : Int) == 8) = false := beq_eq_false_iff_ne.2 (by omega)
                        have z8 : 8 < s.size := by omega
                        have z8I : (8 : Int) < (s.size : Int) := by omega
                        by_cases c8 : at_ s 8 = 46
                        · have d8 : (((s[8]'z8).toNat : Int) != 46) = false := by rw [at_int z8, c8]; rfl
                          have C8 : Hid (at_ s 8 = 46) := c8
                          clear c8
                          by_cases s9 : s.size = 9
                          · have b9 : ((s.size : Int) == 9) = true := beq_iff_eq.2 (by omega)
                            have H : Hid (NoTime s) := no10 s9
                            go_wp2
                            refine bodyPost_ret (results_tmp5 rfl _ _ _) rfl ?_
                            exact ⟨MT.no H.out, hbc⟩
                          · have b9 : ((s.size : Int) == 9) = false := beq_eq_false_iff_ne.2 (by omega)
                            have HF : Hid (∀ N : Nat, FrOk s 9 → NoC s → N = V6 * 1000000000 + frV s 9 → TimeOk s 6 V0 V3 N) := by
                              intro N f1 f2 f3
                              exact ⟨T0.out, HV0.out.symm, by have := L0.out; have := HV0.out; omega, .inr ⟨C2.out, T3.out, HV3.out.symm, by omega, .inr ⟨C5.out, T6.out, by rw [HV6.out]; omega, rfl, .inr ⟨C8.out, by omega, f1, f2, by rw [HV6.out]; exact f3⟩⟩⟩⟩
                            clear T0 T3 T6 C2 C5 C8 HV0 HV3 HV6 L0
                            go_wp2
                            clear b2 b5 b8 b9 d2 d5 d8
                            go_loopg [12, 13, 14] 9 (fun g s12 s13 _ wx => ∃ k : Nat, k + g = 9 ∧ FrOk s k ∧ s12 = .int .i64 (frV s k) ∧ s13 = .int .i64 ((9 + k : Nat) : Int) ∧ w6 = wx)
                            case atStart => exact ⟨0, by omega, FrOk.zero _, rfl, rfl, rfl⟩
                            case round =>
                              obtain ⟨k, hk, hfr, rfl, rfl, rfl⟩ := hrel
                              have hfl := frV_le hfr (by omega)
                              have HFr : Hid (FrOk s k) := hfr
                              clear hfr
                              by_cases hk9 : k < 9
                              · by_cases hlt : 9 + k < s.size
                                · have hltI : (9 : Int) + (k : Int) < (s.size : Int) := by omega
                                  obtain ⟨c, hcc⟩ : ∃ c : UInt8, s[9 + k]'hlt = c := ⟨_, rfl⟩
                                  have HC : Hid (at_ s (9 + k) = c.toNat) := by show at_ _ _ = _; rw [at_in hlt, hcc]
                                  cases hd : isD (s[9 + k]'hlt).toNat
                                  · have H : Hid (NoTime s) := no11 s2 s5 s8 (fun f => by have := f k (by omega) hlt; rw [at_in hlt, hd] at this; exact absurd this (by decide))
                                    clear hcc
                                    go_wp2_with (go_at_call 21; refine (zzDig_any _ _).mono ?_; rintro e w' ⟨rfl, hw⟩; rw [hw, hd]; clear hw)
                                    refine bodyPost_ret (results_tmp5 rfl _ _ _) rfl ?_
                                    exact ⟨MT.no H.out, hbc⟩
                                  · obtain ⟨e1, e2⟩ := isD_iff.1 hd
                                    have HS : Hid (FrOk s (k + 1)) := HFr.out.succ (fun _ => by rw [at_in hlt]; exact hd)
                                    have HV : Hid (frV s (k + 1) = frV s k * 10 + ((s[9 + k]'hlt).toNat - 48)) := by
                                      show frV s (k + 1) = _
                                      rw [frV, frD, if_pos hlt, at_in hlt]
                                    clear hcc
                                    go_wp2_with (go_at_call 21; refine (zzDig_any _ _).mono ?_; rintro e w' ⟨rfl, hw⟩; rw [hw, hd]; clear hw)
                                    go_roundg (9 - (k + 1))
                                    case measure => omega
                                    case rel => exact ⟨k + 1, by omega, HS.out, by rw [HV.out]; go_num, by go_num, rfl⟩
                                · have hltI : ¬ (9 : Int) + (k : Int) < (s.size : Int) := by omega
                                  have HS : Hid (FrOk s (k + 1)) := HFr.out.succ (fun h => absurd h hlt)
                                  have HV : Hid (frV s (k + 1) = frV s k * 10) := by
                                    show frV s (k + 1) = _
                                    rw [frV, frD, if_neg hlt]; rfl
                                  go_wp2
                                  go_roundg (9 - (k + 1))
                                  case measure => omega
                                  case rel => exact ⟨k + 1, by omega, HS.out, by rw [HV.out]; go_num, by go_num, rfl⟩
                              · obtain rfl : k = 9 := by omega
                                go_wp2
                                go_loopg [15] s.size (fun g s15 wx => ∃ j : Nat, 18 ≤ j ∧ (j ≤ s.size ∨ j = 18) ∧ s.size ≤ j + g ∧ (∀ i, 18 ≤ i → i < j → at_ s i ≠ 58) ∧ s15 = .int .i64 j ∧ w6 = wx)
                                case atStart => exact ⟨18, by omega, by omega, by omega, fun i h1 h2 => by omega, rfl, rfl⟩
                                case round =>
                                  obtain ⟨j, hj18, hjs, hjg, hno, rfl, rfl⟩ := hrel
                                  have HNo : Hid (∀ i, 18 ≤ i → i < j → at_ s i ≠ 58) := hno
                                  clear hno
                                  by_cases hlt : j < s.size
                                  · by_cases hc : at_ s j = 58
                                    · have hcb : (((s[j]'hlt).toNat : Int) == 58) = true := by rw [at_int hlt, hc]; rfl
                                      have H : Hid (NoTime s) := no12 s2 s5 s8 (fun f => f j hj18 hc)
                                      clear hc
                                      go_wp2
                                      refine bodyPost_ret (results_tmp5 rfl _ _ _) rfl ?_
                                      exact ⟨MT.no H.out, hbc⟩
                                    · have hcb : (((s[j]'hlt).toNat : Int) == 58) = false := by rw [at_int hlt]; exact beq_eq_false_iff_ne.2 (by omega)
                                      have HN2 : Hid (∀ i, 18 ≤ i → i < j + 1 → at_ s i ≠ 58) := fun i h1 h2 => by
                                        by_cases e : i = j
                                        · rw [e]; exact hc
                                        · exact HNo.out i h1 (by omega)
                                      clear hc
                                      go_wp2
                                      go_roundg (s.size - (j + 1))
                                      case measure => omega
                                      case rel => exact ⟨j + 1, by omega, by omega, by omega, HN2.out, by go_num, rfl⟩
                                  · have HNC : Hid (NoC s) := fun i h1 => by
                                      by_cases e : i < j
                                      · exact HNo.out i h1 e
                                      · rw [at_out (by omega)]; decide
                                    have HOK : Hid (TimeOk s 6 V0 V3 (V6 * 1000000000 + frV s 9)) := HF.out _ HFr.out HNC.out rfl
                                    go_wp2
                                    refine bodyPost_ret (results_tmp5 rfl _ _ _) rfl ?_
                                    exact ⟨MT.yes HOK.out, hbc⟩
                        · have d8 : (((s[8]'z8).toNat : Int) != 46) = true := by rw [at_int z8]; exact bne_iff_ne.2 (by omega)
                          have H : Hid (NoTime s) := no9 s2 s5 s8 c8
                          go_wp2
                          refine bodyPost_ret (results_tmp5 rfl _ _ _) rfl ?_
                          exact ⟨MT.no H.out, hbc⟩
                · have d5 : (((s[5]'z5).toNat : Int) != 58) = true := by rw [at_int z5]; exact bne_iff_ne.2 (by omega)
                  have H : Hid (NoTime s) := no6 s2 s5 c5
                  go_wp2
                  refine bodyPost_ret (results_tmp5 rfl _ _ _) rfl ?_
                  exact ⟨MT.no H.out, hbb⟩
        · have d2 : (((s[2]'z2).toNat : Int) != 58) = true := by rw [at_int z2]; exact bne_iff_ne.2 (by omega)
          have H : Hid (NoTime s) := no3 s2 c2
          go_wp2
          refine bodyPost_ret (results_tmp5 rfl _ _ _) rfl ?_
          exact ⟨MT.no H.out, hb0⟩

end Go.Proofs.Qxb6600803a
