import Derived.Test.Qxb6600803aW5
import Derived.Test.Qxb6600803aW6
import Derived.Deep.CutRange
import Derived.Deep.CutBlock
namespace Go.Proofs.Qxb6600803a
open Go.RowKit

theorem hid {p : Prop} (h : p) : Hid p := h

/-- The world in the model: the result's block B, r in the next. -/
structure MS (B : Nat) (w wx : World) (kd pr y mo d h m ns : Int) (z : Bool) (off : Int) : Prop where
  res : wx.heap[B]? = some (.cells (zc 0 0 0 0 0 0 0 0 false 0) 24)
  rr : wx.heap[B + 1]? = some (.cells (zc kd pr y mo d h m ns z off) 24)
  bel : Below B w wx
  lt : B + 1 < wx.heap.size

theorem MS.below {B : Nat} {w wx w' : World} {kd pr y mo d h m ns : Int} {z : Bool} {off : Int} (H : MS B w wx kd pr y mo d h m ns z off) (hb : Below wx.heap.size wx w') : MS B w w' kd pr y mo d h m ns z off :=
  have := H.lt
  ⟨(hb.block _ (by omega)).trans H.res, (hb.block _ (by omega)).trans H.rr, H.bel.trans (hb.mono (by omega)), Nat.lt_of_lt_of_le H.lt hb.size⟩

theorem MS.set {B : Nat} {w wx : World} {kd pr y mo d h m ns kd' pr' y' mo' d' h' m' ns' : Int} {z z' : Bool} {off off' : Int} (H : MS B w wx kd pr y mo d h m ns z off) (i : Nat) (v : Value) (hv : (zc kd pr y mo d h m ns z off).setIfInBounds i v = zc kd' pr' y' mo' d' h' m' ns' z' off') :
    MS B w (wx.setCell ⟨B + 1, i, none⟩ v) kd' pr' y' mo' d' h' m' ns' z' off' :=
  ⟨(Below.heap_setCell _ _ _ _ (by simp only; omega)).trans H.res, by rw [set_heap H.rr, hv], H.bel.setCell (by simp only; omega) _, by rw [size_set]; exact H.lt⟩

/-- What the model answers. -/
def MD (s : ByteArray) (e : Ending) : Prop :=
  (∃ (kd pr y mo d h m ns : Nat) (z : Bool) (off : Int), DTOk s kd pr y mo d h m ns z off ∧ e = .returned (.tuple #[.agg (zc kd pr y mo d h m ns z off), .bool true])) ∨
  (NoDT s ∧ ∃ (kd pr y mo d h m ns : Int) (z : Bool) (off : Int), e = .returned (.tuple #[.agg (zc kd pr y mo d h m ns z off), .bool false]))

set_option maxRecDepth 100000 in
set_option maxHeartbeats 8000000 in
theorem modelDT_any (s : ByteArray) (w : World) (hs : s.size ≤ 1048576) :
    Calls Try.prog 14 #[.string s] w fun e w' => MD s e ∧ Below w.heap.size w w' := by
  go_enter Try.func14, Try.ntmps14
  go_upto_region 3 with fail
  have hms : MS w.heap.size w ((w.alloc (.cells #[.int .i64 0, .int .i64 0, .int .i64 0, .int .i64 0, .int .i64 0, .int .i64 0, .int .i64 0, .int .i64 0, .bool false, .int .i64 0] 24)).alloc (.cells #[.int .i64 0, .int .i64 0, .int .i64 0, .int .i64 0, .int .i64 0, .int .i64 0, .int .i64 0, .int .i64 0, .bool false, .int .i64 0] 24)) 0 0 0 0 0 0 0 0 false 0 :=
    ⟨(two_new _ _ _).1, (two_new _ _ _).2, ((Below.refl _ _).alloc (Nat.le_refl _) _).alloc (by simp) _, by simp⟩
  generalize (w.alloc (.cells #[.int .i64 0, .int .i64 0, .int .i64 0, .int .i64 0, .int .i64 0, .int .i64 0, .int .i64 0, .int .i64 0, .bool false, .int .i64 0] 24)).alloc (.cells #[.int .i64 0, .int .i64 0, .int .i64 0, .int .i64 0, .int .i64 0, .int .i64 0, .int .i64 0, .int .i64 0, .bool false, .int .i64 0] 24) = w1 at hms ⊢
  have HMS : Hid (MS w.heap.size w w1 0 0 0 0 0 0 0 0 false 0) := hms
  clear hms
  go_upto_block 0 with fail
  go_cut [5, 6] from 30 to 40 (fun s5 _ wc => w1 = wc ∧ ∃ tp : Int, s5 = .int .i64 tp ∧ ((tp = -1 ∧ NoB s 84 0 s.size) ∨ ∃ t : Nat, tp = t ∧ FirstAt s 84 t))
  case first =>
    go_wp2_with fail
    go_loopg [5, 6] s.size (fun g s5 s6 wx => s5 = .int .i64 (-1) ∧ ∃ k : Nat, k ≤ s.size ∧ s.size ≤ k + g ∧ s6 = .int .i64 k ∧ w1 = wx ∧ NoB s 84 0 k)
    case atStart => exact ⟨rfl, 0, by omega, by omega, rfl, rfl, NoB.nil _ _ _⟩
    case round =>
      obtain ⟨rfl, k, hk, hkg, rfl, rfl, hno⟩ := hrel
      have HN : Hid (NoB s 84 0 k) := hno
      clear hno
      by_cases hlt : k < s.size
      · by_cases hc : at_ s k = 84
        · have hcb : (((s[k]'hlt).toNat : Int) == 84) = true := by rw [at_int hlt, hc]; rfl
          have HF : Hid (FirstAt s 84 k) := ⟨hlt, hc, HN.out⟩
          clear hc
          go_wp2
          go_meet
          case rel => exact ⟨rfl, k, rfl, .inr ⟨k, rfl, HF.out⟩⟩
        · have hcb : (((s[k]'hlt).toNat : Int) == 84) = false := by rw [at_int hlt]; exact beq_eq_false_iff_ne.2 (by omega)
          have HF : Hid (NoB s 84 0 (k + 1)) := HN.out.succ hc
          clear hc
          go_wp2
          go_roundg (s.size - (k + 1))
          case measure => omega
          case rel => exact ⟨rfl, k + 1, by omega, by omega, by go_num, rfl, HF.out⟩
      · obtain rfl : k = s.size := by omega
        go_wp2
        go_meet
        case rel => exact ⟨rfl, -1, rfl, .inl ⟨rfl, HN.out⟩⟩
  case rest =>
    obtain ⟨rfl, tp, rfl, htp⟩ := hcut
    have HTP : Hid ((tp = -1 ∧ NoB s 84 0 s.size) ∨ ∃ t : Nat, tp = t ∧ FirstAt s 84 t) := htp
    clear htp
    go_upto_if 43 with fail
    go_cut [7] from 44 to 46 (fun s7 wc => w1 = wc ∧ ∃ u : ByteArray, s7 = .string u ∧ ((tp = -1 ∧ NoB s 84 0 s.size ∧ u = s) ∨ ∃ t : Nat, tp = t ∧ FirstAt s 84 t ∧ u = s.extract 0 t))
    case first =>
      rcases HTP.out with ⟨rfl, hn⟩ | ⟨t, rfl, hf⟩
      · have HN : Hid (NoB s 84 0 s.size) := hn
        clear hn HTP
        go_wp2
        go_meet
        case rel => exact ⟨rfl, s, rfl, .inl ⟨by first | rfl | trivial, HN.out, rfl⟩⟩
      · have q1 : (t : Int) ≤ (s.size : Int) := by have := hf.1; omega
        have HN : Hid (FirstAt s 84 t) := hf
        clear hf HTP
        go_wp2
        go_meet
        case rel => exact ⟨rfl, s.extract 0 t, rfl, .inr ⟨t, by first | rfl | trivial, HN.out, rfl⟩⟩
    case rest =>
      obtain ⟨rfl, u, rfl, hu⟩ := hcut
      have hus : u.size ≤ 1048576 := by
        rcases hu with ⟨_, _, rfl⟩ | ⟨t, _, _, rfl⟩
        · exact hs
        · have := ext_size_le s 0 t; omega
      have HU : Hid ((tp = -1 ∧ NoB s 84 0 s.size ∧ u = s) ∨ ∃ t : Nat, tp = t ∧ FirstAt s 84 t ∧ u = s.extract 0 t) := hu
      have HND : Hid (NoDate u → NoDT s) := fun hh => by
        rcases hu with ⟨_, h1, rfl⟩ | ⟨t, _, h1, rfl⟩
        · exact nodt_date h1 hh
        · exact nodt_dateT h1 hh
      clear hu HTP
      go_upto_region 11 with fail
      go_cut [59] from 47 to 58 (fun s59 wc => w1 = wc ∧ s59 = .bool (decide (¬ (u.size = 4 ∨ u.size = 7 ∨ u.size = 10))))
      case first =>
        by_cases h4 : u.size = 4
        · have b4 : ((u.size : Int) != 4) = false := by rw [h4]; rfl
          have HB : Hid (decide (¬ (u.size = 4 ∨ u.size = 7 ∨ u.size = 10)) = false) := decide_eq_false (by omega)
          clear h4
          go_wp2
          go_meet
          case rel => exact ⟨rfl, by rw [HB.out]⟩
        · have b4 : ((u.size : Int) != 4) = true := bne_iff_ne.2 (by omega)
          by_cases h7 : u.size = 7
          · have b7 : ((u.size : Int) != 7) = false := by rw [h7]; rfl
            have HB : Hid (decide (¬ (u.size = 4 ∨ u.size = 7 ∨ u.size = 10)) = false) := decide_eq_false (by omega)
            clear h4 h7
            go_wp2
            go_meet
            case rel => exact ⟨rfl, by rw [HB.out]⟩
          · have b7 : ((u.size : Int) != 7) = true := bne_iff_ne.2 (by omega)
            by_cases h10 : u.size = 10
            · have b10 : ((u.size : Int) != 10) = false := by rw [h10]; rfl
              have HB : Hid (decide (¬ (u.size = 4 ∨ u.size = 7 ∨ u.size = 10)) = false) := decide_eq_false (by omega)
              clear h4 h7 h10
              go_wp2
              go_meet
              case rel => exact ⟨rfl, by rw [HB.out]⟩
            · have b10 : ((u.size : Int) != 10) = true := bne_iff_ne.2 (by omega)
              have HB : Hid (decide (¬ (u.size = 4 ∨ u.size = 7 ∨ u.size = 10)) = true) := decide_eq_true (by omega)
              clear h4 h7 h10
              go_wp2
              go_meet
              case rel => exact ⟨rfl, by rw [HB.out]⟩
      case rest =>
        obtain ⟨rfl, rfl⟩ := hcut
        by_cases hsz : u.size = 4 ∨ u.size = 7 ∨ u.size = 10
        · have hb : decide (¬ (u.size = 4 ∨ u.size = 7 ∨ u.size = 10)) = false := decide_eq_false (fun e => e hsz)
          have HSZ : Hid (u.size = 4 ∨ u.size = 7 ∨ u.size = 10) := hsz
          rw [hb]
          clear hb
          have h4 : 4 ≤ u.size := by omega
          clear hsz
          go_wp2_with fail
          refine (two_any u 0 _ (by omega)).mono ?_
          rintro e wa ⟨rfl, hba⟩
          have hma := HMS.out.below hba
          have HMA : Hid (MS w.heap.size w wa 0 0 0 0 0 0 0 0 false 0) := hma
          clear hma HMS
          go_wp2_with fail
          refine (two_any u 2 _ (by omega)).mono ?_
          rintro e wb ⟨rfl, hbb⟩
          have hms := HMA.out.below hbb
          clear HMA
          cases t0 : twoOk u 0
          · have HN : Hid (NoDT s) := HND.out (by rintro pr y mo d ⟨e, _⟩; rw [t0] at e; exact absurd e (by decide))
            obtain ⟨c0, c1, c2, c3, c4, c5, c6, c7, c8, c9⟩ := tenz hms.rr
            obtain ⟨d0, d1, d2, d3, d4, d5, d6, d7, d8, d9⟩ := tenz hms.res
            have hf := fun i => thaw (i := i) hms.res
            have hbel := hms.bel
            clear hms
            go_wp2
            refine bodyPost_ret (v := .tuple #[.agg (zc 0 0 0 0 0 0 0 0 false 0), .bool false]) (by simp [results, Try.results14, go_sem, d0, d1, d2, d3, d4, d5, d6, d7, d8, d9]) rfl ?_
            exact ⟨.inr ⟨HN.out, _, _, _, _, _, _, _, _, _, _, rfl⟩, below_put10 hbel (Nat.le_refl _) _ _ _ _ _ _ _ _ _ _⟩
          · cases t2 : twoOk u 2
            · have HN : Hid (NoDT s) := HND.out (by rintro pr y mo d ⟨_, e, _⟩; rw [t2] at e; exact absurd e (by decide))
              obtain ⟨c0, c1, c2, c3, c4, c5, c6, c7, c8, c9⟩ := tenz hms.rr
              obtain ⟨d0, d1, d2, d3, d4, d5, d6, d7, d8, d9⟩ := tenz hms.res
              have hf := fun i => thaw (i := i) hms.res
              have hbel := hms.bel
              clear hms
              go_wp2
              refine bodyPost_ret (v := .tuple #[.agg (zc 0 0 0 0 0 0 0 0 false 0), .bool false]) (by simp [results, Try.results14, go_sem, d0, d1, d2, d3, d4, d5, d6, d7, d8, d9]) rfl ?_
              exact ⟨.inr ⟨HN.out, _, _, _, _, _, _, _, _, _, _, rfl⟩, below_put10 hbel (Nat.le_refl _) _ _ _ _ _ _ _ _ _ _⟩
            · have l0 := twoV_le t0
              have l2 := twoV_le t2
              have T02 : Hid (twoOk u 0 = true ∧ twoOk u 2 = true) := ⟨t0, t2⟩
              rw [twoI_yes t0, twoI_yes t2]
              clear t0 t2
              obtain ⟨y, hy⟩ : ∃ y : Nat, y = twoV u 0 * 100 + twoV u 2 := ⟨_, rfl⟩
              have hy9 : y ≤ 9999 := by omega
              have hm1 := hms.set 2 (.int .i64 ((twoV u 0 : Int) * 100 + (twoV u 2 : Int))) (kd' := 0) (pr' := 0) (y' := (twoV u 0 : Int) * 100 + (twoV u 2 : Int)) (mo' := 0) (d' := 0) (h' := 0) (m' := 0) (ns' := 0) (z' := false) (off' := 0) rfl
              have hm2 := hm1.set 1 (.int .i64 1) (kd' := 0) (pr' := 1) (y' := (twoV u 0 : Int) * 100 + (twoV u 2 : Int)) (mo' := 0) (d' := 0) (h' := 0) (m' := 0) (ns' := 0) (z' := false) (off' := 0) rfl
              have HM2 : Hid (MS w.heap.size w ((wb.setCell ⟨w.heap.size + 1, 2, none⟩ (.int .i64 ((twoV u 0 : Int) * 100 + (twoV u 2 : Int)))).setCell ⟨w.heap.size + 1, 1, none⟩ (.int .i64 1)) 0 1 ((twoV u 0 : Int) * 100 + (twoV u 2 : Int)) 0 0 0 0 0 false 0) := hm2
              obtain ⟨c0, c1, c2, c3, c4, c5, c6, c7, c8, c9⟩ := tenz hms.rr
              have hg := fun i => thaw (i := i) hms.rr
              clear hms hm1 hm2
              go_upto_if 86 with fail
              rw [show ((twoV u 0 : Int) * 100 + (twoV u 2 : Int)) = (y : Int) by omega] at HM2 ⊢
              clear c0 c1 c2 c3 c4 c5 c6 c7 c8 c9 hg hba hbb
              generalize (wb.setCell ⟨w.heap.size + 1, 2, none⟩ (.int .i64 (y : Int))).setCell ⟨w.heap.size + 1, 1, none⟩ (.int .i64 1) = w2 at HM2 ⊢
              have HY : Hid (y = twoV u 0 * 100 + twoV u 2) := hy
              clear hy
              go_cut [12, 13, 86] from 87 to 109 (fun _ _ _ wc => ∃ pr mo : Nat, MS w.heap.size w wc 0 pr y mo 0 0 0 0 false 0 ∧ mo ≤ 12 ∧ ((u.size = 4 ∧ pr = 1 ∧ mo = 0) ∨ (7 ≤ u.size ∧ pr = 2 ∧ at_ u 4 = 45 ∧ twoOk u 5 = true ∧ mo = twoV u 5 ∧ 1 ≤ mo)))
              case first =>
                by_cases h7 : 7 ≤ u.size
                · by_cases hd : at_ u 4 = 45
                  · have hdb : (((u[4]'(by omega)).toNat : Int) != 45) = false := by rw [at_int (by omega), hd]; rfl
                    have HD : Hid (at_ u 4 = 45) := hd
                    clear hd
                    go_wp2_with fail
                    refine (two_any u 5 _ (by omega)).mono ?_
                    rintro e wc ⟨rfl, hbc⟩
                    have hms := HM2.out.below hbc
                    clear HM2
                    cases t5 : twoOk u 5
                    · have HN : Hid (NoDT s) := HND.out (by
                        rintro pr y' mo d ⟨_, _, _, ⟨e, _⟩ | ⟨_, e, _⟩⟩
                        · omega
                        · rw [t5] at e; exact absurd e (by decide))
                      obtain ⟨c0, c1, c2, c3, c4, c5, c6, c7, c8, c9⟩ := tenz hms.rr
                      obtain ⟨d0, d1, d2, d3, d4, d5, d6, d7, d8, d9⟩ := tenz hms.res
                      have hf := fun i => thaw (i := i) hms.res
                      have hbel := hms.bel
                      clear hms
                      go_wp2
                      refine bodyPost_ret (v := .tuple #[.agg (zc 0 1 (y : Int) 0 0 0 0 0 false 0), .bool false]) (by simp [results, Try.results14, go_sem, d0, d1, d2, d3, d4, d5, d6, d7, d8, d9]) rfl ?_
                      exact ⟨.inr ⟨HN.out, _, _, _, _, _, _, _, _, _, _, rfl⟩, below_put10 hbel (Nat.le_refl _) _ _ _ _ _ _ _ _ _ _⟩
                    · rw [twoI_yes t5]
                      have l5 := twoV_le t5
                      have T5 : Hid (twoOk u 5 = true) := t5
                      clear t5
                      by_cases hm : 1 ≤ twoV u 5 ∧ twoV u 5 ≤ 12
                      · obtain ⟨hm1, hm12⟩ := hm
                        have hma := hms.set 3 (.int .i64 (twoV u 5 : Int)) (kd' := 0) (pr' := 1) (y' := y) (mo' := (twoV u 5 : Int)) (d' := 0) (h' := 0) (m' := 0) (ns' := 0) (z' := false) (off' := 0) rfl
                        have hmb := hma.set 1 (.int .i64 2) (kd' := 0) (pr' := 2) (y' := y) (mo' := (twoV u 5 : Int)) (d' := 0) (h' := 0) (m' := 0) (ns' := 0) (z' := false) (off' := 0) rfl
                        obtain ⟨c0, c1, c2, c3, c4, c5, c6, c7, c8, c9⟩ := tenz hms.rr
                        have hg := fun i => thaw (i := i) hms.rr
                        clear hms hma
                        have HMB := hid hmb
                        clear hmb
                        go_wp2
                        go_meet
                        case rel => exact ⟨2, twoV u 5, HMB.out, by omega, .inr ⟨h7, rfl, HD.out, T5.out, rfl, by omega⟩⟩
                      · have HN : Hid (NoDT s) := HND.out (by
                          rintro pr y' mo d ⟨_, _, _, ⟨e, _⟩ | ⟨_, _, _, _, _, _⟩⟩ <;> omega)
                        by_cases hm1 : 1 ≤ twoV u 5
                        · have hm2 : 12 < twoV u 5 := by omega
                          clear hm
                          obtain ⟨c0, c1, c2, c3, c4, c5, c6, c7, c8, c9⟩ := tenz hms.rr
                          obtain ⟨d0, d1, d2, d3, d4, d5, d6, d7, d8, d9⟩ := tenz hms.res
                          have hf := fun i => thaw (i := i) hms.res
                          have hbel := hms.bel
                          clear hms
                          go_wp2
                          refine bodyPost_ret (v := .tuple #[.agg (zc 0 1 (y : Int) 0 0 0 0 0 false 0), .bool false]) (by simp [results, Try.results14, go_sem, d0, d1, d2, d3, d4, d5, d6, d7, d8, d9]) rfl ?_
                          exact ⟨.inr ⟨HN.out, _, _, _, _, _, _, _, _, _, _, rfl⟩, below_put10 hbel (Nat.le_refl _) _ _ _ _ _ _ _ _ _ _⟩
                        · clear hm
                          obtain ⟨c0, c1, c2, c3, c4, c5, c6, c7, c8, c9⟩ := tenz hms.rr
                          obtain ⟨d0, d1, d2, d3, d4, d5, d6, d7, d8, d9⟩ := tenz hms.res
                          have hf := fun i => thaw (i := i) hms.res
                          have hbel := hms.bel
                          clear hms
                          go_wp2
                          refine bodyPost_ret (v := .tuple #[.agg (zc 0 1 (y : Int) 0 0 0 0 0 false 0), .bool false]) (by simp [results, Try.results14, go_sem, d0, d1, d2, d3, d4, d5, d6, d7, d8, d9]) rfl ?_
                          exact ⟨.inr ⟨HN.out, _, _, _, _, _, _, _, _, _, _, rfl⟩, below_put10 hbel (Nat.le_refl _) _ _ _ _ _ _ _ _ _ _⟩
                  · have hdb : (((u[4]'(by omega)).toNat : Int) != 45) = true := by rw [at_int (by omega)]; exact bne_iff_ne.2 (by omega)
                    have HN : Hid (NoDT s) := HND.out (by
                      rintro pr y' mo d ⟨_, _, _, ⟨e, _⟩ | ⟨_, _, _, _, _, _⟩⟩ <;> omega)
                    clear hd
                    have hms := HM2.out
                    clear HM2
                    obtain ⟨c0, c1, c2, c3, c4, c5, c6, c7, c8, c9⟩ := tenz hms.rr
                    obtain ⟨d0, d1, d2, d3, d4, d5, d6, d7, d8, d9⟩ := tenz hms.res
                    have hf := fun i => thaw (i := i) hms.res
                    have hbel := hms.bel
                    clear hms
                    go_wp2
                    refine bodyPost_ret (v := .tuple #[.agg (zc 0 1 (y : Int) 0 0 0 0 0 false 0), .bool false]) (by simp [results, Try.results14, go_sem, d0, d1, d2, d3, d4, d5, d6, d7, d8, d9]) rfl ?_
                    exact ⟨.inr ⟨HN.out, _, _, _, _, _, _, _, _, _, _, rfl⟩, below_put10 hbel (Nat.le_refl _) _ _ _ _ _ _ _ _ _ _⟩
                · go_wp2
                  go_meet
                  case rel => exact ⟨1, 0, HM2.out, by omega, .inl ⟨by have := HSZ.out; omega, rfl, rfl⟩⟩
              case rest =>
                obtain ⟨pr, mo, hms, hmo, hpm⟩ := hcut
                have HM3 := hid hms
                have HPM := hid hpm
                clear hms hpm
                go_upto_if 112 with fail
                go_cut [14, 15, 112] from 113 to 140 (fun _ _ _ wc => ∃ pr mo d : Nat, MS w.heap.size w wc 0 pr y mo d 0 0 0 false 0 ∧ DateOk u pr y mo d)
                case first =>
                  by_cases h10 : u.size = 10
                  · have hb10 : ((u.size : Int) == 10) = true := by rw [h10]; rfl
                    obtain ⟨rfl, h4m, t5, hmq, hm1⟩ : pr = 2 ∧ at_ u 4 = 45 ∧ twoOk u 5 = true ∧ mo = twoV u 5 ∧ 1 ≤ mo := by
                      rcases HPM.out with ⟨e, _⟩ | ⟨_, a, b, c, d, e⟩
                      · omega
                      · exact ⟨a, b, c, d, e⟩
                    have HQ := hid (And.intro h4m (And.intro t5 hmq))
                    clear h4m t5 hmq HPM
                    have h10' : 10 ≤ u.size := by omega
                    have H10 := hid h10
                    clear h10
                    by_cases hd : at_ u 7 = 45
                    · have hdb : (((u[7]'(by omega)).toNat : Int) != 45) = false := by rw [at_int (by omega), hd]; rfl
                      have HD : Hid (at_ u 7 = 45) := hd
                      clear hd
                      go_wp2_with fail
                      refine (two_any u 8 _ (by omega)).mono ?_
                      rintro e wd ⟨rfl, hbd⟩
                      have hms := HM3.out.below hbd
                      clear HM3
                      cases t8 : twoOk u 8
                      · have HN : Hid (NoDT s) := HND.out (by
                          rintro pr y' mo' d ⟨_, _, _, ⟨e, _⟩ | ⟨_, _, _, _, _, ⟨e, _⟩ | ⟨_, _, e, _⟩⟩⟩
                          · omega
                          · have := H10.out; omega
                          · rw [t8] at e; exact absurd e (by decide))
                        obtain ⟨c0, c1, c2, c3, c4, c5, c6, c7, c8, c9⟩ := tenz hms.rr
                        obtain ⟨d0, d1, d2, d3, d4, d5, d6, d7, d8, d9⟩ := tenz hms.res
                        have hf := fun i => thaw (i := i) hms.res
                        have hbel := hms.bel
                        clear hms
                        go_wp2
                        refine bodyPost_ret (v := .tuple #[.agg (zc 0 2 (y : Int) (mo : Int) 0 0 0 0 false 0), .bool false]) (by simp [results, Try.results14, go_sem, d0, d1, d2, d3, d4, d5, d6, d7, d8, d9]) rfl ?_
                        exact ⟨.inr ⟨HN.out, _, _, _, _, _, _, _, _, _, _, rfl⟩, below_put10 hbel (Nat.le_refl _) _ _ _ _ _ _ _ _ _ _⟩
                      · rw [twoI_yes t8]
                        have l8 := twoV_le t8
                        have T8 : Hid (twoOk u 8 = true) := t8
                        clear t8
                        by_cases hd1 : 1 ≤ twoV u 8
                        · obtain ⟨c0, c1, c2, c3, c4, c5, c6, c7, c8, c9⟩ := tenz hms.rr
                          go_wp2_with fail
                          refine (zzDays_any y mo _ hy9 hm1 hmo).mono ?_
                          rintro e wz ⟨rfl, hw⟩
                          rw [hw]
                          clear hw wz
                          have hdl := dim_le y mo
                          by_cases hdd : twoV u 8 ≤ dim y mo
                          · have HD3 : Hid (DateOk u 3 y mo (twoV u 8)) := ⟨T02.out.1, T02.out.2, HY.out, .inr ⟨HQ.out.1, HQ.out.2.1, HQ.out.2.2, hm1, hmo, .inr ⟨H10.out, HD.out, T8.out, rfl, hd1, hdd, rfl⟩⟩⟩
                            have hma := hms.set 4 (.int .i64 (twoV u 8 : Int)) (kd' := 0) (pr' := 2) (y' := y) (mo' := mo) (d' := (twoV u 8 : Int)) (h' := 0) (m' := 0) (ns' := 0) (z' := false) (off' := 0) rfl
                            have hmb := hma.set 1 (.int .i64 3) (kd' := 0) (pr' := 3) (y' := y) (mo' := mo) (d' := (twoV u 8 : Int)) (h' := 0) (m' := 0) (ns' := 0) (z' := false) (off' := 0) rfl
                            have hg := fun i => thaw (i := i) hms.rr
                            clear hms hma
                            have HMB := hid hmb
                            clear hmb
                            go_wp2
                            go_meet
                            case rel => exact ⟨3, mo, twoV u 8, HMB.out, HD3.out⟩
                          · have HN : Hid (NoDT s) := HND.out (by
                              have h1 := H10.out
                              have h2 := HY.out
                              have h3 := HQ.out.2.2
                              rintro pr y' mo' d ⟨_, _, e1, ⟨e, _⟩ | ⟨_, _, e2, _, _, ⟨e, _⟩ | ⟨_, _, _, e3, _, e4, _⟩⟩⟩
                              · omega
                              · omega
                              · obtain rfl : y' = y := by omega
                                obtain rfl : mo' = mo := by omega
                                omega)
                            clear c0 c1 c2 c3 c4 c5 c6 c7 c8 c9
                            obtain ⟨c0, c1, c2, c3, c4, c5, c6, c7, c8, c9⟩ := tenz hms.rr
                            obtain ⟨d0, d1, d2, d3, d4, d5, d6, d7, d8, d9⟩ := tenz hms.res
                            have hf := fun i => thaw (i := i) hms.res
                            have hbel := hms.bel
                            clear hms
                            go_wp2
                            refine bodyPost_ret (v := .tuple #[.agg (zc 0 2 (y : Int) (mo : Int) 0 0 0 0 false 0), .bool false]) (by simp [results, Try.results14, go_sem, d0, d1, d2, d3, d4, d5, d6, d7, d8, d9]) rfl ?_
                            exact ⟨.inr ⟨HN.out, _, _, _, _, _, _, _, _, _, _, rfl⟩, below_put10 hbel (Nat.le_refl _) _ _ _ _ _ _ _ _ _ _⟩
                        · have HN : Hid (NoDT s) := HND.out (by
                            have := H10.out
                            rintro pr y' mo' d ⟨_, _, _, ⟨e, _⟩ | ⟨_, _, _, _, _, ⟨e, _⟩ | ⟨_, _, _, _, _, _⟩⟩⟩ <;> omega)
                          obtain ⟨c0, c1, c2, c3, c4, c5, c6, c7, c8, c9⟩ := tenz hms.rr
                          obtain ⟨d0, d1, d2, d3, d4, d5, d6, d7, d8, d9⟩ := tenz hms.res
                          have hf := fun i => thaw (i := i) hms.res
                          have hbel := hms.bel
                          clear hms
                          go_wp2
                          refine bodyPost_ret (v := .tuple #[.agg (zc 0 2 (y : Int) (mo : Int) 0 0 0 0 false 0), .bool false]) (by simp [results, Try.results14, go_sem, d0, d1, d2, d3, d4, d5, d6, d7, d8, d9]) rfl ?_
                          exact ⟨.inr ⟨HN.out, _, _, _, _, _, _, _, _, _, _, rfl⟩, below_put10 hbel (Nat.le_refl _) _ _ _ _ _ _ _ _ _ _⟩
                    · have hdb : (((u[7]'(by omega)).toNat : Int) != 45) = true := by rw [at_int (by omega)]; exact bne_iff_ne.2 (by omega)
                      have HN : Hid (NoDT s) := HND.out (by
                        have := H10.out
                        rintro pr y' mo d ⟨_, _, _, ⟨e, _⟩ | ⟨_, _, _, _, _, ⟨e, _⟩ | ⟨_, e, _, _, _, _⟩⟩⟩ <;> omega)
                      clear hd
                      have hms := HM3.out
                      clear HM3
                      obtain ⟨c0, c1, c2, c3, c4, c5, c6, c7, c8, c9⟩ := tenz hms.rr
                      obtain ⟨d0, d1, d2, d3, d4, d5, d6, d7, d8, d9⟩ := tenz hms.res
                      have hf := fun i => thaw (i := i) hms.res
                      have hbel := hms.bel
                      clear hms
                      go_wp2
                      refine bodyPost_ret (v := .tuple #[.agg (zc 0 2 (y : Int) (mo : Int) 0 0 0 0 false 0), .bool false]) (by simp [results, Try.results14, go_sem, d0, d1, d2, d3, d4, d5, d6, d7, d8, d9]) rfl ?_
                      exact ⟨.inr ⟨HN.out, _, _, _, _, _, _, _, _, _, _, rfl⟩, below_put10 hbel (Nat.le_refl _) _ _ _ _ _ _ _ _ _ _⟩
                  · have hb10 : ((u.size : Int) == 10) = false := beq_eq_false_iff_ne.2 (by omega)
                    have HD : Hid (DateOk u pr y mo 0) := by
                      refine ⟨T02.out.1, T02.out.2, HY.out, ?_⟩
                      rcases HPM.out with ⟨a, b, c⟩ | ⟨a, b, c, d, e, f⟩
                      · exact .inl ⟨a, b, c, rfl⟩
                      · exact .inr ⟨c, d, e, f, hmo, .inl ⟨by have := HSZ.out; omega, b, rfl⟩⟩
                    clear h10
                    go_wp2
                    go_meet
                    case rel => exact ⟨pr, mo, 0, HM3.out, HD.out⟩
                case rest =>
                  obtain ⟨pr, mo, d, hms, hdt⟩ := hcut
                  have HM4 := hid hms
                  have HDT := hid hdt
                  clear hms hdt HM3 HPM hmo
                  have hms := HM4.out
                  have hma := hms.set 0 (.int .i64 5) (kd' := 5) (pr' := pr) (y' := y) (mo' := mo) (d' := d) (h' := 0) (m' := 0) (ns' := 0) (z' := false) (off' := 0) rfl
                  obtain ⟨c0, c1, c2, c3, c4, c5, c6, c7, c8, c9⟩ := tenz hms.rr
                  have hg := fun i => thaw (i := i) hms.rr
                  have HM5 := hid hma
                  clear hms hma HM4
                  go_upto_region 36 with fail
                  generalize wc.setCell ⟨w.heap.size + 1, 0, none⟩ (.int .i64 5) = w5 at HM5 ⊢
                  clear c0 c1 c2 c3 c4 c5 c6 c7 c8 c9 hg
                  rcases HU.out with ⟨htp, hn, hus'⟩ | ⟨t, htp, hft, hus'⟩
                  · subst htp
                    have HK : Hid (DTOk s (5 : Nat) pr y mo d (0 : Nat) (0 : Nat) (0 : Nat) false 0) := .inl ⟨hn, hus' ▸ HDT.out, rfl, rfl, rfl, rfl, rfl, rfl⟩
                    have hms := HM5.out
                    clear hn hus'
                    obtain ⟨c0, c1, c2, c3, c4, c5, c6, c7, c8, c9⟩ := tenz hms.rr
                    obtain ⟨d0, d1, d2, d3, d4, d5, d6, d7, d8, d9⟩ := tenz hms.res
                    have hf := fun i => thaw (i := i) hms.res
                    have hbel := hms.bel
                    clear hms
                    go_wp2
                    refine bodyPost_ret (v := .tuple #[.agg (zc (5 : Nat) (pr : Int) (y : Int) (mo : Int) (d : Int) (0 : Nat) (0 : Nat) (0 : Nat) false 0), .bool true]) (by simp [results, Try.results14, go_sem, d0, d1, d2, d3, d4, d5, d6, d7, d8, d9]) rfl ?_
                    exact ⟨.inl ⟨_, _, _, _, _, _, _, _, _, _, HK.out, rfl⟩, below_put10 hbel (Nat.le_refl _) _ _ _ _ _ _ _ _ _ _⟩
                  · subst htp
                    have q1 : (t : Int) + 1 ≤ (s.size : Int) := by have := hft.1; omega
                    have HFT := hid hft
                    have HUE := hid hus'
                    clear hft hus' HU
                    have hms := HM5.out
                    have hma := hms.set 0 (.int .i64 6) (kd' := 6) (pr' := pr) (y' := y) (mo' := mo) (d' := d) (h' := 0) (m' := 0) (ns' := 0) (z' := false) (off' := 0) rfl
                    obtain ⟨c0, c1, c2, c3, c4, c5, c6, c7, c8, c9⟩ := tenz hms.rr
                    have hg := fun i => thaw (i := i) hms.rr
                    have HM6 := hid hma
                    clear hms hma HM5
                    go_upto_region 40 with fail
                    clear c0 c1 c2 c3 c4 c5 c6 c7 c8 c9 hg
                    generalize w5.setCell ⟨w.heap.size + 1, 0, none⟩ (.int .i64 6) = w6 at HM6 ⊢
                    obtain ⟨c, hc⟩ : ∃ c : ByteArray, c = s.extract (t + 1) s.size := ⟨_, rfl⟩
                    rw [← hc]
                    have hcs : c.size = s.size - (t + 1) := by rw [hc]; simp
                    have HC := hid hc
                    clear hc
                    have hc1 : c.size ≤ 1048576 := by omega
                    by_cases he : c.size = 0
                    · have hcb : (c.toList == []) = true := by
                        have e : c.data.toList = [] := List.eq_nil_of_length_eq_zero (by rw [list_len]; exact he)
                        rw [Lib.toList_data, e]; rfl
                      have HK : Hid (DTOk s (6 : Nat) pr y mo d (0 : Nat) (0 : Nat) (0 : Nat) false 0) := .inr ⟨t, pr, HFT.out, HUE.out ▸ HDT.out, rfl, .inl ⟨by omega, rfl, rfl, rfl, rfl, rfl, rfl⟩⟩
                      clear hcs he
                      have hms := HM6.out
                      obtain ⟨c0, c1, c2, c3, c4, c5, c6, c7, c8, c9⟩ := tenz hms.rr
                      obtain ⟨d0, d1, d2, d3, d4, d5, d6, d7, d8, d9⟩ := tenz hms.res
                      have hf := fun i => thaw (i := i) hms.res
                      have hbel := hms.bel
                      clear hms
                      go_wp2
                      refine bodyPost_ret (v := .tuple #[.agg (zc (6 : Nat) (pr : Int) (y : Int) (mo : Int) (d : Int) (0 : Nat) (0 : Nat) (0 : Nat) false 0), .bool true]) (by simp [results, Try.results14, go_sem, d0, d1, d2, d3, d4, d5, d6, d7, d8, d9]) rfl ?_
                      exact ⟨.inl ⟨_, _, _, _, _, _, _, _, _, _, HK.out, rfl⟩, below_put10 hbel (Nat.le_refl _) _ _ _ _ _ _ _ _ _ _⟩
                    · have hcb : (c.toList == []) = false := by
                        rw [Lib.toList_data]
                        exact beq_eq_false_iff_ne.2 (fun e => he (by rw [← list_len, e]; rfl))
                      have ht1 : t + 1 < s.size := by omega
                      clear hcs
                      by_cases hp3 : pr = 3
                      · subst hp3
                        have hms := HM6.out
                        obtain ⟨c0, c1, c2, c3, c4, c5, c6, c7, c8, c9⟩ := tenz hms.rr
                        clear hms
                        go_upto_block 2 with fail
                        clear c0 c1 c2 c3 c4 c5 c6 c7 c8 c9
                        go_cut [17, 18] from 157 to 179 (fun s17 _ wc => w6 = wc ∧ ∃ zp : Int, s17 = .int .i64 zp ∧ ((zp = -1 ∧ NoZone c) ∨ ∃ z : Nat, zp = z ∧ ZoneAt c z))
                        case first =>
                          go_wp2_with fail
                          go_loopg [17, 18] c.size (fun g s17 s18 wx => s17 = .int .i64 (-1) ∧ ∃ k : Nat, k ≤ c.size ∧ c.size ≤ k + g ∧ s18 = .int .i64 k ∧ w6 = wx ∧ ∀ j, j < k → ¬ isZ (at_ c j))
                          case atStart => exact ⟨rfl, 0, by omega, by omega, rfl, rfl, fun j hj => by omega⟩
                          case round =>
                            obtain ⟨rfl, k, hk, hkg, rfl, rfl, hno⟩ := hrel
                            have HN : Hid (∀ j, j < k → ¬ isZ (at_ c j)) := hno
                            clear hno
                            by_cases hlt : k < c.size
                            · have e := at_int hlt
                              by_cases h1 : at_ c k = 90
                              · have b1 : (((c[k]'hlt).toNat : Int) == 90) = true := by rw [e, h1]; rfl
                                have HZ : Hid (ZoneAt c k) := ⟨hlt, .inl h1, HN.out⟩
                                clear e h1
                                go_wp2
                                go_meet
                                case rel => exact ⟨rfl, k, rfl, .inr ⟨k, rfl, HZ.out⟩⟩
                              · have b1 : (((c[k]'hlt).toNat : Int) == 90) = false := by rw [e]; exact beq_eq_false_iff_ne.2 (by omega)
                                by_cases h2 : at_ c k = 43
                                · have b2 : (((c[k]'hlt).toNat : Int) == 43) = true := by rw [e, h2]; rfl
                                  have HZ : Hid (ZoneAt c k) := ⟨hlt, .inr (.inl h2), HN.out⟩
                                  clear e h1 h2
                                  go_wp2
                                  go_meet
                                  case rel => exact ⟨rfl, k, rfl, .inr ⟨k, rfl, HZ.out⟩⟩
                                · have b2 : (((c[k]'hlt).toNat : Int) == 43) = false := by rw [e]; exact beq_eq_false_iff_ne.2 (by omega)
                                  by_cases h3 : at_ c k = 45
                                  · have b3 : (((c[k]'hlt).toNat : Int) == 45) = true := by rw [e, h3]; rfl
                                    have HZ : Hid (ZoneAt c k) := ⟨hlt, .inr (.inr h3), HN.out⟩
                                    clear e h1 h2 h3
                                    go_wp2
                                    go_meet
                                    case rel => exact ⟨rfl, k, rfl, .inr ⟨k, rfl, HZ.out⟩⟩
                                  · have b3 : (((c[k]'hlt).toNat : Int) == 45) = false := by rw [e]; exact beq_eq_false_iff_ne.2 (by omega)
                                    have HN2 : Hid (∀ j, j < k + 1 → ¬ isZ (at_ c j)) := fun j hj => by
                                      by_cases ej : j = k
                                      · rw [ej]; rintro (h | h | h) <;> omega
                                      · exact HN.out j (by omega)
                                    clear e h1 h2 h3
                                    go_wp2
                                    go_roundg (c.size - (k + 1))
                                    case measure => omega
                                    case rel => exact ⟨rfl, k + 1, by omega, by omega, by go_num, rfl, HN2.out⟩
                            · have HZ : Hid (NoZone c) := fun j => by
                                by_cases hj : j < k
                                · exact HN.out j hj
                                · rw [at_out (by omega)]; rintro (h | h | h) <;> omega
                              go_wp2
                              go_meet
                              case rel => exact ⟨rfl, -1, rfl, .inl ⟨rfl, HZ.out⟩⟩
                        case rest =>
                          obtain ⟨rfl, zp, rfl, hzp⟩ := hcut
                          have HZP := hid hzp
                          clear hzp
                          go_upto_if 182 with fail
                          go_cut [19, 20, 21, 22, 23, 24, 182] from 183 to 237 (fun s19 _ _ _ _ _ _ wc => ∃ (v : ByteArray) (zb : Bool) (off : Int), s19 = .string v ∧ v.size ≤ 1048576 ∧ MS w.heap.size w wc 6 (3 : Nat) y mo d 0 0 0 zb off ∧ ((NoZone c ∧ v = c ∧ zb = false ∧ off = 0) ∨ (∃ k, ZoneAt c k ∧ OffOk (c.extract k c.size) off ∧ v = c.extract 0 k ∧ zb = true)))
                          case first =>
                            rcases HZP.out with ⟨rfl, hnz⟩ | ⟨z, rfl, hz⟩
                            · have HNZ := hid hnz
                              clear hnz
                              go_wp2
                              go_meet
                              case rel => exact ⟨c, false, 0, rfl, hc1, HM6.out, .inl ⟨HNZ.out, rfl, rfl, rfl⟩⟩
                            · have q2 : (z : Int) ≤ (c.size : Int) := by have := hz.1; omega
                              have HZ := hid hz
                              have o1 : 1 ≤ (c.extract z c.size).size := by have := hz.1; simp; omega
                              have o2 := ext_size_le c z c.size
                              have hv := ext_size_le c 0 z
                              clear hz
                              go_upto_region 54 with fail
                              obtain ⟨o, ho⟩ : ∃ o : ByteArray, o = c.extract z c.size := ⟨_, rfl⟩
                              rw [← ho] at o1 o2 ⊢
                              have HOE := hid ho
                              have HNO : Hid ((∀ q, ¬ OffOk o q) → NoDT s) := fun hh => nodt_clock HFT.out (by omega) (by
                                rw [← HC.out]
                                exact noclock_off HZ.out (by rw [← ho]; exact hh))
                              clear ho
                              by_cases hZ : o.size = 1 ∧ at_ o 0 = 90
                              · have hl : (o.toList == [90]) = true := by rw [Lib.toList_data, oneZ hZ.1 hZ.2]; rfl
                                have HOK : Hid (OffOk o 0) := .inl ⟨hZ.1, hZ.2, rfl⟩
                                clear hZ
                                have hms := HM6.out
                                have hma := hms.set 8 (.bool true) (kd' := 6) (pr' := (3 : Nat)) (y' := y) (mo' := mo) (d' := d) (h' := 0) (m' := 0) (ns' := 0) (z' := true) (off' := 0) rfl
                                obtain ⟨c0, c1, c2, c3, c4, c5, c6, c7, c8, c9⟩ := tenz hms.rr
                                have hg := fun i => thaw (i := i) hms.rr
                                have HMA := hid hma
                                clear hms hma
                                go_wp2
                                go_meet
                                case rel => exact ⟨_, true, 0, rfl, by omega, HMA.out, .inr ⟨z, HZ.out, HOE.out ▸ HOK.out, rfl, rfl⟩⟩
                              · have hl : (o.toList == [90]) = false := by
                                  rw [Lib.toList_data]
                                  cases hb : (o.data.toList == [90])
                                  · rfl
                                  · exact absurd (isOneZ hb) hZ
                                by_cases h6 : o.size = 6
                                · have HNE : Hid (∀ q, OffOk o q → at_ o 3 = 58 ∧ twoOk o 1 = true ∧ twoOk o 4 = true ∧ twoV o 1 ≤ 14 ∧ twoV o 4 ≤ 59) := by
                                    rintro q (⟨e, _⟩ | ⟨_, e1, e2, e3, e4, e5, _⟩)
                                    · omega
                                    · exact ⟨e1, e2, e3, e4, e5⟩
                                  clear hZ
                                  have n6 : ((o.size : Int) != 6) = false := by rw [h6]; rfl
                                  have H6 := hid h6
                                  have z3 : 3 < o.size := by omega
                                  have z6 : 6 ≤ o.size := by omega
                                  clear h6
                                  by_cases h3 : at_ o 3 = 58
                                  · have c3 : (((o[3]'z3).toNat : Int) != 58) = false := by rw [at_int z3, h3]; rfl
                                    have H3 : Hid (at_ o 3 = 58) := h3
                                    clear h3
                                    go_wp2_with fail
                                    refine (two_any o 1 _ (by omega)).mono ?_
                                    rintro e wa ⟨rfl, hba⟩
                                    have hms := HM6.out.below hba
                                    have HMA := hid hms
                                    clear hms HM6
                                    go_wp2_with fail
                                    refine (two_any o 4 _ (by omega)).mono ?_
                                    rintro e wb ⟨rfl, hbb⟩
                                    have hms := HMA.out.below hbb
                                    clear HMA
                                    cases t1 : twoOk o 1
                                    · have HN : Hid (NoDT s) := HNO.out (fun q hh => by have := (HNE.out q hh).2.1; rw [t1] at this; exact absurd this (by decide))
                                      obtain ⟨c0, c1, c2, c3, c4, c5, c6, c7, c8, c9⟩ := tenz hms.rr
                                      obtain ⟨d0, d1, d2, d3, d4, d5, d6, d7, d8, d9⟩ := tenz hms.res
                                      have hf := fun i => thaw (i := i) hms.res
                                      have hbel := hms.bel
                                      clear hms
                                      go_wp2
                                      refine bodyPost_ret (v := .tuple #[.agg (zc (6 : Int) (3 : Nat) (y : Int) (mo : Int) (d : Int) 0 0 0 false 0), .bool false]) (by simp [results, Try.results14, go_sem, d0, d1, d2, d3, d4, d5, d6, d7, d8, d9]) rfl ?_
                                      exact ⟨.inr ⟨HN.out, _, _, _, _, _, _, _, _, _, _, rfl⟩, below_put10 hbel (Nat.le_refl _) _ _ _ _ _ _ _ _ _ _⟩
                                    · cases t4 : twoOk o 4
                                      · have HN : Hid (NoDT s) := HNO.out (fun q hh => by have := (HNE.out q hh).2.2.1; rw [t4] at this; exact absurd this (by decide))
                                        obtain ⟨c0, c1, c2, c3, c4, c5, c6, c7, c8, c9⟩ := tenz hms.rr
                                        obtain ⟨d0, d1, d2, d3, d4, d5, d6, d7, d8, d9⟩ := tenz hms.res
                                        have hf := fun i => thaw (i := i) hms.res
                                        have hbel := hms.bel
                                        clear hms
                                        go_wp2
                                        refine bodyPost_ret (v := .tuple #[.agg (zc (6 : Int) (3 : Nat) (y : Int) (mo : Int) (d : Int) 0 0 0 false 0), .bool false]) (by simp [results, Try.results14, go_sem, d0, d1, d2, d3, d4, d5, d6, d7, d8, d9]) rfl ?_
                                        exact ⟨.inr ⟨HN.out, _, _, _, _, _, _, _, _, _, _, rfl⟩, below_put10 hbel (Nat.le_refl _) _ _ _ _ _ _ _ _ _ _⟩
                                      · have l1 := twoV_le t1
                                        have l4 := twoV_le t4
                                        rw [twoI_yes t1, twoI_yes t4]
                                        have T1 := hid t1
                                        have T4 := hid t4
                                        clear t1 t4
                                        by_cases g1 : twoV o 1 ≤ 14
                                        · by_cases g4 : twoV o 4 ≤ 59
                                          · by_cases h45 : at_ o 0 = 45
                                            · have b45 : (((o[0]'(by omega)).toNat : Int) == 45) = true := by rw [at_int (by omega), h45]; rfl
                                              have HOK : Hid (OffOk o (-(60 * (twoV o 1 : Int) + (twoV o 4 : Int)))) := .inr ⟨H6.out, H3.out, T1.out, T4.out, g1, g4, .inl ⟨h45, rfl⟩⟩
                                              clear h45
                                              have hma := hms.set 9 (.int .i64 (60 * (twoV o 1 : Int) + (twoV o 4 : Int))) (kd' := 6) (pr' := (3 : Nat)) (y' := y) (mo' := mo) (d' := d) (h' := 0) (m' := 0) (ns' := 0) (z' := false) (off' := (60 * (twoV o 1 : Int) + (twoV o 4 : Int))) rfl
                                              have hmb := hma.set 9 (.int .i64 (-(60 * (twoV o 1 : Int) + (twoV o 4 : Int)))) (kd' := 6) (pr' := (3 : Nat)) (y' := y) (mo' := mo) (d' := d) (h' := 0) (m' := 0) (ns' := 0) (z' := false) (off' := (-(60 * (twoV o 1 : Int) + (twoV o 4 : Int)))) rfl
                                              have hmc := hmb.set 8 (.bool true) (kd' := 6) (pr' := (3 : Nat)) (y' := y) (mo' := mo) (d' := d) (h' := 0) (m' := 0) (ns' := 0) (z' := true) (off' := (-(60 * (twoV o 1 : Int) + (twoV o 4 : Int)))) rfl
                                              obtain ⟨c0, c1, c2, c3, c4, c5, c6, c7, c8, c9⟩ := tenz hms.rr
                                              have hg := fun i => thaw (i := i) hms.rr
                                              have HMC := hid hmc
                                              clear hms hma hmb hmc
                                              go_wp2
                                              go_meet
                                              case rel => exact ⟨_, true, _, rfl, by omega, HMC.out, .inr ⟨z, HZ.out, HOE.out ▸ HOK.out, rfl, rfl⟩⟩
                                            · have b45 : (((o[0]'(by omega)).toNat : Int) == 45) = false := by rw [at_int (by omega)]; exact beq_eq_false_iff_ne.2 (by omega)
                                              have HOK : Hid (OffOk o (60 * (twoV o 1 : Int) + (twoV o 4 : Int))) := .inr ⟨H6.out, H3.out, T1.out, T4.out, g1, g4, .inr ⟨h45, rfl⟩⟩
                                              clear h45
                                              have hma := hms.set 9 (.int .i64 (60 * (twoV o 1 : Int) + (twoV o 4 : Int))) (kd' := 6) (pr' := (3 : Nat)) (y' := y) (mo' := mo) (d' := d) (h' := 0) (m' := 0) (ns' := 0) (z' := false) (off' := (60 * (twoV o 1 : Int) + (twoV o 4 : Int))) rfl
                                              have hmc := hma.set 8 (.bool true) (kd' := 6) (pr' := (3 : Nat)) (y' := y) (mo' := mo) (d' := d) (h' := 0) (m' := 0) (ns' := 0) (z' := true) (off' := (60 * (twoV o 1 : Int) + (twoV o 4 : Int))) rfl
                                              obtain ⟨c0, c1, c2, c3, c4, c5, c6, c7, c8, c9⟩ := tenz hms.rr
                                              have hg := fun i => thaw (i := i) hms.rr
                                              have HMC := hid hmc
                                              clear hms hma hmc
                                              go_wp2
                                              go_meet
                                              case rel => exact ⟨_, true, _, rfl, by omega, HMC.out, .inr ⟨z, HZ.out, HOE.out ▸ HOK.out, rfl, rfl⟩⟩
                                          · have HN : Hid (NoDT s) := HNO.out (fun q hh => g4 (HNE.out q hh).2.2.2.2)
                                            obtain ⟨c0, c1, c2, c3, c4, c5, c6, c7, c8, c9⟩ := tenz hms.rr
                                            obtain ⟨d0, d1, d2, d3, d4, d5, d6, d7, d8, d9⟩ := tenz hms.res
                                            have hf := fun i => thaw (i := i) hms.res
                                            have hbel := hms.bel
                                            clear hms
                                            go_wp2
                                            refine bodyPost_ret (v := .tuple #[.agg (zc (6 : Int) (3 : Nat) (y : Int) (mo : Int) (d : Int) 0 0 0 false 0), .bool false]) (by simp [results, Try.results14, go_sem, d0, d1, d2, d3, d4, d5, d6, d7, d8, d9]) rfl ?_
                                            exact ⟨.inr ⟨HN.out, _, _, _, _, _, _, _, _, _, _, rfl⟩, below_put10 hbel (Nat.le_refl _) _ _ _ _ _ _ _ _ _ _⟩
                                        · have HN : Hid (NoDT s) := HNO.out (fun q hh => g1 (HNE.out q hh).2.2.2.1)
                                          obtain ⟨c0, c1, c2, c3, c4, c5, c6, c7, c8, c9⟩ := tenz hms.rr
                                          obtain ⟨d0, d1, d2, d3, d4, d5, d6, d7, d8, d9⟩ := tenz hms.res
                                          have hf := fun i => thaw (i := i) hms.res
                                          have hbel := hms.bel
                                          clear hms
                                          go_wp2
                                          refine bodyPost_ret (v := .tuple #[.agg (zc (6 : Int) (3 : Nat) (y : Int) (mo : Int) (d : Int) 0 0 0 false 0), .bool false]) (by simp [results, Try.results14, go_sem, d0, d1, d2, d3, d4, d5, d6, d7, d8, d9]) rfl ?_
                                          exact ⟨.inr ⟨HN.out, _, _, _, _, _, _, _, _, _, _, rfl⟩, below_put10 hbel (Nat.le_refl _) _ _ _ _ _ _ _ _ _ _⟩
                                  · have c3 : (((o[3]'z3).toNat : Int) != 58) = true := by rw [at_int z3]; exact bne_iff_ne.2 (by omega)
                                    have HN : Hid (NoDT s) := HNO.out (fun q hh => h3 (HNE.out q hh).1)
                                    clear h3
                                    have hms := HM6.out
                                    clear HM6
                                    obtain ⟨c0, c1, c2, c3, c4, c5, c6, c7, c8, c9⟩ := tenz hms.rr
                                    obtain ⟨d0, d1, d2, d3, d4, d5, d6, d7, d8, d9⟩ := tenz hms.res
                                    have hf := fun i => thaw (i := i) hms.res
                                    have hbel := hms.bel
                                    clear hms
                                    go_wp2
                                    refine bodyPost_ret (v := .tuple #[.agg (zc (6 : Int) (3 : Nat) (y : Int) (mo : Int) (d : Int) 0 0 0 false 0), .bool false]) (by simp [results, Try.results14, go_sem, d0, d1, d2, d3, d4, d5, d6, d7, d8, d9]) rfl ?_
                                    exact ⟨.inr ⟨HN.out, _, _, _, _, _, _, _, _, _, _, rfl⟩, below_put10 hbel (Nat.le_refl _) _ _ _ _ _ _ _ _ _ _⟩
                                · have n6 : ((o.size : Int) != 6) = true := bne_iff_ne.2 (by omega)
                                  have HN : Hid (NoDT s) := HNO.out (by
                                    rintro q (⟨e1, e2, _⟩ | ⟨e, _⟩)
                                    · exact hZ ⟨e1, e2⟩
                                    · exact h6 e)
                                  clear hZ h6
                                  have hms := HM6.out
                                  clear HM6
                                  obtain ⟨c0, c1, c2, c3, c4, c5, c6, c7, c8, c9⟩ := tenz hms.rr
                                  obtain ⟨d0, d1, d2, d3, d4, d5, d6, d7, d8, d9⟩ := tenz hms.res
                                  have hf := fun i => thaw (i := i) hms.res
                                  have hbel := hms.bel
                                  clear hms
                                  go_wp2
                                  refine bodyPost_ret (v := .tuple #[.agg (zc (6 : Int) (3 : Nat) (y : Int) (mo : Int) (d : Int) 0 0 0 false 0), .bool false]) (by simp [results, Try.results14, go_sem, d0, d1, d2, d3, d4, d5, d6, d7, d8, d9]) rfl ?_
                                  exact ⟨.inr ⟨HN.out, _, _, _, _, _, _, _, _, _, _, rfl⟩, below_put10 hbel (Nat.le_refl _) _ _ _ _ _ _ _ _ _ _⟩
                          case rest =>
                            obtain ⟨v, zb, off, rfl, hv, hms, hz⟩ := hcut
                            have HMZ := hid hms
                            have HZZ := hid hz
                            clear hms hz
                            go_wp2_with fail
                            refine (model_any v _ hv).mono ?_
                            rintro e wm ⟨⟨p, h, m, ns, hk, rfl⟩ | ⟨hn, rfl⟩, hbm⟩
                            · have hms := HMZ.out.below hbm
                              have HK : Hid (DTOk s (6 : Nat) p y mo d h m ns zb off) := .inr ⟨t, 3, HFT.out, HUE.out ▸ HDT.out, rfl, .inr ⟨by omega, rfl, by
                                rw [← HC.out]
                                rcases HZZ.out with ⟨a1, a2, a3, a4⟩ | ⟨k, a1, a2, a3, a4⟩
                                · exact .inl ⟨a1, a2 ▸ hk, a3, a4⟩
                                · exact .inr ⟨k, a1, a2, a3 ▸ hk, a4⟩⟩⟩
                              clear hk
                              have hma := hms.set 1 (.int .i64 (p : Int)) (kd' := 6) (pr' := p) (y' := y) (mo' := mo) (d' := d) (h' := 0) (m' := 0) (ns' := 0) (z' := zb) (off' := off) rfl
                              have hmb := hma.set 5 (.int .i64 (h : Int)) (kd' := 6) (pr' := p) (y' := y) (mo' := mo) (d' := d) (h' := h) (m' := 0) (ns' := 0) (z' := zb) (off' := off) rfl
                              have hmc := hmb.set 6 (.int .i64 (m : Int)) (kd' := 6) (pr' := p) (y' := y) (mo' := mo) (d' := d) (h' := h) (m' := m) (ns' := 0) (z' := zb) (off' := off) rfl
                              have hmd := hmc.set 7 (.int .i64 (ns : Int)) (kd' := 6) (pr' := p) (y' := y) (mo' := mo) (d' := d) (h' := h) (m' := m) (ns' := ns) (z' := zb) (off' := off) rfl
                              obtain ⟨c0, c1, c2, c3, c4, c5, c6, c7, c8, c9⟩ := tenz hms.rr
                              have hg := fun i => thaw (i := i) hms.rr
                              have HMD := hid hmd
                              clear hms hma hmb hmc hmd
                              go_upto_region 72 with fail
                              clear c0 c1 c2 c3 c4 c5 c6 c7 c8 c9 hg
                              generalize (((wm.setCell ⟨w.heap.size + 1, 1, none⟩ (.int .i64 (p : Int))).setCell ⟨w.heap.size + 1, 5, none⟩ (.int .i64 (h : Int))).setCell ⟨w.heap.size + 1, 6, none⟩ (.int .i64 (m : Int))).setCell ⟨w.heap.size + 1, 7, none⟩ (.int .i64 (ns : Int)) = w9 at HMD ⊢
                              have hms := HMD.out
                              clear HMD
                              obtain ⟨c0, c1, c2, c3, c4, c5, c6, c7, c8, c9⟩ := tenz hms.rr
                              obtain ⟨d0, d1, d2, d3, d4, d5, d6, d7, d8, d9⟩ := tenz hms.res
                              have hf := fun i => thaw (i := i) hms.res
                              have hbel := hms.bel
                              clear hms
                              go_wp2
                              refine bodyPost_ret (v := .tuple #[.agg (zc (6 : Nat) (p : Int) (y : Int) (mo : Int) (d : Int) (h : Int) (m : Int) (ns : Int) zb off), .bool true]) (by simp [results, Try.results14, go_sem, d0, d1, d2, d3, d4, d5, d6, d7, d8, d9]) rfl ?_
                              exact ⟨.inl ⟨_, _, _, _, _, _, _, _, _, _, HK.out, rfl⟩, below_put10 hbel (Nat.le_refl _) _ _ _ _ _ _ _ _ _ _⟩
                            · have hms := HMZ.out.below hbm
                              have HN : Hid (NoDT s) := nodt_clock HFT.out (by omega) (by
                                rw [← HC.out]
                                rcases HZZ.out with ⟨a1, a2, a3, a4⟩ | ⟨k, a1, a2, a3, a4⟩
                                · exact noclock_time a1 (a2 ▸ hn)
                                · exact noclock_ztime a1 (a3 ▸ hn))
                              clear hn
                              obtain ⟨c0, c1, c2, c3, c4, c5, c6, c7, c8, c9⟩ := tenz hms.rr
                              obtain ⟨d0, d1, d2, d3, d4, d5, d6, d7, d8, d9⟩ := tenz hms.res
                              have hf := fun i => thaw (i := i) hms.res
                              have hbel := hms.bel
                              clear hms
                              go_wp2
                              refine bodyPost_ret (v := .tuple #[.agg (zc (6 : Int) (3 : Nat) (y : Int) (mo : Int) (d : Int) 0 0 0 zb off), .bool false]) (by simp [results, Try.results14, go_sem, d0, d1, d2, d3, d4, d5, d6, d7, d8, d9]) rfl ?_
                              exact ⟨.inr ⟨HN.out, _, _, _, _, _, _, _, _, _, _, rfl⟩, below_put10 hbel (Nat.le_refl _) _ _ _ _ _ _ _ _ _ _⟩
                      · have hpb : ((pr : Int) != 3) = true := bne_iff_ne.2 (by omega)
                        have HN : Hid (NoDT s) := nodt_prec HFT.out (HUE.out ▸ HDT.out) hp3 (by omega)
                        clear hp3
                        have hms := HM6.out
                        obtain ⟨c0, c1, c2, c3, c4, c5, c6, c7, c8, c9⟩ := tenz hms.rr
                        obtain ⟨d0, d1, d2, d3, d4, d5, d6, d7, d8, d9⟩ := tenz hms.res
                        have hf := fun i => thaw (i := i) hms.res
                        have hbel := hms.bel
                        clear hms
                        go_wp2
                        refine bodyPost_ret (v := .tuple #[.agg (zc (6 : Nat) (pr : Int) (y : Int) (mo : Int) (d : Int) (0 : Nat) (0 : Nat) (0 : Nat) false 0), .bool false]) (by simp [results, Try.results14, go_sem, d0, d1, d2, d3, d4, d5, d6, d7, d8, d9]) rfl ?_
                        exact ⟨.inr ⟨HN.out, _, _, _, _, _, _, _, _, _, _, rfl⟩, below_put10 hbel (Nat.le_refl _) _ _ _ _ _ _ _ _ _ _⟩
        · have hb : decide (¬ (u.size = 4 ∨ u.size = 7 ∨ u.size = 10)) = true := decide_eq_true hsz
          have HN : Hid (NoDT s) := HND.out (by
            rintro pr y mo d ⟨_, _, _, ⟨e, _⟩ | ⟨_, _, _, _, _, ⟨e, _⟩ | ⟨e, _⟩⟩⟩ <;> omega)
          rw [hb]
          clear hb
          have hms := HMS.out
          obtain ⟨c0, c1, c2, c3, c4, c5, c6, c7, c8, c9⟩ := tenz hms.rr
          obtain ⟨d0, d1, d2, d3, d4, d5, d6, d7, d8, d9⟩ := tenz hms.res
          have hf := fun i => thaw (i := i) hms.res
          have hbel := hms.bel
          clear hms
          go_wp2
          refine bodyPost_ret (v := .tuple #[.agg (zc 0 0 0 0 0 0 0 0 false 0), .bool false]) (by simp [results, Try.results14, go_sem, d0, d1, d2, d3, d4, d5, d6, d7, d8, d9]) rfl ?_
          exact ⟨.inr ⟨HN.out, _, _, _, _, _, _, _, _, _, _, rfl⟩, below_put10 hbel (Nat.le_refl _) _ _ _ _ _ _ _ _ _ _⟩

end Go.Proofs.Qxb6600803a
