import Derived.Test.Qxb6600803aW8
import Derived.Test.Qxb6600803aW5
import Derived.BigRegion
import Derived.BigQuiet
namespace Go.Proofs.Qxb6600803a
open Go.RowKit

/-- The world in parseDateTime: the result's block B, t in the next. -/
structure PS (B : Nat) (w wx : World) (kd pr y mo d h m ns : Int) (z : Bool) (off : Int) : Prop where
  res : wx.heap[B]? = some (.cells (tc 0 0 0 0 0 0 0 0 false 0) 38)
  tt : wx.heap[B + 1]? = some (.cells (tc kd pr y mo d h m ns z off) 38)
  bel : Below B w wx
  lt : B + 1 < wx.heap.size

theorem PS.below {B : Nat} {w wx w' : World} {kd pr y mo d h m ns : Int} {z : Bool} {off : Int} (H : PS B w wx kd pr y mo d h m ns z off) (hb : Below wx.heap.size wx w') : PS B w w' kd pr y mo d h m ns z off :=
  have := H.lt
  ⟨(hb.block _ (by omega)).trans H.res, (hb.block _ (by omega)).trans H.tt, H.bel.trans (hb.mono (by omega)), Nat.lt_of_lt_of_le H.lt hb.size⟩

theorem PS.set {B : Nat} {w wx : World} {kd pr y mo d h m ns kd' pr' y' mo' d' h' m' ns' : Int} {z z' : Bool} {off off' : Int} (H : PS B w wx kd pr y mo d h m ns z off) (i : Nat) (v : Value) (hv : (tc kd pr y mo d h m ns z off).setIfInBounds i v = tc kd' pr' y' mo' d' h' m' ns' z' off') :
    PS B w (wx.setCell ⟨B + 1, i, none⟩ v) kd' pr' y' mo' d' h' m' ns' z' off' :=
  ⟨(Below.heap_setCell _ _ _ _ (by simp only; omega)).trans H.res, by rw [set_heap H.tt, hv], H.bel.setCell (by simp only; omega) _, by rw [size_set]; exact H.lt⟩

theorem PS.drew {B : Nat} {w wx : World} {kd pr y mo d h m ns : Int} {z : Bool} {off : Int} (H : PS B w wx kd pr y mo d h m ns z off) : PS B w wx.drew kd pr y mo d h m ns z off :=
  H.below (Below.refl _ _).drew

/-- In the loop: the parts' block P, then the limits, then the places. -/
structure LS (B P : Nat) (w wx : World) (p0 p1 p2 : ByteArray) (pr y mo d : Int) : Prop where
  ps : PS B w wx 5 pr y mo d 0 0 0 false 0
  pp : wx.heap[P]? = some (.cells #[.string p0, .string p1, .string p2] 47)
  ll : wx.heap[P + 1]? = some (.cells #[.int .i64 0, .int .i64 9999, .int .i64 1, .int .i64 12, .int .i64 1, .int .i64 31] 55)
  vv : wx.heap[P + 1 + 1]? = some (.cells #[.pointer (some ⟨B + 1, 2, none⟩), .pointer (some ⟨B + 1, 3, none⟩), .pointer (some ⟨B + 1, 4, none⟩)] 57)
  lt : P + 1 + 1 < wx.heap.size

theorem LS.below {B P : Nat} {w wx w' : World} {p0 p1 p2 : ByteArray} {pr y mo d : Int} (H : LS B P w wx p0 p1 p2 pr y mo d) (hb : Below wx.heap.size wx w') : LS B P w w' p0 p1 p2 pr y mo d :=
  have := H.lt
  ⟨H.ps.below hb, (hb.block _ (by omega)).trans H.pp, (hb.block _ (by omega)).trans H.ll, (hb.block _ (by omega)).trans H.vv, Nat.lt_of_lt_of_le H.lt hb.size⟩

theorem LS.set {B P : Nat} {w wx : World} {p0 p1 p2 : ByteArray} {pr y mo d pr' y' mo' d' : Int} (H : LS B P w wx p0 p1 p2 pr y mo d) (hP : B + 1 < P) (i : Nat) (v : Value) (hv : (tc 5 pr y mo d 0 0 0 false 0).setIfInBounds i v = tc 5 pr' y' mo' d' 0 0 0 false 0) :
    LS B P w (wx.setCell ⟨B + 1, i, none⟩ v) p0 p1 p2 pr' y' mo' d' :=
  ⟨H.ps.set i v hv, (Below.heap_setCell _ _ _ _ (by simp only; omega)).trans H.pp, (Below.heap_setCell _ _ _ _ (by simp only; omega)).trans H.ll, (Below.heap_setCell _ _ _ _ (by simp only; omega)).trans H.vv, by rw [size_set]; exact H.lt⟩

theorem six {w : World} {b : Nat} (hb : w.heap[b]? = some (.cells #[.int .i64 0, .int .i64 9999, .int .i64 1, .int .i64 12, .int .i64 1, .int .i64 31] 55)) :
    w.cell? ⟨b, 0, none⟩ = some (.int .i64 0) ∧ w.cell? ⟨b, 1, none⟩ = some (.int .i64 9999) ∧ w.cell? ⟨b, 2, none⟩ = some (.int .i64 1) ∧ w.cell? ⟨b, 3, none⟩ = some (.int .i64 12) ∧ w.cell? ⟨b, 4, none⟩ = some (.int .i64 1) ∧ w.cell? ⟨b, 5, none⟩ = some (.int .i64 31) := by
  unfold World.cell?
  simp only [hb]
  exact ⟨rfl, rfl, rfl, rfl, rfl, rfl⟩
theorem ptr3 {w : World} {b B : Nat} (hb : w.heap[b]? = some (.cells #[.pointer (some ⟨B + 1, 2, none⟩), .pointer (some ⟨B + 1, 3, none⟩), .pointer (some ⟨B + 1, 4, none⟩)] 57)) :
    w.cell? ⟨b, 0, none⟩ = some (.pointer (some ⟨B + 1, 2, none⟩)) ∧ w.cell? ⟨b, 1, none⟩ = some (.pointer (some ⟨B + 1, 3, none⟩)) ∧ w.cell? ⟨b, 2, none⟩ = some (.pointer (some ⟨B + 1, 4, none⟩)) := by
  unfold World.cell?
  simp only [hb]
  exact ⟨rfl, rfl, rfl⟩

/-- What parseDateTime answers. -/
def PD (s : ByteArray) (e : Ending) : Prop :=
  (∃ (kd pr y mo d h m ns : Nat) (z : Bool) (off : Int), DTOk s kd pr y mo d h m ns z off ∧ e = .returned (.tuple #[.agg (tc kd pr y mo d h m ns z off), .bool true])) ∨
  (NoDT s ∧ ∃ (kd pr y mo d h m ns : Int) (z : Bool) (off : Int), e = .returned (.tuple #[.agg (tc kd pr y mo d h m ns z off), .bool false]))

theorem hidP {p : Prop} (h : p) : Hid p := h

set_option maxRecDepth 100000 in
set_option maxHeartbeats 8000000 in
theorem parseDT_any (s : ByteArray) (w : World) (hs : s.size ≤ 1048576) :
    Calls Try.prog 22 #[.string s] w fun e w' => PD s e ∧ Below w.heap.size w w' := by
  go_enter Try.func22, Try.ntmps22
  go_wp2_with fail
  refine (cutT_any s _ hs).mono ?_
  rintro e w1 ⟨⟨u, c, b, hcut, rfl⟩, hb1⟩
  have hp1 : PS w.heap.size w w1 5 0 0 0 0 0 0 0 false 0 :=
    PS.below ⟨(two_new _ _ _).1, (two_new _ _ _).2, ((Below.refl _ _).alloc (Nat.le_refl _) _).alloc (by simp) _, by simp⟩ hb1
  have HP1 := hidP hp1
  clear hp1
  have hus : u.size ≤ 1048576 ∧ c.size ≤ 1048576 := by
    have e0 : E0.size = 0 := rfl
    rcases hcut with ⟨_, rfl, rfl, _⟩ | ⟨t, _, rfl, rfl, _⟩
    · omega
    · have := ext_size_le s 0 t; have := ext_size_le s (t + 1) s.size; omega
  have HND : Hid (NoDate u → NoDT s) := fun hh => by
    rcases hcut with ⟨h1, rfl, _⟩ | ⟨t, h1, rfl, _⟩
    · exact nodt_date h1 hh
    · exact nodt_dateT h1 hh
  obtain ⟨hu1, hc1⟩ := hus
  have HCUT := hidP hcut
  clear hcut
  go_wp2_with fail
  refine (fields_any u 45 45 rfl _ hu1).mono ?_
  rintro e w2 ⟨⟨p0, p1, p2, n, ok, hfa, rfl⟩, hb2⟩
  have hp2 := HP1.out.below hb2
  clear HP1
  have hz0 : w.heap.size < w2.heap.size := by have := hp2.lt; omega
  have hzP : w.heap.size + 1 < w2.heap.size := hp2.lt
  cases ok
  · have HN : Hid (NoDT s) := HND.out (nd3 hfa)
    clear hfa
    obtain ⟨c0, c1, c2, c3, c4, c5, c6, c7, c8, c9⟩ := ten hp2.tt
    obtain ⟨d0, d1, d2, d3, d4, d5, d6, d7, d8, d9⟩ := ten hp2.res
    have hf := fun i => thaw (i := i) hp2.res
    have hbel := hp2.bel
    clear hp2
    go_wp2
    refine bodyPost_ret (v := .tuple #[.agg (tc 5 0 0 0 0 0 0 0 false 0), .bool false]) (by simp [results, Try.results22, go_sem, d0, d1, d2, d3, d4, d5, d6, d7, d8, d9, hz0]) rfl ?_
    refine ⟨.inr ⟨HN.out, _, _, _, _, _, _, _, _, _, _, rfl⟩, ?_⟩
    exact (below_put10 hbel (Nat.le_refl _) _ _ _ _ _ _ _ _ _ _).alloc (Nat.le_of_lt (by simp only [put10, size_set]; exact hz0)) _
  · obtain ⟨nn, hnn, hn1, hn3⟩ : ∃ nn : Nat, n = nn ∧ 1 ≤ nn ∧ nn ≤ 3 := by
      rcases hfa with ⟨h, _⟩ | ⟨h, _⟩ | ⟨h, _⟩ | ⟨h, _⟩
      · exact ⟨1, h, by omega, by omega⟩
      · exact ⟨2, h, by omega, by omega⟩
      · exact ⟨3, h, by omega, by omega⟩
      · exact absurd h (by decide)
    subst hnn
    have hfs := FA_size (ok := true) hfa rfl
    obtain ⟨f0, f1, f2⟩ := hfs
    have HFA := hidP hfa
    clear hfa
    by_cases h4 : p0.size = 4
    · have b4 : ((p0.size : Int) != 4) = false := by rw [h4]; rfl
      have q1 : (0 : Int) ≤ (nn : Int) := by omega
      have q2 : (nn : Int) ≤ 3 := by omega
      have HP2 := hidP hp2
      have HLS : Hid (LS w.heap.size w2.heap.size w (((w2.alloc (.cells #[.string p0, .string p1, .string p2] 47)).alloc (.cells #[.int .i64 0, .int .i64 9999, .int .i64 1, .int .i64 12, .int .i64 1, .int .i64 31] 55)).alloc (.cells #[.pointer (some ⟨w.heap.size + 1, 2, none⟩), .pointer (some ⟨w.heap.size + 1, 3, none⟩), .pointer (some ⟨w.heap.size + 1, 4, none⟩)] 57)) p0 p1 p2 (0 : Nat) (0 : Nat) (0 : Nat) (0 : Nat)) := by
        have hl := hp2.lt
        refine ⟨hp2.below ((((Below.refl _ _).alloc (Nat.le_refl _) _).alloc (by simp) _).alloc (by simp; omega) _), ?_, ?_, ?_, by simp⟩
        · rw [Below.heap_alloc _ _ _ (by simp; omega)]; exact (two_new _ _ _).1
        · rw [Below.heap_alloc _ _ _ (by simp)]; exact (two_new _ _ _).2
        · have := one_new ((w2.alloc (.cells #[.string p0, .string p1, .string p2] 47)).alloc (.cells #[.int .i64 0, .int .i64 9999, .int .i64 1, .int .i64 12, .int .i64 1, .int .i64 31] 55)) (.cells #[.pointer (some ⟨w.heap.size + 1, 2, none⟩), .pointer (some ⟨w.heap.size + 1, 3, none⟩), .pointer (some ⟨w.heap.size + 1, 4, none⟩)] 57)
          simpa using this
      clear hp2 HP2
      go_wp2_with fail
      have H4 := hidP h4
      clear h4 b4
      go_loopg [54] 3 (fun g s54 wx => ∃ k pr y mo d : Nat, k + g = 3 ∧ k ≤ nn ∧ s54 = .int .i64 k ∧ DS p0 p1 p2 k pr y mo d ∧ LS w.heap.size w2.heap.size w wx p0 p1 p2 pr y mo d)
      case atStart => exact ⟨0, 0, 0, 0, 0, by omega, by omega, rfl, .inl ⟨rfl, rfl, rfl, rfl, rfl⟩, HLS.out⟩
      case round =>
        clear HLS
        obtain ⟨k, pr, y, mo, d, hkg, hkn, rfl, hds, hls⟩ := hrel
        obtain ⟨c0, c1, c2, c3, c4, c5, c6, c7, c8, c9⟩ := ten hls.ps.tt
        obtain ⟨e0, e1, e2⟩ := three hls.pp
        have HLS := hidP hls
        clear hls
        by_cases hlt : k < nn
        · have hltI : (k : Int) < (nn : Int) := by omega
          rcases hds with ⟨rfl, rfl, rfl, rfl, rfl⟩ | ⟨rfl, hp0, rfl, hy, rfl, rfl⟩ | ⟨rfl, hp0, hp1, rfl, hy, hmo, rfl⟩ | ⟨rfl, _⟩
          · go_wp2_with fail
            refine (digits_short p0 _ (by have := H4.out; omega)).mono ?_
            rintro e w3 ⟨rfl, hb3⟩
            have hls := HLS.out.below hb3
            clear HLS
            cases hd : digA p0
            · have HN : Hid (NoDT s) := HND.out (nd0 HFA.out (fun e => by have := e.2; rw [hd] at this; exact absurd this (by decide)))
              clear hd
              have hps := hls.ps
              obtain ⟨c0, c1, c2, c3, c4, c5, c6, c7, c8, c9⟩ := ten hps.tt
              obtain ⟨d0, d1, d2, d3, d4, d5, d6, d7, d8, d9⟩ := ten hps.res
              have hf := fun i => thaw (i := i) hps.res
              have hbel := hps.bel
              clear hls hps 
              go_wp2
              refine bodyPost_ret (v := .tuple #[.agg (tc 5 0 0 0 0 0 0 0 false 0), .bool false]) (by simp [results, Try.results22, go_sem, d0, d1, d2, d3, d4, d5, d6, d7, d8, d9]) rfl ?_
              exact ⟨.inr ⟨HN.out, _, _, _, _, _, _, _, _, _, _, rfl⟩, below_put10 hbel (Nat.le_refl _) _ _ _ _ _ _ _ _ _ _⟩
            · have hp4 : P4 p0 := ⟨H4.out, hd⟩
              have hv := p4_le hp4
              rw [show digV p0 = (valTo p0 4 : Int) from by rw [digV_yes hd, H4.out]]
              have HP4 := hidP hp4
              clear hp4 hd
              obtain ⟨c0, c1, c2, c3, c4, c5, c6, c7, c8, c9⟩ := ten hls.ps.tt
              obtain ⟨l0, l1, l2, l3, l4, l5⟩ := six hls.ll
              obtain ⟨v0, v1, v2⟩ := ptr3 hls.vv
              have hg := fun i => thaw (i := i) hls.ps.tt
              have hls1 := hls.set hzP 2 (.int .i64 (valTo p0 4 : Int)) (pr' := (0 : Nat)) (y' := (valTo p0 4 : Int)) (mo' := (0 : Nat)) (d' := (0 : Nat)) rfl
              have hls2 := hls1.set hzP 1 (.int .i64 1) (pr' := (1 : Nat)) (y' := (valTo p0 4 : Int)) (mo' := (0 : Nat)) (d' := (0 : Nat)) rfl
              have HLS2 := hidP hls2
              clear hls hls1 hls2
              go_wp2
              go_roundg 2
              case measure => omega
              case rel => exact ⟨1, 1, valTo p0 4, 0, 0, by omega, by omega, by go_num, .inr (.inl ⟨rfl, HP4.out, rfl, rfl, rfl, rfl⟩), HLS2.out⟩
          · have HP0 := hidP hp0
            clear hp0
            have HY := hidP hy
            clear hy
            by_cases h2 : p1.size = 2
            · have b2 : ((p1.size : Int) != 2) = false := by rw [h2]; rfl
              have H2 := hidP h2
              clear h2
              go_wp2_with fail
              refine (digits_short p1 _ (by have := H2.out; omega)).mono ?_
              rintro e w3 ⟨rfl, hb3⟩
              have hls := HLS.out.below hb3
              clear HLS
              cases hd : digA p1
              · have HN : Hid (NoDT s) := HND.out (nd1 HFA.out (by omega) (fun e => by have := e.1.1.2; rw [hd] at this; exact absurd this (by decide)))
                clear hd
                have hps := hls.ps
                obtain ⟨c0, c1, c2, c3, c4, c5, c6, c7, c8, c9⟩ := ten hps.tt
                obtain ⟨d0, d1, d2, d3, d4, d5, d6, d7, d8, d9⟩ := ten hps.res
                have hf := fun i => thaw (i := i) hps.res
                have hbel := hps.bel
                clear hls hps
                go_wp2
                refine bodyPost_ret (v := .tuple #[.agg (tc 5 (1 : Nat) (y : Int) (0 : Nat) (0 : Nat) 0 0 0 false 0), .bool false]) (by simp [results, Try.results22, go_sem, d0, d1, d2, d3, d4, d5, d6, d7, d8, d9]) rfl ?_
                exact ⟨.inr ⟨HN.out, _, _, _, _, _, _, _, _, _, _, rfl⟩, below_put10 hbel (Nat.le_refl _) _ _ _ _ _ _ _ _ _ _⟩
              · have hv99 : valTo p1 2 ≤ 99 := by
                  have := valTo_lt _ (AllD_of_digA hd); rw [H2.out] at this; omega
                rw [show digV p1 = (valTo p1 2 : Int) from by rw [digV_yes hd, H2.out]]
                have HD := hidP hd
                clear hd
                obtain ⟨c0, c1, c2, c3, c4, c5, c6, c7, c8, c9⟩ := ten hls.ps.tt
                obtain ⟨l0, l1, l2, l3, l4, l5⟩ := six hls.ll
                obtain ⟨v0, v1, v2⟩ := ptr3 hls.vv
                by_cases g1 : 1 ≤ valTo p1 2
                · by_cases g2 : valTo p1 2 ≤ 12
                  · have HQ : Hid (Q2 p1 12) := ⟨⟨⟨H2.out, HD.out⟩, g2⟩, g1⟩
                    have hg := fun i => thaw (i := i) hls.ps.tt
                    have hls1 := hls.set hzP 3 (.int .i64 (valTo p1 2 : Int)) (pr' := (1 : Nat)) (y' := y) (mo' := (valTo p1 2 : Int)) (d' := (0 : Nat)) rfl
                    have hls2 := hls1.set hzP 1 (.int .i64 2) (pr' := (2 : Nat)) (y' := y) (mo' := (valTo p1 2 : Int)) (d' := (0 : Nat)) rfl
                    have HLS2 := hidP hls2
                    clear hls hls1 hls2
                    go_wp2
                    go_roundg 1
                    case measure => omega
                    case rel => exact ⟨2, 2, y, valTo p1 2, 0, by omega, by omega, by go_num, .inr (.inr (.inl ⟨rfl, HP0.out, HQ.out, rfl, HY.out, rfl, rfl⟩)), HLS2.out⟩
                  · have HN : Hid (NoDT s) := HND.out (nd1 HFA.out (by omega) (fun e => g2 e.1.2))
                    have hps := hls.ps
                    clear c0 c1 c2 c3 c4 c5 c6 c7 c8 c9
                    obtain ⟨c0, c1, c2, c3, c4, c5, c6, c7, c8, c9⟩ := ten hps.tt
                    obtain ⟨d0, d1, d2, d3, d4, d5, d6, d7, d8, d9⟩ := ten hps.res
                    have hf := fun i => thaw (i := i) hps.res
                    have hbel := hps.bel
                    clear hls hps
                    go_wp2
                    refine bodyPost_ret (v := .tuple #[.agg (tc 5 (1 : Nat) (y : Int) (0 : Nat) (0 : Nat) 0 0 0 false 0), .bool false]) (by simp [results, Try.results22, go_sem, d0, d1, d2, d3, d4, d5, d6, d7, d8, d9]) rfl ?_
                    exact ⟨.inr ⟨HN.out, _, _, _, _, _, _, _, _, _, _, rfl⟩, below_put10 hbel (Nat.le_refl _) _ _ _ _ _ _ _ _ _ _⟩
                · have HN : Hid (NoDT s) := HND.out (nd1 HFA.out (by omega) (fun e => g1 e.2))
                  have hps := hls.ps
                  clear c0 c1 c2 c3 c4 c5 c6 c7 c8 c9
                  obtain ⟨c0, c1, c2, c3, c4, c5, c6, c7, c8, c9⟩ := ten hps.tt
                  obtain ⟨d0, d1, d2, d3, d4, d5, d6, d7, d8, d9⟩ := ten hps.res
                  have hf := fun i => thaw (i := i) hps.res
                  have hbel := hps.bel
                  clear hls hps
                  go_wp2
                  refine bodyPost_ret (v := .tuple #[.agg (tc 5 (1 : Nat) (y : Int) (0 : Nat) (0 : Nat) 0 0 0 false 0), .bool false]) (by simp [results, Try.results22, go_sem, d0, d1, d2, d3, d4, d5, d6, d7, d8, d9]) rfl ?_
                  exact ⟨.inr ⟨HN.out, _, _, _, _, _, _, _, _, _, _, rfl⟩, below_put10 hbel (Nat.le_refl _) _ _ _ _ _ _ _ _ _ _⟩
            · have b2 : ((p1.size : Int) != 2) = true := bne_iff_ne.2 (by omega)
              have HN : Hid (NoDT s) := HND.out (nd1 HFA.out (by omega) (fun e => h2 e.1.1.1))
              clear h2
              go_wp2_with fail
              refine (digits_long p1 _ (by omega)).mono ?_
              rintro e w3 ⟨⟨v, rfl⟩, hb3⟩
              have hls := HLS.out.below hb3
              clear HLS
              have hps := hls.ps
              cases hd : digA p1
              · clear hd
                obtain ⟨c0, c1, c2, c3, c4, c5, c6, c7, c8, c9⟩ := ten hps.tt
                obtain ⟨d0, d1, d2, d3, d4, d5, d6, d7, d8, d9⟩ := ten hps.res
                have hf := fun i => thaw (i := i) hps.res
                have hbel := hps.bel
                clear hls hps
                go_wp2
                refine bodyPost_ret (v := .tuple #[.agg (tc 5 (1 : Nat) (y : Int) (0 : Nat) (0 : Nat) 0 0 0 false 0), .bool false]) (by simp [results, Try.results22, go_sem, d0, d1, d2, d3, d4, d5, d6, d7, d8, d9]) rfl ?_
                exact ⟨.inr ⟨HN.out, _, _, _, _, _, _, _, _, _, _, rfl⟩, below_put10 hbel (Nat.le_refl _) _ _ _ _ _ _ _ _ _ _⟩
              · clear hd
                obtain ⟨c0, c1, c2, c3, c4, c5, c6, c7, c8, c9⟩ := ten hps.tt
                obtain ⟨d0, d1, d2, d3, d4, d5, d6, d7, d8, d9⟩ := ten hps.res
                have hf := fun i => thaw (i := i) hps.res
                have hbel := hps.bel
                clear hls hps
                go_wp2
                refine bodyPost_ret (v := .tuple #[.agg (tc 5 (1 : Nat) (y : Int) (0 : Nat) (0 : Nat) 0 0 0 false 0), .bool false]) (by simp [results, Try.results22, go_sem, d0, d1, d2, d3, d4, d5, d6, d7, d8, d9]) rfl ?_
                exact ⟨.inr ⟨HN.out, _, _, _, _, _, _, _, _, _, _, rfl⟩, below_put10 hbel (Nat.le_refl _) _ _ _ _ _ _ _ _ _ _⟩
          · have HP0 := hidP hp0
            clear hp0
            have HP1 := hidP hp1
            have HY := hidP (And.intro hy hmo)
            clear hp1 hy hmo
            by_cases h2 : p2.size = 2
            · have b2 : ((p2.size : Int) != 2) = false := by rw [h2]; rfl
              have H2 := hidP h2
              clear h2
              go_wp2_with fail
              refine (digits_short p2 _ (by have := H2.out; omega)).mono ?_
              rintro e w3 ⟨rfl, hb3⟩
              have hls := HLS.out.below hb3
              clear HLS
              cases hd : digA p2
              · have HN : Hid (NoDT s) := HND.out (nd2 HFA.out (by omega) (fun e => by have := e.1.1.2; rw [hd] at this; exact absurd this (by decide)))
                clear hd
                have hps := hls.ps
                obtain ⟨c0, c1, c2, c3, c4, c5, c6, c7, c8, c9⟩ := ten hps.tt
                obtain ⟨d0, d1, d2, d3, d4, d5, d6, d7, d8, d9⟩ := ten hps.res
                have hf := fun i => thaw (i := i) hps.res
                have hbel := hps.bel
                clear hls hps
                go_wp2
                refine bodyPost_ret (v := .tuple #[.agg (tc 5 (2 : Nat) (y : Int) (mo : Int) (0 : Nat) 0 0 0 false 0), .bool false]) (by simp [results, Try.results22, go_sem, d0, d1, d2, d3, d4, d5, d6, d7, d8, d9]) rfl ?_
                exact ⟨.inr ⟨HN.out, _, _, _, _, _, _, _, _, _, _, rfl⟩, below_put10 hbel (Nat.le_refl _) _ _ _ _ _ _ _ _ _ _⟩
              · have hv99 : valTo p2 2 ≤ 99 := by
                  have := valTo_lt _ (AllD_of_digA hd); rw [H2.out] at this; omega
                rw [show digV p2 = (valTo p2 2 : Int) from by rw [digV_yes hd, H2.out]]
                have HD := hidP hd
                clear hd
                obtain ⟨c0, c1, c2, c3, c4, c5, c6, c7, c8, c9⟩ := ten hls.ps.tt
                obtain ⟨l0, l1, l2, l3, l4, l5⟩ := six hls.ll
                obtain ⟨v0, v1, v2⟩ := ptr3 hls.vv
                by_cases g1 : 1 ≤ valTo p2 2
                · by_cases g2 : valTo p2 2 ≤ 31
                  · have HQ : Hid (Q2 p2 31) := ⟨⟨⟨H2.out, HD.out⟩, g2⟩, g1⟩
                    have hg := fun i => thaw (i := i) hls.ps.tt
                    have hls1 := hls.set hzP 4 (.int .i64 (valTo p2 2 : Int)) (pr' := (2 : Nat)) (y' := y) (mo' := mo) (d' := (valTo p2 2 : Int)) rfl
                    have hls2 := hls1.set hzP 1 (.int .i64 3) (pr' := (3 : Nat)) (y' := y) (mo' := mo) (d' := (valTo p2 2 : Int)) rfl
                    have HLS2 := hidP hls2
                    clear hls hls1 hls2
                    go_wp2
                    go_roundg 0
                    case measure => omega
                    case rel => exact ⟨3, 3, y, mo, valTo p2 2, by omega, by omega, by go_num, .inr (.inr (.inr ⟨rfl, HP0.out, HP1.out, HQ.out, rfl, HY.out.1, HY.out.2, rfl⟩)), HLS2.out⟩
                  · have HN : Hid (NoDT s) := HND.out (nd2 HFA.out (by omega) (fun e => g2 e.1.2))
                    have hps := hls.ps
                    clear c0 c1 c2 c3 c4 c5 c6 c7 c8 c9
                    obtain ⟨c0, c1, c2, c3, c4, c5, c6, c7, c8, c9⟩ := ten hps.tt
                    obtain ⟨d0, d1, d2, d3, d4, d5, d6, d7, d8, d9⟩ := ten hps.res
                    have hf := fun i => thaw (i := i) hps.res
                    have hbel := hps.bel
                    clear hls hps
                    go_wp2
                    refine bodyPost_ret (v := .tuple #[.agg (tc 5 (2 : Nat) (y : Int) (mo : Int) (0 : Nat) 0 0 0 false 0), .bool false]) (by simp [results, Try.results22, go_sem, d0, d1, d2, d3, d4, d5, d6, d7, d8, d9]) rfl ?_
                    exact ⟨.inr ⟨HN.out, _, _, _, _, _, _, _, _, _, _, rfl⟩, below_put10 hbel (Nat.le_refl _) _ _ _ _ _ _ _ _ _ _⟩
                · have HN : Hid (NoDT s) := HND.out (nd2 HFA.out (by omega) (fun e => g1 e.2))
                  have hps := hls.ps
                  clear c0 c1 c2 c3 c4 c5 c6 c7 c8 c9
                  obtain ⟨c0, c1, c2, c3, c4, c5, c6, c7, c8, c9⟩ := ten hps.tt
                  obtain ⟨d0, d1, d2, d3, d4, d5, d6, d7, d8, d9⟩ := ten hps.res
                  have hf := fun i => thaw (i := i) hps.res
                  have hbel := hps.bel
                  clear hls hps
                  go_wp2
                  refine bodyPost_ret (v := .tuple #[.agg (tc 5 (2 : Nat) (y : Int) (mo : Int) (0 : Nat) 0 0 0 false 0), .bool false]) (by simp [results, Try.results22, go_sem, d0, d1, d2, d3, d4, d5, d6, d7, d8, d9]) rfl ?_
                  exact ⟨.inr ⟨HN.out, _, _, _, _, _, _, _, _, _, _, rfl⟩, below_put10 hbel (Nat.le_refl _) _ _ _ _ _ _ _ _ _ _⟩
            · have b2 : ((p2.size : Int) != 2) = true := bne_iff_ne.2 (by omega)
              have HN : Hid (NoDT s) := HND.out (nd2 HFA.out (by omega) (fun e => h2 e.1.1.1))
              clear h2
              go_wp2_with fail
              refine (digits_long p2 _ (by omega)).mono ?_
              rintro e w3 ⟨⟨v, rfl⟩, hb3⟩
              have hls := HLS.out.below hb3
              clear HLS
              have hps := hls.ps
              cases hd : digA p2
              · clear hd
                obtain ⟨c0, c1, c2, c3, c4, c5, c6, c7, c8, c9⟩ := ten hps.tt
                obtain ⟨d0, d1, d2, d3, d4, d5, d6, d7, d8, d9⟩ := ten hps.res
                have hf := fun i => thaw (i := i) hps.res
                have hbel := hps.bel
                clear hls hps
                go_wp2
                refine bodyPost_ret (v := .tuple #[.agg (tc 5 (2 : Nat) (y : Int) (mo : Int) (0 : Nat) 0 0 0 false 0), .bool false]) (by simp [results, Try.results22, go_sem, d0, d1, d2, d3, d4, d5, d6, d7, d8, d9]) rfl ?_
                exact ⟨.inr ⟨HN.out, _, _, _, _, _, _, _, _, _, _, rfl⟩, below_put10 hbel (Nat.le_refl _) _ _ _ _ _ _ _ _ _ _⟩
              · clear hd
                obtain ⟨c0, c1, c2, c3, c4, c5, c6, c7, c8, c9⟩ := ten hps.tt
                obtain ⟨d0, d1, d2, d3, d4, d5, d6, d7, d8, d9⟩ := ten hps.res
                have hf := fun i => thaw (i := i) hps.res
                have hbel := hps.bel
                clear hls hps
                go_wp2
                refine bodyPost_ret (v := .tuple #[.agg (tc 5 (2 : Nat) (y : Int) (mo : Int) (0 : Nat) 0 0 0 false 0), .bool false]) (by simp [results, Try.results22, go_sem, d0, d1, d2, d3, d4, d5, d6, d7, d8, d9]) rfl ?_
                exact ⟨.inr ⟨HN.out, _, _, _, _, _, _, _, _, _, _, rfl⟩, below_put10 hbel (Nat.le_refl _) _ _ _ _ _ _ _ _ _ _⟩
          · omega
        · obtain rfl : k = nn := by omega
          clear c0 c1 c2 c3 c4 c5 c6 c7 c8 c9 e0 e1 e2
          have hy9 : y ≤ 9999 := by
            rcases hds with ⟨_, _, e, _⟩ | ⟨_, e0, _, e, _⟩ | ⟨_, e0, _, _, e, _⟩ | ⟨_, e0, _, _, _, e, _⟩
            · omega
            · have := p4_le e0; omega
            · have := p4_le e0; omega
            · have := p4_le e0; omega
          have HOK : Hid ((pr = 3 → d ≤ dim y mo) → DateOk u pr y mo d) := fun hh => dok HFA.out hn1 hds hh
          have hps := HLS.out.ps
          clear HLS
          by_cases h3 : pr = 3
          · subst h3
            have HN4 : Hid (¬ d ≤ dim y mo → NoDT s) := fun hh => HND.out (nd4 HFA.out hn1 hds hh)
            obtain ⟨m1, m12⟩ : 1 ≤ mo ∧ mo ≤ 12 := by
              rcases hds with ⟨_, e, _⟩ | ⟨_, _, e, _⟩ | ⟨_, _, _, e, _⟩ | ⟨_, _, e, _, _, _, e2, _⟩
              · omega
              · omega
              · omega
              · have := e.1.2; have := e.2; omega
            have hd31 : d ≤ 31 := by
              rcases hds with ⟨_, e, _⟩ | ⟨_, _, e, _⟩ | ⟨_, _, _, e, _⟩ | ⟨_, _, _, e, _, _, _, e2⟩
              · omega
              · omega
              · omega
              · have := e.1.2; omega
            clear hds
            obtain ⟨c0, c1, c2, c3, c4, c5, c6, c7, c8, c9⟩ := ten hps.tt
            have HPS := hidP hps
            clear hps
            have hdl := dim_le y mo
            go_wp2_with fail
            go_quiet ((go_at_call 27; exact Calls.quiet_of_same (daysIn_any y mo _ hy9 m1 m12)))
            have hps := HPS.out.below (below_drewN (Below.refl _ _) nq)
            clear c0 c1 c2 c3 c4 c5 c6 c7 c8 c9 HPS
            generalize wr.drewN nq = w5 at hps ⊢
            by_cases hdd : d ≤ dim y mo
            · have HDT : Hid (DateOk u 3 y mo d) := HOK.out (fun _ => hdd)
              go_upto_region 19 with fail
              clear hdd
              rcases HCUT.out with ⟨h1, hu, hc, rfl⟩ | ⟨t, h1, hu, hc, rfl⟩
              · have HK : Hid (DTOk s (5 : Nat) (3 : Nat) y mo d (0 : Nat) (0 : Nat) (0 : Nat) false 0) := .inl ⟨h1, hu ▸ HDT.out, rfl, rfl, rfl, rfl, rfl, rfl⟩
                clear h1 hu hc
                obtain ⟨c0, c1, c2, c3, c4, c5, c6, c7, c8, c9⟩ := ten hps.tt
                obtain ⟨d0, d1, d2, d3, d4, d5, d6, d7, d8, d9⟩ := ten hps.res
                have hf := fun i => thaw (i := i) hps.res
                have hbel := hps.bel
                clear hps
                go_wp2
                refine bodyPost_ret (v := .tuple #[.agg (tc (5 : Nat) (3 : Nat) (y : Int) (mo : Int) (d : Int) (0 : Nat) (0 : Nat) (0 : Nat) false 0), .bool true]) (by simp [results, Try.results22, go_sem, d0, d1, d2, d3, d4, d5, d6, d7, d8, d9]) rfl ?_
                exact ⟨.inl ⟨_, _, _, _, _, _, _, _, _, _, HK.out, rfl⟩, below_put10 hbel (Nat.le_refl _) _ _ _ _ _ _ _ _ _ _⟩
              · have hcs : c.size = s.size - (t + 1) := by rw [hc]; simp
                have HF := hidP h1
                have HU := hidP hu
                have HC := hidP hc
                have ht := h1.1
                clear h1 hu hc
                have hps1 := hps.set 0 (.int .u8 6) (kd' := 6) (pr' := (3 : Nat)) (y' := y) (mo' := mo) (d' := d) (h' := 0) (m' := 0) (ns' := 0) (z' := false) (off' := 0) rfl
                obtain ⟨c0, c1, c2, c3, c4, c5, c6, c7, c8, c9⟩ := ten hps.tt
                have hg := fun i => thaw (i := i) hps.tt
                have HPS := hidP hps1
                clear hps hps1
                go_upto_region 24 with fail
                clear c0 c1 c2 c3 c4 c5 c6 c7 c8 c9 hg
                generalize w5.setCell ⟨w.heap.size + 1, 0, none⟩ (.int .u8 6) = w6 at HPS ⊢
                by_cases he : c.size = 0
                · have hcb : (c.toList == []) = true := by
                    have e : c.data.toList = [] := List.eq_nil_of_length_eq_zero (by rw [list_len]; exact he)
                    rw [Lib.toList_data, e]; rfl
                  have HK : Hid (DTOk s (6 : Nat) (3 : Nat) y mo d (0 : Nat) (0 : Nat) (0 : Nat) false 0) := .inr ⟨t, 3, HF.out, HU.out ▸ HDT.out, rfl, .inl ⟨by omega, rfl, rfl, rfl, rfl, rfl, rfl⟩⟩
                  clear hcs he
                  have hps := HPS.out
                  clear HPS
                  obtain ⟨c0, c1, c2, c3, c4, c5, c6, c7, c8, c9⟩ := ten hps.tt
                  obtain ⟨d0, d1, d2, d3, d4, d5, d6, d7, d8, d9⟩ := ten hps.res
                  have hf := fun i => thaw (i := i) hps.res
                  have hbel := hps.bel
                  clear hps
                  go_wp2
                  refine bodyPost_ret (v := .tuple #[.agg (tc (6 : Nat) (3 : Nat) (y : Int) (mo : Int) (d : Int) (0 : Nat) (0 : Nat) (0 : Nat) false 0), .bool true]) (by simp [results, Try.results22, go_sem, d0, d1, d2, d3, d4, d5, d6, d7, d8, d9]) rfl ?_
                  exact ⟨.inl ⟨_, _, _, _, _, _, _, _, _, _, HK.out, rfl⟩, below_put10 hbel (Nat.le_refl _) _ _ _ _ _ _ _ _ _ _⟩
                · have hcb : (c.toList == []) = false := by
                    rw [Lib.toList_data]
                    exact beq_eq_false_iff_ne.2 (fun e => he (by rw [← list_len, e]; rfl))
                  have ht1 : t + 1 < s.size := by omega
                  clear hcs
                  go_wp2_with fail
                  refine (offsetAt_any c _ hc1).mono ?_
                  rintro e w7 ⟨hz, hw⟩
                  rw [hw]
                  clear hw w7
                  obtain ⟨zp, rfl, hzp⟩ : ∃ zp : Int, e = .returned (.int .i64 zp) ∧ ((zp = -1 ∧ NoZone c) ∨ ∃ z : Nat, zp = z ∧ ZoneAt c z) := by
                    rcases hz with ⟨h, rfl⟩ | ⟨z, h, rfl⟩
                    · exact ⟨_, rfl, .inl ⟨rfl, h⟩⟩
                    · exact ⟨_, rfl, .inr ⟨z, rfl, h⟩⟩
                  have HZP := hidP hzp
                  clear hzp hz
                  go_upto_if 136 with fail
                  go_cut [6, 18, 19, 136] from 137 to 152 (fun s6 _ _ _ wc => ∃ (v : ByteArray) (zb : Bool) (off : Int), s6 = .string v ∧ v.size ≤ 1048576 ∧ PS w.heap.size w wc 6 (3 : Nat) y mo d 0 0 0 zb off ∧ ((NoZone c ∧ v = c ∧ zb = false ∧ off = 0) ∨ (∃ k, ZoneAt c k ∧ OffOk (c.extract k c.size) off ∧ v = c.extract 0 k ∧ zb = true)))
                  case first =>
                    rcases HZP.out with ⟨rfl, hnz⟩ | ⟨z, rfl, hz⟩
                    · have HNZ := hidP hnz
                      clear hnz
                      go_wp2
                      go_meet
                      case rel => exact ⟨c, false, 0, rfl, hc1, HPS.out, .inl ⟨HNZ.out, rfl, rfl, rfl⟩⟩
                    · have q3 : (z : Int) ≤ (c.size : Int) := by have := hz.1; omega
                      have HZ := hidP hz
                      have o1 : 0 < (c.extract z c.size).size := by have := hz.1; simp; omega
                      have o2 := ext_size_le c z c.size
                      have hv := ext_size_le c 0 z
                      clear hz
                      go_wp2_with fail
                      refine (parseOffset_any (c.extract z c.size) _ (by omega) o1).mono ?_
                      rintro e w8 ⟨⟨o, ho, rfl⟩ | ⟨hn, o, rfl⟩, hb8⟩
                      · have HO := hidP ho
                        clear ho
                        have hps := HPS.out.below hb8
                        clear HPS hb8
                        have hps1 := hps.set 8 (.bool true) (kd' := 6) (pr' := (3 : Nat)) (y' := y) (mo' := mo) (d' := d) (h' := 0) (m' := 0) (ns' := 0) (z' := true) (off' := 0) rfl
                        have hps2 := hps1.set 9 (.int .i64 o) (kd' := 6) (pr' := (3 : Nat)) (y' := y) (mo' := mo) (d' := d) (h' := 0) (m' := 0) (ns' := 0) (z' := true) (off' := o) rfl
                        obtain ⟨c0, c1, c2, c3, c4, c5, c6, c7, c8, c9⟩ := ten hps.tt
                        have hg := fun i => thaw (i := i) hps.tt
                        have HPS2 := hidP hps2
                        clear hps hps1 hps2
                        go_wp2_with fail
                        go_region
                        go_wp2
                        go_meet
                        case rel => exact ⟨_, true, o, rfl, by omega, HPS2.out.drew, .inr ⟨z, HZ.out, HO.out, rfl, rfl⟩⟩
                      · have HN : Hid (NoDT s) := nodt_clock HF.out (by omega) (by
                          rw [← HC.out]
                          exact noclock_off HZ.out hn)
                        clear hn
                        have hps := HPS.out.below hb8
                        clear HPS hb8
                        obtain ⟨c0, c1, c2, c3, c4, c5, c6, c7, c8, c9⟩ := ten hps.tt
                        obtain ⟨d0, d1, d2, d3, d4, d5, d6, d7, d8, d9⟩ := ten hps.res
                        have hf := fun i => thaw (i := i) hps.res
                        have hbel := hps.bel
                        clear hps
                        go_wp2
                        refine bodyPost_ret (v := .tuple #[.agg (tc 6 (3 : Nat) (y : Int) (mo : Int) (d : Int) 0 0 0 false 0), .bool false]) (by simp [results, Try.results22, go_sem, d0, d1, d2, d3, d4, d5, d6, d7, d8, d9]) rfl ?_
                        exact ⟨.inr ⟨HN.out, _, _, _, _, _, _, _, _, _, _, rfl⟩, below_put10 hbel (Nat.le_refl _) _ _ _ _ _ _ _ _ _ _⟩
                  case rest =>
                    obtain ⟨v, zb, off, rfl, hv, hps, hz⟩ := hcut
                    have HPS1 := hidP hps
                    have HZZ := hidP hz
                    clear hps hz HPS
                    go_wp2_with fail
                    refine (parseTime_any v _ hv).mono ?_
                    rintro e w8 ⟨⟨pt, h, m, ns, hk, rfl⟩ | ⟨hn, q1, q2, q3, q4, rfl⟩, hb8⟩
                    · have HK : Hid (DTOk s (6 : Nat) pt y mo d h m ns zb off) := .inr ⟨t, 3, HF.out, HU.out ▸ HDT.out, rfl, .inr ⟨ht1, rfl, by
                        rw [← HC.out]
                        rcases HZZ.out with ⟨a1, a2, a3, a4⟩ | ⟨k, a1, a2, a3, a4⟩
                        · exact .inl ⟨a1, a2 ▸ hk, a3, a4⟩
                        · exact .inr ⟨k, a1, a2, a3 ▸ hk, a4⟩⟩⟩
                      clear hk
                      have hps := HPS1.out.below hb8
                      have hlt8 := hps.lt
                      clear HPS1 hb8
                      have hpn := hps.below ((Below.refl _ _).alloc (Nat.le_refl _) (.cells (tc 7 pt 0 0 0 h m ns false 0) 38))
                      have hcn := one_new w8 (.cells (tc 7 pt 0 0 0 h m ns false 0) 38)
                      have HPN := hidP hpn
                      have HCN := hidP hcn
                      clear hps hpn hcn
                      go_wp2_with fail
                      generalize w8.alloc (.cells (tc 7 pt 0 0 0 h m ns false 0) 38) = w9 at HPN HCN ⊢
                      have hps := HPN.out
                      obtain ⟨x0, x1, x2, x3, x4, x5, x6, x7, x8, x9⟩ := ten HCN.out
                      have hne : ¬ w8.heap.size = w.heap.size + 1 := by omega
                      have hma := hps.set 5 (.int .i64 (h : Int)) (kd' := 6) (pr' := (3 : Nat)) (y' := y) (mo' := mo) (d' := d) (h' := h) (m' := 0) (ns' := 0) (z' := zb) (off' := off) rfl
                      have hmb := hma.set 6 (.int .i64 (m : Int)) (kd' := 6) (pr' := (3 : Nat)) (y' := y) (mo' := mo) (d' := d) (h' := h) (m' := m) (ns' := 0) (z' := zb) (off' := off) rfl
                      have hmc := hmb.set 7 (.int .i64 (ns : Int)) (kd' := 6) (pr' := (3 : Nat)) (y' := y) (mo' := mo) (d' := d) (h' := h) (m' := m) (ns' := ns) (z' := zb) (off' := off) rfl
                      have hmd := hmc.set 1 (.int .i64 (pt : Int)) (kd' := 6) (pr' := pt) (y' := y) (mo' := mo) (d' := d) (h' := h) (m' := m) (ns' := ns) (z' := zb) (off' := off) rfl
                      obtain ⟨c0, c1, c2, c3, c4, c5, c6, c7, c8, c9⟩ := ten hps.tt
                      have hg := fun i => thaw (i := i) hps.tt
                      have HMD := hidP hmd.drew
                      clear hps hma hmb hmc hmd
                      go_region
                      clear c0 c1 c2 c3 c4 c5 c6 c7 c8 c9 hg x0 x1 x2 x3 x4 x5 x6 x7 x8 x9
                      generalize ((((w9.setCell ⟨w.heap.size + 1, 5, none⟩ (.int .i64 (h : Int))).setCell ⟨w.heap.size + 1, 6, none⟩ (.int .i64 (m : Int))).setCell ⟨w.heap.size + 1, 7, none⟩ (.int .i64 (ns : Int))).setCell ⟨w.heap.size + 1, 1, none⟩ (.int .i64 (pt : Int))).drew = wz at HMD ⊢
                      have hps := HMD.out
                      clear HMD
                      obtain ⟨c0, c1, c2, c3, c4, c5, c6, c7, c8, c9⟩ := ten hps.tt
                      obtain ⟨d0, d1, d2, d3, d4, d5, d6, d7, d8, d9⟩ := ten hps.res
                      have hf := fun i => thaw (i := i) hps.res
                      have hbel := hps.bel
                      clear hps
                      go_wp2
                      refine bodyPost_ret (v := .tuple #[.agg (tc (6 : Nat) (pt : Int) (y : Int) (mo : Int) (d : Int) (h : Int) (m : Int) (ns : Int) zb off), .bool true]) (by simp [results, Try.results22, go_sem, d0, d1, d2, d3, d4, d5, d6, d7, d8, d9]) rfl ?_
                      exact ⟨.inl ⟨_, _, _, _, _, _, _, _, _, _, HK.out, rfl⟩, below_put10 hbel (Nat.le_refl _) _ _ _ _ _ _ _ _ _ _⟩
                    · have HN : Hid (NoDT s) := nodt_clock HF.out ht1 (by
                        rw [← HC.out]
                        rcases HZZ.out with ⟨a1, a2, a3, a4⟩ | ⟨k, a1, a2, a3, a4⟩
                        · exact noclock_time a1 (a2 ▸ hn)
                        · exact noclock_ztime a1 (a3 ▸ hn))
                      clear hn
                      have hps := HPS1.out.below hb8
                      have hz8 : w.heap.size < w8.heap.size := by have := hps.lt; omega
                      have hz9 : w.heap.size + 1 < w8.heap.size := hps.lt
                      clear HPS1 hb8
                      obtain ⟨c0, c1, c2, c3, c4, c5, c6, c7, c8, c9⟩ := ten hps.tt
                      obtain ⟨d0, d1, d2, d3, d4, d5, d6, d7, d8, d9⟩ := ten hps.res
                      have hf := fun i => thaw (i := i) hps.res
                      have hbel := hps.bel
                      clear hps
                      go_wp2
                      refine bodyPost_ret (v := .tuple #[.agg (tc 6 (3 : Nat) (y : Int) (mo : Int) (d : Int) 0 0 0 zb off), .bool false]) (by simp [results, Try.results22, go_sem, d0, d1, d2, d3, d4, d5, d6, d7, d8, d9, hz8]) rfl ?_
                      refine ⟨.inr ⟨HN.out, _, _, _, _, _, _, _, _, _, _, rfl⟩, ?_⟩
                      exact (below_put10 hbel (Nat.le_refl _) _ _ _ _ _ _ _ _ _ _).alloc (Nat.le_of_lt (by simp only [put10, size_set]; exact hz8)) _
            · have HN : Hid (NoDT s) := HN4.out hdd
              obtain ⟨c0, c1, c2, c3, c4, c5, c6, c7, c8, c9⟩ := ten hps.tt
              obtain ⟨d0, d1, d2, d3, d4, d5, d6, d7, d8, d9⟩ := ten hps.res
              have hf := fun i => thaw (i := i) hps.res
              have hbel := hps.bel
              clear hps
              go_wp2
              refine bodyPost_ret (v := .tuple #[.agg (tc 5 (3 : Nat) (y : Int) (mo : Int) (d : Int) 0 0 0 false 0), .bool false]) (by simp [results, Try.results22, go_sem, d0, d1, d2, d3, d4, d5, d6, d7, d8, d9]) rfl ?_
              exact ⟨.inr ⟨HN.out, _, _, _, _, _, _, _, _, _, _, rfl⟩, below_put10 hbel (Nat.le_refl _) _ _ _ _ _ _ _ _ _ _⟩
          · have h3b : ((pr : Int) == 3) = false := beq_eq_false_iff_ne.2 (by omega)
            have hp3 : pr < 3 := by
              rcases hds with ⟨_, e, _⟩ | ⟨_, _, e, _⟩ | ⟨_, _, _, e, _⟩ | ⟨_, _, _, _, e, _⟩ <;> omega
            have HDT : Hid (DateOk u pr y mo d) := HOK.out (fun e => absurd e h3)
            clear hds h3
            obtain ⟨c0, c1, c2, c3, c4, c5, c6, c7, c8, c9⟩ := ten hps.tt
            have HPS := hidP hps
            clear hps
            go_wp2_with fail
            go_quiet (fail)
            have hps := HPS.out.below (below_drewN (Below.refl _ _) nq)
            clear c0 c1 c2 c3 c4 c5 c6 c7 c8 c9 HPS
            generalize wr.drewN nq = w5 at hps ⊢
            go_upto_region 19 with fail
            rcases HCUT.out with ⟨h1, hu, hc, rfl⟩ | ⟨t, h1, hu, hc, rfl⟩
            · have HK : Hid (DTOk s (5 : Nat) pr y mo d (0 : Nat) (0 : Nat) (0 : Nat) false 0) := .inl ⟨h1, hu ▸ HDT.out, rfl, rfl, rfl, rfl, rfl, rfl⟩
              clear h1 hu hc
              obtain ⟨c0, c1, c2, c3, c4, c5, c6, c7, c8, c9⟩ := ten hps.tt
              obtain ⟨d0, d1, d2, d3, d4, d5, d6, d7, d8, d9⟩ := ten hps.res
              have hf := fun i => thaw (i := i) hps.res
              have hbel := hps.bel
              clear hps
              go_wp2
              refine bodyPost_ret (v := .tuple #[.agg (tc (5 : Nat) (pr : Int) (y : Int) (mo : Int) (d : Int) (0 : Nat) (0 : Nat) (0 : Nat) false 0), .bool true]) (by simp [results, Try.results22, go_sem, d0, d1, d2, d3, d4, d5, d6, d7, d8, d9]) rfl ?_
              exact ⟨.inl ⟨_, _, _, _, _, _, _, _, _, _, HK.out, rfl⟩, below_put10 hbel (Nat.le_refl _) _ _ _ _ _ _ _ _ _ _⟩
            · have hcs : c.size = s.size - (t + 1) := by rw [hc]; simp
              have HF := hidP h1
              have HU := hidP hu
              have ht := h1.1
              clear h1 hu hc
              have hp3I : (pr : Int) < 3 := by omega
              by_cases he : c.size = 0
              · have hcb : (c.toList == []) = true := by
                  have e : c.data.toList = [] := List.eq_nil_of_length_eq_zero (by rw [list_len]; exact he)
                  rw [Lib.toList_data, e]; rfl
                have HK : Hid (DTOk s (6 : Nat) pr y mo d (0 : Nat) (0 : Nat) (0 : Nat) false 0) := .inr ⟨t, pr, HF.out, HU.out ▸ HDT.out, rfl, .inl ⟨by omega, rfl, rfl, rfl, rfl, rfl, rfl⟩⟩
                clear hcs he
                have hps1 := hps.set 0 (.int .u8 6) (kd' := 6) (pr' := pr) (y' := y) (mo' := mo) (d' := d) (h' := 0) (m' := 0) (ns' := 0) (z' := false) (off' := 0) rfl
                obtain ⟨c0, c1, c2, c3, c4, c5, c6, c7, c8, c9⟩ := ten hps.tt
                have hg := fun i => thaw (i := i) hps.tt
                have HPS := hidP hps1
                clear hps hps1
                go_upto_region 24 with fail
                clear c0 c1 c2 c3 c4 c5 c6 c7 c8 c9 hg
                generalize w5.setCell ⟨w.heap.size + 1, 0, none⟩ (.int .u8 6) = w6 at HPS ⊢
                have hps := HPS.out
                clear HPS
                obtain ⟨c0, c1, c2, c3, c4, c5, c6, c7, c8, c9⟩ := ten hps.tt
                obtain ⟨d0, d1, d2, d3, d4, d5, d6, d7, d8, d9⟩ := ten hps.res
                have hf := fun i => thaw (i := i) hps.res
                have hbel := hps.bel
                clear hps
                go_wp2
                refine bodyPost_ret (v := .tuple #[.agg (tc (6 : Nat) (pr : Int) (y : Int) (mo : Int) (d : Int) (0 : Nat) (0 : Nat) (0 : Nat) false 0), .bool true]) (by simp [results, Try.results22, go_sem, d0, d1, d2, d3, d4, d5, d6, d7, d8, d9]) rfl ?_
                exact ⟨.inl ⟨_, _, _, _, _, _, _, _, _, _, HK.out, rfl⟩, below_put10 hbel (Nat.le_refl _) _ _ _ _ _ _ _ _ _ _⟩
              · have hcb : (c.toList == []) = false := by
                  rw [Lib.toList_data]
                  exact beq_eq_false_iff_ne.2 (fun e => he (by rw [← list_len, e]; rfl))
                have HN : Hid (NoDT s) := nodt_prec HF.out (HU.out ▸ HDT.out) (by omega) (by omega)
                clear hcs he
                obtain ⟨c0, c1, c2, c3, c4, c5, c6, c7, c8, c9⟩ := ten hps.tt
                obtain ⟨d0, d1, d2, d3, d4, d5, d6, d7, d8, d9⟩ := ten hps.res
                have hf := fun i => thaw (i := i) hps.res
                have hbel := hps.bel
                clear hps
                go_wp2
                refine bodyPost_ret (v := .tuple #[.agg (tc 5 (pr : Int) (y : Int) (mo : Int) (d : Int) 0 0 0 false 0), .bool false]) (by simp [results, Try.results22, go_sem, d0, d1, d2, d3, d4, d5, d6, d7, d8, d9]) rfl ?_
                exact ⟨.inr ⟨HN.out, _, _, _, _, _, _, _, _, _, _, rfl⟩, below_put10 hbel (Nat.le_refl _) _ _ _ _ _ _ _ _ _ _⟩
    · have b4 : ((p0.size : Int) != 4) = true := bne_iff_ne.2 (by omega)
      have HN : Hid (NoDT s) := HND.out (nd0 HFA.out (fun e => h4 e.1))
      clear h4
      obtain ⟨c0, c1, c2, c3, c4, c5, c6, c7, c8, c9⟩ := ten hp2.tt
      obtain ⟨d0, d1, d2, d3, d4, d5, d6, d7, d8, d9⟩ := ten hp2.res
      have hf := fun i => thaw (i := i) hp2.res
      have hbel := hp2.bel
      clear hp2
      go_wp2
      refine bodyPost_ret (v := .tuple #[.agg (tc 5 0 0 0 0 0 0 0 false 0), .bool false]) (by simp [results, Try.results22, go_sem, d0, d1, d2, d3, d4, d5, d6, d7, d8, d9, hz0]) rfl ?_
      refine ⟨.inr ⟨HN.out, _, _, _, _, _, _, _, _, _, _, rfl⟩, ?_⟩
      exact (below_put10 hbel (Nat.le_refl _) _ _ _ _ _ _ _ _ _ _).alloc (Nat.le_of_lt (by simp only [put10, size_set]; exact hz0)) _

end Go.Proofs.Qxb6600803a
