import Derived.Test.Qxb6600803aPt
import Derived.Laws.Concat
namespace Go.Proofs.Qxb6600803a
open Go.RowKit

/-- A temporal's cells. -/
abbrev tc (kd pr y mo d h m ns : Int) (z : Bool) (off : Int) : Array Value :=
  #[.int .u8 kd, .int .i64 pr, .int .i64 y, .int .i64 mo, .int .i64 d, .int .i64 h, .int .i64 m, .int .i64 ns, .bool z, .int .i64 off]

/-- A block of ten cells, read cell by cell. -/
theorem ten {w : World} {b : Nat} {kd pr y mo d h m ns : Int} {z : Bool} {off : Int} (hb : w.heap[b]? = some (.cells (tc kd pr y mo d h m ns z off) 38)) :
    w.cell? ⟨b, 0, none⟩ = some (.int .u8 kd) ∧ w.cell? ⟨b, 1, none⟩ = some (.int .i64 pr) ∧ w.cell? ⟨b, 2, none⟩ = some (.int .i64 y) ∧ w.cell? ⟨b, 3, none⟩ = some (.int .i64 mo) ∧ w.cell? ⟨b, 4, none⟩ = some (.int .i64 d) ∧
    w.cell? ⟨b, 5, none⟩ = some (.int .i64 h) ∧ w.cell? ⟨b, 6, none⟩ = some (.int .i64 m) ∧ w.cell? ⟨b, 7, none⟩ = some (.int .i64 ns) ∧ w.cell? ⟨b, 8, none⟩ = some (.bool z) ∧ w.cell? ⟨b, 9, none⟩ = some (.int .i64 off) := by
  unfold World.cell?
  simp only [hb]
  exact ⟨rfl, rfl, rfl, rfl, rfl, rfl, rfl, rfl, rfl, rfl⟩
theorem thaw {w : World} {b i : Nat} {c : Array Value} {t : TypeId} (hb : w.heap[b]? = some (.cells c t)) : w.frozen? ⟨b, i, none⟩ = false := by
  unfold World.frozen?
  simp only [hb]
  simp
theorem set_heap {w : World} {b i : Nat} {c : Array Value} {t : TypeId} {v : Value} (hb : w.heap[b]? = some (.cells c t)) : (w.setCell ⟨b, i, none⟩ v).heap[b]? = some (.cells (c.setIfInBounds i v) t) := by
  simp only [World.setCell, Array.getElem?_modify]
  rw [hb]
  simp

theorem two_new (w : World) (o1 o2 : Obj) : ((w.alloc o1).alloc o2).heap[w.heap.size]? = some o1 ∧ ((w.alloc o1).alloc o2).heap[w.heap.size + 1]? = some o2 := by
  have h1 : (w.alloc o1).heap.size = w.heap.size + 1 := by simp
  refine ⟨?_, ?_⟩
  · rw [Below.heap_alloc _ _ _ (by omega)]
    show (w.heap.push o1)[w.heap.size]? = _
    simp
  · rw [← h1]
    show ((w.alloc o1).heap.push o2)[(w.alloc o1).heap.size]? = _
    exact Array.getElem?_push_size
/-- A whole temporal stored into block b. -/
def put10 (w : World) (b : Nat) (v0 v1 v2 v3 v4 v5 v6 v7 v8 v9 : Value) : World :=
  (((((((((w.setCell ⟨b, 0, none⟩ v0).setCell ⟨b, 1, none⟩ v1).setCell ⟨b, 2, none⟩ v2).setCell ⟨b, 3, none⟩ v3).setCell ⟨b, 4, none⟩ v4).setCell ⟨b, 5, none⟩ v5).setCell ⟨b, 6, none⟩ v6).setCell ⟨b, 7, none⟩ v7).setCell ⟨b, 8, none⟩ v8).setCell ⟨b, 9, none⟩ v9
theorem below_put10 {B b : Nat} {w w1 : World} (h : Below B w w1) (hb : B ≤ b) (v0 v1 v2 v3 v4 v5 v6 v7 v8 v9 : Value) : Below B w (put10 w1 b v0 v1 v2 v3 v4 v5 v6 v7 v8 v9) :=
  (((((((((h.setCell (p := ⟨b, 0, none⟩) hb v0).setCell (p := ⟨b, 1, none⟩) hb v1).setCell (p := ⟨b, 2, none⟩) hb v2).setCell (p := ⟨b, 3, none⟩) hb v3).setCell (p := ⟨b, 4, none⟩) hb v4).setCell (p := ⟨b, 5, none⟩) hb v5).setCell (p := ⟨b, 6, none⟩) hb v6).setCell (p := ⟨b, 7, none⟩) hb v7).setCell (p := ⟨b, 8, none⟩) hb v8).setCell (p := ⟨b, 9, none⟩) hb v9
theorem size_set (w : World) (a : Addr) (v : Value) : (w.setCell a v).heap.size = w.heap.size := by simp [World.setCell]

theorem idx53_0 (w : World) : (Instr.index 53 (.agg #[.int .i64 23, .int .i64 59, .int .i64 60]) (.int .i64 0)).run Try.prog w = .ok (.int .i64 23) w := by
  simp [Instr.index, run_underlying Try.underlying53, asIntOf, part, go_sem]
theorem idx53_1 (w : World) : (Instr.index 53 (.agg #[.int .i64 23, .int .i64 59, .int .i64 60]) (.int .i64 1)).run Try.prog w = .ok (.int .i64 59) w := by
  simp [Instr.index, run_underlying Try.underlying53, asIntOf, part, go_sem]
theorem idx53_2 (w : World) : (Instr.index 53 (.agg #[.int .i64 23, .int .i64 59, .int .i64 60]) (.int .i64 2)).run Try.prog w = .ok (.int .i64 60) w := by
  simp [Instr.index, run_underlying Try.underlying53, asIntOf, part, go_sem]

/-- digits, asked for n bytes: yes and no. -/
theorem digits_yes (s : ByteArray) (n : Nat) (w : World) (h9 : n ≤ 9) (h : s.size = n ∧ digA s = true) :
    Calls Try.prog 26 #[.string s, .int .i64 n] w fun e w' => e = .returned (.tuple #[.int .i64 (valTo s n), .bool true]) ∧ Below w.heap.size w w' := by
  have := digits_at s n w h9
  rw [if_pos h.1, decide_eq_true h.1, digV_yes h.2, h.2, h.1] at this
  exact this
theorem digits_no (s : ByteArray) (n : Nat) (w : World) (h9 : n ≤ 9) (h : ¬ (s.size = n ∧ digA s = true)) :
    Calls Try.prog 26 #[.string s, .int .i64 n] w fun e w' => e = .returned (.tuple #[.int .i64 0, .bool false]) ∧ Below w.heap.size w w' := by
  have := digits_at s n w h9
  by_cases h1 : s.size = n
  · have h2 : digA s = false := by cases hd : digA s; rfl; exact absurd ⟨h1, hd⟩ h
    rw [if_pos h1, decide_eq_true h1, digV_no h2, h2] at this
    exact this
  · rw [if_neg h1, decide_eq_false h1] at this
    exact this

/-- The world in parseTime's loop: the result's block B, t in the next, the parts in block P. -/
structure St (B P : Nat) (w wx : World) (p0 p1 p2 : ByteArray) (pr h m ns : Int) : Prop where
  res : wx.heap[B]? = some (.cells (tc 0 0 0 0 0 0 0 0 false 0) 38)
  tt : wx.heap[B + 1]? = some (.cells (tc 7 pr 0 0 0 h m ns false 0) 38)
  pp : wx.heap[P]? = some (.cells #[.string p0, .string p1, .string p2] 47)
  bel : Below B w wx
  lt : P < wx.heap.size

theorem St.below {B P : Nat} {w wx w' : World} {p0 p1 p2 : ByteArray} {pr h m ns : Int} (H : St B P w wx p0 p1 p2 pr h m ns) (hP : B + 1 < P) (hb : Below wx.heap.size wx w') : St B P w w' p0 p1 p2 pr h m ns :=
  have := H.lt
  ⟨(hb.block _ (by omega)).trans H.res, (hb.block _ (by omega)).trans H.tt, (hb.block _ (by omega)).trans H.pp, H.bel.trans (hb.mono (by omega)), Nat.lt_of_lt_of_le H.lt hb.size⟩

theorem St.set {B P : Nat} {w wx : World} {p0 p1 p2 : ByteArray} {pr h m ns pr' h' m' ns' : Int} (H : St B P w wx p0 p1 p2 pr h m ns) (hP : B + 1 < P) (i : Nat) (v : Value) (hv : (tc 7 pr 0 0 0 h m ns false 0).setIfInBounds i v = tc 7 pr' 0 0 0 h' m' ns' false 0) :
    St B P w (wx.setCell ⟨B + 1, i, none⟩ v) p0 p1 p2 pr' h' m' ns' :=
  ⟨(Below.heap_setCell _ _ _ _ (by simp only; omega)).trans H.res, by rw [set_heap H.tt, hv], (Below.heap_setCell _ _ _ _ (by simp only; omega)).trans H.pp, H.bel.setCell (by simp only; omega) _, by rw [size_set]; exact H.lt⟩

theorem three {w : World} {b : Nat} {p0 p1 p2 : ByteArray} (hb : w.heap[b]? = some (.cells #[.string p0, .string p1, .string p2] 47)) :
    w.cell? ⟨b, 0, none⟩ = some (.string p0) ∧ w.cell? ⟨b, 1, none⟩ = some (.string p1) ∧ w.cell? ⟨b, 2, none⟩ = some (.string p2) := by
  unfold World.cell?
  simp only [hb]
  exact ⟨rfl, rfl, rfl⟩

set_option maxRecDepth 100000 in
set_option maxHeartbeats 2000000 in
theorem parseTime_any (s : ByteArray) (w : World) (hs : s.size ≤ 1048576) :
    Calls Try.prog 18 #[.string s] w fun e w' => ((∃ p h m ns : Nat, TimeOk s p h m ns ∧ e = .returned (.tuple #[.agg (tc 7 p 0 0 0 h m ns false 0), .bool true])) ∨ (NoTime s ∧ ∃ pr h m ns : Int, e = .returned (.tuple #[.agg (tc 7 pr 0 0 0 h m ns false 0), .bool false]))) ∧ Below w.heap.size w w' := by
  go_enter Try.func18, Try.ntmps18
  go_wp2_with fail
  refine (fields_any s 58 58 rfl _ hs).mono ?_
  rintro e w1 ⟨⟨p0, p1, p2, n, ok, hfa, rfl⟩, hb1⟩
  have hz : w.heap.size + 1 < w1.heap.size := by have := hb1.size; simp at this; omega
  have hB0 : w1.heap[w.heap.size]? = some (.cells (tc 0 0 0 0 0 0 0 0 false 0) 38) := (hb1.block _ (by simp; omega)).trans (two_new _ _ _).1
  have hB1 : w1.heap[w.heap.size + 1]? = some (.cells (tc 7 3 0 0 0 0 0 0 false 0) 38) := (hb1.block _ (by simp)).trans (two_new _ _ _).2
  have hbel : Below w.heap.size w w1 := (((Below.refl _ _).alloc (Nat.le_refl _) _).alloc (by simp) _).trans (hb1.mono (by simp; omega))
  clear hb1
  cases ok
  · have HN : Hid (NoTime s) := nt3 hfa
    obtain ⟨c0, c1, c2, c3, c4, c5, c6, c7, c8, c9⟩ := ten hB1
    obtain ⟨d0, d1, d2, d3, d4, d5, d6, d7, d8, d9⟩ := ten hB0
    have hf := fun i => thaw (i := i) hB0
    have hz0 : w.heap.size < w1.heap.size := by omega
    go_wp2
    refine bodyPost_ret (v := .tuple #[.agg (tc 7 3 0 0 0 0 0 0 false 0), .bool false]) (by simp [results, Try.results18, go_sem, d0, d1, d2, d3, d4, d5, d6, d7, d8, d9, hz0]) rfl ?_
    refine ⟨.inr ⟨HN.out, _, _, _, _, rfl⟩, ?_⟩
    exact (below_put10 hbel (Nat.le_refl _) _ _ _ _ _ _ _ _ _ _).alloc (Nat.le_of_lt (by simp only [put10, size_set]; exact hz0)) _
  · obtain ⟨nn, hnn, hn1, hn3⟩ : ∃ nn : Nat, n = nn ∧ 1 ≤ nn ∧ nn ≤ 3 := by
      rcases hfa with ⟨h, _⟩ | ⟨h, _⟩ | ⟨h, _⟩ | ⟨h, _⟩
      · exact ⟨1, h, by omega, by omega⟩
      · exact ⟨2, h, by omega, by omega⟩
      · exact ⟨3, h, by omega, by omega⟩
      · exact absurd h (by decide)
    subst hnn
    have HFA : Hid (FA s 58 p0 p1 p2 nn true) := hfa
    clear hfa
    have hst : St w.heap.size w1.heap.size w (w1.alloc (.cells #[.string p0, .string p1, .string p2] 47)) p0 p1 p2 3 0 0 0 :=
      ⟨(Below.heap_alloc _ _ _ (by omega)).trans hB0, (Below.heap_alloc _ _ _ (by omega)).trans hB1, Array.getElem?_push_size, hbel.alloc (by omega) _, by simp⟩
    clear hB0 hB1 hbel
    have HST : Hid (St w.heap.size w1.heap.size w (w1.alloc (.cells #[.string p0, .string p1, .string p2] 47)) p0 p1 p2 3 0 0 0) := hst
    clear hst
    have q1 : (0 : Int) ≤ (nn : Int) := by omega
    have q2 : (nn : Int) ≤ 3 := by omega
    go_wp2
    go_loopg [29] 3 (fun g s29 wx => ∃ (k : Nat) (pr h m ns : Int), k + g = 3 ∧ k ≤ nn ∧ s29 = .int .i64 k ∧ TS p0 p1 p2 k pr h m ns ∧ St w.heap.size w1.heap.size w wx p0 p1 p2 pr h m ns)
    case atStart => exact ⟨0, 3, 0, 0, 0, by omega, by omega, rfl, .inl ⟨rfl, rfl, rfl, rfl, rfl⟩, HST.out⟩
    case round =>
      clear HST
      obtain ⟨k, pr, h, m, ns, hkg, hkn, rfl, hts, hst⟩ := hrel
      obtain ⟨c0, c1, c2, c3, c4, c5, c6, c7, c8, c9⟩ := ten hst.tt
      obtain ⟨d0, d1, d2, d3, d4, d5, d6, d7, d8, d9⟩ := ten hst.res
      obtain ⟨e0, e1, e2⟩ := three hst.pp
      have hf := fun i => thaw (i := i) hst.res
      have hg := fun i => thaw (i := i) hst.tt
      have HST : Hid (St w.heap.size w1.heap.size w wr p0 p1 p2 pr h m ns) := hst
      clear hst
      have x0 := idx53_0
      have x1 := idx53_1
      have x2 := idx53_2
      by_cases hlt : k < nn
      · have hltI : (k : Int) < (nn : Int) := by omega
        rcases hts with ⟨rfl, rfl, rfl, rfl, rfl⟩ | ⟨rfl, hp0, rfl, rfl, rfl, rfl⟩ | ⟨rfl, hp0, hp1, rfl, rfl, rfl, rfl⟩ | ⟨rfl, _⟩
        · by_cases hp : p0.size = 2 ∧ digA p0 = true
          · have hvl := valTo_le (AllD_of_digA hp.2) (by omega)
            rw [hp.1] at hvl
            by_cases h23 : valTo p0 2 ≤ 23
            · have HP : Hid (P2 p0 23) := ⟨hp, h23⟩
              go_wp2_with fail
              refine (digits_yes p0 2 _ (by omega) hp).mono ?_
              rintro e w2 ⟨rfl, hb2⟩
              have hst2 := HST.out.below hz hb2
              obtain ⟨c0, c1, c2, c3, c4, c5, c6, c7, c8, c9⟩ := ten hst2.tt
              have hg := fun i => thaw (i := i) hst2.tt
              have hst3 := hst2.set hz 1 (.int .i64 4) (pr' := 4) (h' := 0) (m' := 0) (ns' := 0) rfl
              have HST3 : Hid (St w.heap.size w1.heap.size w ((w2.setCell ⟨w.heap.size + 1, 1, none⟩ (.int .i64 4)).setCell ⟨w.heap.size + 1, 5, none⟩ (.int .i64 (valTo p0 2))) p0 p1 p2 4 (valTo p0 2) 0 0) := hst3.set hz 5 (.int .i64 (valTo p0 2)) rfl
              clear hst2 hst3 HST
              go_wp2
              go_roundg 2
              case measure => omega
              case rel => exact ⟨1, 4, (valTo p0 2), 0, 0, by omega, by omega, by go_num, .inr (.inl ⟨rfl, HP.out, rfl, rfl, rfl, rfl⟩), HST3.out⟩
            · have HN : Hid (NoTime s) := nt0 HFA.out (fun e => h23 e.2)
              go_wp2_with fail
              refine (digits_yes p0 2 _ (by omega) hp).mono ?_
              rintro e w2 ⟨rfl, hb2⟩
              have hst2 := HST.out.below hz hb2
              obtain ⟨c0, c1, c2, c3, c4, c5, c6, c7, c8, c9⟩ := ten hst2.tt
              obtain ⟨d0, d1, d2, d3, d4, d5, d6, d7, d8, d9⟩ := ten hst2.res
              have hf := fun i => thaw (i := i) hst2.res
              have HST2 := hst2.bel
              clear hst2 HST
              go_wp2
              refine bodyPost_ret (v := .tuple #[.agg (tc 7 3 0 0 0 0 0 0 false 0), .bool false]) (by simp [results, Try.results18, go_sem, d0, d1, d2, d3, d4, d5, d6, d7, d8, d9]) rfl ?_
              exact ⟨.inr ⟨HN.out, _, _, _, _, rfl⟩, below_put10 HST2 (Nat.le_refl _) _ _ _ _ _ _ _ _ _ _⟩
          · have HN : Hid (NoTime s) := nt0 HFA.out (fun e => hp e.1)
            go_wp2_with fail
            refine (digits_no p0 2 _ (by omega) hp).mono ?_
            rintro e w2 ⟨rfl, hb2⟩
            have hst2 := HST.out.below hz hb2
            obtain ⟨c0, c1, c2, c3, c4, c5, c6, c7, c8, c9⟩ := ten hst2.tt
            obtain ⟨d0, d1, d2, d3, d4, d5, d6, d7, d8, d9⟩ := ten hst2.res
            have hf := fun i => thaw (i := i) hst2.res
            have HST2 := hst2.bel
            clear hst2 HST
            go_wp2
            refine bodyPost_ret (v := .tuple #[.agg (tc 7 3 0 0 0 0 0 0 false 0), .bool false]) (by simp [results, Try.results18, go_sem, d0, d1, d2, d3, d4, d5, d6, d7, d8, d9]) rfl ?_
            exact ⟨.inr ⟨HN.out, _, _, _, _, rfl⟩, below_put10 HST2 (Nat.le_refl _) _ _ _ _ _ _ _ _ _ _⟩
        · have HP0 : Hid (P2 p0 23) := hp0
          clear hp0
          by_cases hp : p1.size = 2 ∧ digA p1 = true
          · have hvl := valTo_le (AllD_of_digA hp.2) (by omega)
            rw [hp.1] at hvl
            by_cases h23 : valTo p1 2 ≤ 59
            · have HP : Hid (P2 p1 59) := ⟨hp, h23⟩
              go_wp2_with fail
              refine (digits_yes p1 2 _ (by omega) hp).mono ?_
              rintro e w2 ⟨rfl, hb2⟩
              have hst2 := HST.out.below hz hb2
              obtain ⟨c0, c1, c2, c3, c4, c5, c6, c7, c8, c9⟩ := ten hst2.tt
              have hg := fun i => thaw (i := i) hst2.tt
              have hst3 := hst2.set hz 1 (.int .i64 5) (pr' := 5) (h' := (valTo p0 2)) (m' := 0) (ns' := 0) rfl
              have HST3 : Hid (St w.heap.size w1.heap.size w ((w2.setCell ⟨w.heap.size + 1, 1, none⟩ (.int .i64 5)).setCell ⟨w.heap.size + 1, 6, none⟩ (.int .i64 (valTo p1 2))) p0 p1 p2 5 (valTo p0 2) (valTo p1 2) 0) := hst3.set hz 6 (.int .i64 (valTo p1 2)) rfl
              clear hst2 hst3 HST
              go_wp2
              go_roundg 1
              case measure => omega
              case rel => exact ⟨2, 5, (valTo p0 2), (valTo p1 2), 0, by omega, by omega, by go_num, .inr (.inr (.inl ⟨rfl, HP0.out, HP.out, rfl, rfl, rfl, rfl⟩)), HST3.out⟩
            · have HN : Hid (NoTime s) := nt1 HFA.out (by omega) (fun e => h23 e.2)
              go_wp2_with fail
              refine (digits_yes p1 2 _ (by omega) hp).mono ?_
              rintro e w2 ⟨rfl, hb2⟩
              have hst2 := HST.out.below hz hb2
              obtain ⟨c0, c1, c2, c3, c4, c5, c6, c7, c8, c9⟩ := ten hst2.tt
              obtain ⟨d0, d1, d2, d3, d4, d5, d6, d7, d8, d9⟩ := ten hst2.res
              have hf := fun i => thaw (i := i) hst2.res
              have HST2 := hst2.bel
              clear hst2 HST
              go_wp2
              refine bodyPost_ret (v := .tuple #[.agg (tc 7 4 0 0 0 (valTo p0 2) 0 0 false 0), .bool false]) (by simp [results, Try.results18, go_sem, d0, d1, d2, d3, d4, d5, d6, d7, d8, d9]) rfl ?_
              exact ⟨.inr ⟨HN.out, _, _, _, _, rfl⟩, below_put10 HST2 (Nat.le_refl _) _ _ _ _ _ _ _ _ _ _⟩
          · have HN : Hid (NoTime s) := nt1 HFA.out (by omega) (fun e => hp e.1)
            go_wp2_with fail
            refine (digits_no p1 2 _ (by omega) hp).mono ?_
            rintro e w2 ⟨rfl, hb2⟩
            have hst2 := HST.out.below hz hb2
            obtain ⟨c0, c1, c2, c3, c4, c5, c6, c7, c8, c9⟩ := ten hst2.tt
            obtain ⟨d0, d1, d2, d3, d4, d5, d6, d7, d8, d9⟩ := ten hst2.res
            have hf := fun i => thaw (i := i) hst2.res
            have HST2 := hst2.bel
            clear hst2 HST
            go_wp2
            refine bodyPost_ret (v := .tuple #[.agg (tc 7 4 0 0 0 (valTo p0 2) 0 0 false 0), .bool false]) (by simp [results, Try.results18, go_sem, d0, d1, d2, d3, d4, d5, d6, d7, d8, d9]) rfl ?_
            exact ⟨.inr ⟨HN.out, _, _, _, _, rfl⟩, below_put10 HST2 (Nat.le_refl _) _ _ _ _ _ _ _ _ _ _⟩
        · have HP0 : Hid (P2 p0 23) := hp0
          have HP1 : Hid (P2 p1 59) := hp1
          clear hp0 hp1
          rcases indexByte_cases 46 p2 with ⟨hix, _⟩ | ⟨j, hj, hix, hjc, hjn⟩
          · have HX : Hid (∀ ns, SecOk p2 ns → P2 p2 60) := by
              rintro ns (⟨_, h, _⟩ | ⟨k, _, h, _⟩)
              · exact h
              · rw [hix] at h; omega
            have HY : Hid (P2 p2 60 → SecOk p2 (valTo p2 2 * 1000000000)) := fun h => .inl ⟨hix, h, rfl⟩
            by_cases hp : p2.size = 2 ∧ digA p2 = true
            · have hvl := valTo_le (AllD_of_digA hp.2) (by omega)
              rw [hp.1] at hvl
              by_cases h23 : valTo p2 2 ≤ 60
              · have HS : Hid (SecOk p2 (valTo p2 2 * 1000000000)) := HY.out ⟨hp, h23⟩
                clear HX HY
                go_wp2_with fail
                refine (cut_no p2 46 _ hix).mono ?_
                rintro e wa ⟨rfl, hba⟩
                have hsta := HST.out.below hz hba
                have HSTA : Hid (St w.heap.size w1.heap.size w wa p0 p1 p2 5 (valTo p0 2) (valTo p1 2) 0) := hsta
                clear hsta HST hix
                go_wp2_with fail
                refine (digits_yes p2 2 _ (by omega) hp).mono ?_
                rintro e w2 ⟨rfl, hb2⟩
                have hst2 := HSTA.out.below hz hb2
                obtain ⟨c0, c1, c2, c3, c4, c5, c6, c7, c8, c9⟩ := ten hst2.tt
                have hg := fun i => thaw (i := i) hst2.tt
                have hst3 := hst2.set hz 1 (.int .i64 6) (pr' := 6) (h' := (valTo p0 2)) (m' := (valTo p1 2)) (ns' := 0) rfl
                have HST3 : Hid (St w.heap.size w1.heap.size w ((w2.setCell ⟨w.heap.size + 1, 1, none⟩ (.int .i64 6)).setCell ⟨w.heap.size + 1, 7, none⟩ (.int .i64 ((valTo p2 2 : Int) * 1000000000))) p0 p1 p2 6 (valTo p0 2) (valTo p1 2) ((valTo p2 2 : Int) * 1000000000)) := hst3.set hz 7 (.int .i64 ((valTo p2 2 : Int) * 1000000000)) rfl
                clear hst2 hst3 HSTA
                go_wp2
                go_roundg 0
                case measure => omega
                case rel => exact ⟨3, 6, (valTo p0 2), (valTo p1 2), _, by omega, by omega, by go_num, .inr (.inr (.inr ⟨rfl, HP0.out, HP1.out, rfl, rfl, rfl, _, HS.out, by omega⟩)), HST3.out⟩
              · have HN : Hid (NoTime s) := nt2 HFA.out (by omega) (fun ns hh => h23 (HX.out ns hh).2)
                clear HX HY
                go_wp2_with fail
                refine (cut_no p2 46 _ hix).mono ?_
                rintro e wa ⟨rfl, hba⟩
                have hsta := HST.out.below hz hba
                have HSTA : Hid (St w.heap.size w1.heap.size w wa p0 p1 p2 5 (valTo p0 2) (valTo p1 2) 0) := hsta
                clear hsta HST hix
                go_wp2_with fail
                refine (digits_yes p2 2 _ (by omega) hp).mono ?_
                rintro e w2 ⟨rfl, hb2⟩
                have hst2 := HSTA.out.below hz hb2
                obtain ⟨c0, c1, c2, c3, c4, c5, c6, c7, c8, c9⟩ := ten hst2.tt
                obtain ⟨d0, d1, d2, d3, d4, d5, d6, d7, d8, d9⟩ := ten hst2.res
                have hf := fun i => thaw (i := i) hst2.res
                have HST2 := hst2.bel
                clear hst2 HSTA
                go_wp2
                refine bodyPost_ret (v := .tuple #[.agg (tc 7 5 0 0 0 (valTo p0 2) (valTo p1 2) 0 false 0), .bool false]) (by simp [results, Try.results18, go_sem, d0, d1, d2, d3, d4, d5, d6, d7, d8, d9]) rfl ?_
                exact ⟨.inr ⟨HN.out, _, _, _, _, rfl⟩, below_put10 HST2 (Nat.le_refl _) _ _ _ _ _ _ _ _ _ _⟩
            · have HN : Hid (NoTime s) := nt2 HFA.out (by omega) (fun ns hh => hp (HX.out ns hh).1)
              clear HX HY
              go_wp2_with fail
              refine (cut_no p2 46 _ hix).mono ?_
              rintro e wa ⟨rfl, hba⟩
              have hsta := HST.out.below hz hba
              have HSTA : Hid (St w.heap.size w1.heap.size w wa p0 p1 p2 5 (valTo p0 2) (valTo p1 2) 0) := hsta
              clear hsta HST hix
              go_wp2_with fail
              refine (digits_no p2 2 _ (by omega) hp).mono ?_
              rintro e w2 ⟨rfl, hb2⟩
              have hst2 := HSTA.out.below hz hb2
              obtain ⟨c0, c1, c2, c3, c4, c5, c6, c7, c8, c9⟩ := ten hst2.tt
              obtain ⟨d0, d1, d2, d3, d4, d5, d6, d7, d8, d9⟩ := ten hst2.res
              have hf := fun i => thaw (i := i) hst2.res
              have HST2 := hst2.bel
              clear hst2 HSTA
              go_wp2
              refine bodyPost_ret (v := .tuple #[.agg (tc 7 5 0 0 0 (valTo p0 2) (valTo p1 2) 0 false 0), .bool false]) (by simp [results, Try.results18, go_sem, d0, d1, d2, d3, d4, d5, d6, d7, d8, d9]) rfl ?_
              exact ⟨.inr ⟨HN.out, _, _, _, _, rfl⟩, below_put10 HST2 (Nat.le_refl _) _ _ _ _ _ _ _ _ _ _⟩
          · have hfs := (FA_size (ok := true) HFA.out rfl).2.2
            have hcy := fun wx => cut_yes p2 46 j wx (by omega) hj hix
            have HX : Hid (∀ ns, SecOk p2 ns → P2 (p2.extract 0 j) 60 ∧ (p2.extract (j + 1) p2.size).size ≠ 0 ∧ digA (fill9 (p2.extract (j + 1) p2.size)) = true) := by
              rintro ns (⟨h, _, _⟩ | ⟨k, _, h, h1, h2, h3, _⟩)
              · rw [hix] at h; omega
              · obtain rfl : k = j := by rw [hix] at h; omega
                exact ⟨h1, h2, h3⟩
            have HY : Hid (P2 (p2.extract 0 j) 60 → (p2.extract (j + 1) p2.size).size ≠ 0 → digA (fill9 (p2.extract (j + 1) p2.size)) = true → SecOk p2 (valTo (p2.extract 0 j) 2 * 1000000000 + valTo (fill9 (p2.extract (j + 1) p2.size)) 9)) :=
              fun h1 h2 h3 => .inr ⟨j, hj, hix, h1, h2, h3, rfl⟩
            have hfl : (p2.extract (j + 1) p2.size).size ≤ 1048576 := by have := ext_size_le p2 (j + 1) p2.size; omega
            clear hjc hjn hix hj
            generalize p2.extract 0 j = a at hcy HX HY
            generalize p2.extract (j + 1) p2.size = f at hcy HX HY hfl
            by_cases hp : a.size = 2 ∧ digA a = true
            · have hvl := valTo_le (AllD_of_digA hp.2) (by omega)
              rw [hp.1] at hvl
              by_cases h23 : valTo a 2 ≤ 60
              · go_wp2_with fail
                refine (hcy _).mono ?_
                rintro e wa ⟨rfl, hba⟩
                have hsta := HST.out.below hz hba
                have HSTA : Hid (St w.heap.size w1.heap.size w wa p0 p1 p2 5 (valTo p0 2) (valTo p1 2) 0) := hsta
                clear hsta HST
                go_wp2_with fail
                refine (digits_yes a 2 _ (by omega) hp).mono ?_
                rintro e w2 ⟨rfl, hb2⟩
                have hst2 := HSTA.out.below hz hb2
                obtain ⟨c0, c1, c2, c3, c4, c5, c6, c7, c8, c9⟩ := ten hst2.tt
                have hg := fun i => thaw (i := i) hst2.tt
                have hst3 := hst2.set hz 1 (.int .i64 6) (pr' := 6) (h' := (valTo p0 2)) (m' := (valTo p1 2)) (ns' := 0) rfl
                have hst4 := hst3.set hz 7 (.int .i64 ((valTo a 2 : Int) * 1000000000)) (pr' := 6) (h' := (valTo p0 2)) (m' := (valTo p1 2)) (ns' := ((valTo a 2 : Int) * 1000000000)) rfl
                have HST4 : Hid (St w.heap.size w1.heap.size w ((w2.setCell ⟨w.heap.size + 1, 1, none⟩ (.int .i64 6)).setCell ⟨w.heap.size + 1, 7, none⟩ (.int .i64 ((valTo a 2 : Int) * 1000000000))) p0 p1 p2 6 (valTo p0 2) (valTo p1 2) ((valTo a 2 : Int) * 1000000000)) := hst4
                clear hst2 hst3 hst4 HSTA
                have hfz : (9 : Int) ≤ ((f ++ ⟨#[48, 48, 48, 48, 48, 48, 48, 48, 48]⟩ : ByteArray).size : Int) := by
                  rw [ByteArray.size_append]
                  show (9 : Int) ≤ ((f.size + 9 : Nat) : Int)
                  omega
                by_cases hd9 : digA (fill9 f) = true
                · have hv9 := valTo_le (AllD_of_digA hd9) (by rw [fill9_size]; omega)
                  rw [fill9_size] at hv9
                  by_cases hf0 : f.size = 0
                  · have HN : Hid (NoTime s) := nt2 HFA.out (by omega) (fun ns hh => (HX.out ns hh).2.1 hf0)
                    have hfe : (f.toList == []) = true := by
                      rw [Lib.toList_data, List.eq_nil_of_length_eq_zero (l := f.data.toList) (by rw [list_len]; exact hf0)]; rfl
                    clear HX HY
                    go_wp2_with fail
                    refine (digits_yes (fill9 f) 9 _ (by omega) ⟨fill9_size f, hd9⟩).mono ?_
                    rintro e w5 ⟨rfl, hb5⟩
                    have hst5 := HST4.out.below hz hb5
                    clear HST4
                    obtain ⟨c0, c1, c2, c3, c4, c5, c6, c7, c8, c9⟩ := ten hst5.tt
                    obtain ⟨d0, d1, d2, d3, d4, d5, d6, d7, d8, d9⟩ := ten hst5.res
                    have hf := fun i => thaw (i := i) hst5.res
                    have HST2 := hst5.bel
                    clear hst5
                    go_wp2
                    refine bodyPost_ret (v := .tuple #[.agg (tc 7 6 0 0 0 (valTo p0 2) (valTo p1 2) ((valTo a 2 : Int) * 1000000000) false 0), .bool false]) (by simp [results, Try.results18, go_sem, d0, d1, d2, d3, d4, d5, d6, d7, d8, d9]) rfl ?_
                    exact ⟨.inr ⟨HN.out, _, _, _, _, rfl⟩, below_put10 HST2 (Nat.le_refl _) _ _ _ _ _ _ _ _ _ _⟩
                  · have HS : Hid (SecOk p2 (valTo a 2 * 1000000000 + valTo (fill9 f) 9)) := HY.out ⟨hp, h23⟩ hf0 hd9
                    have hfe : (f.toList == []) = false := by
                      rw [Lib.toList_data]
                      cases hl : f.data.toList with
                      | nil => exact absurd (by rw [← list_len, hl]; rfl) hf0
                      | cons _ _ => rfl
                    clear HX HY
                    go_wp2_with fail
                    refine (digits_yes (fill9 f) 9 _ (by omega) ⟨fill9_size f, hd9⟩).mono ?_
                    rintro e w5 ⟨rfl, hb5⟩
                    have hst5 := HST4.out.below hz hb5
                    obtain ⟨c0, c1, c2, c3, c4, c5, c6, c7, c8, c9⟩ := ten hst5.tt
                    have hg := fun i => thaw (i := i) hst5.tt
                    have HST6 : Hid (St w.heap.size w1.heap.size w (w5.setCell ⟨w.heap.size + 1, 7, none⟩ (.int .i64 ((valTo a 2 : Int) * 1000000000 + (valTo (fill9 f) 9 : Int)))) p0 p1 p2 6 (valTo p0 2) (valTo p1 2) ((valTo a 2 : Int) * 1000000000 + (valTo (fill9 f) 9 : Int))) := hst5.set hz 7 _ rfl
                    clear hst5 HST4
                    go_wp2
                    go_roundg 0
                    case measure => omega
                    case rel => exact ⟨3, 6, (valTo p0 2), (valTo p1 2), _, by omega, by omega, by go_num, .inr (.inr (.inr ⟨rfl, HP0.out, HP1.out, rfl, rfl, rfl, _, HS.out, by omega⟩)), HST6.out⟩
                · have HN : Hid (NoTime s) := nt2 HFA.out (by omega) (fun ns hh => hd9 (HX.out ns hh).2.2)
                  clear HX HY
                  go_wp2_with fail
                  refine (digits_no (fill9 f) 9 _ (by omega) (fun e => hd9 e.2)).mono ?_
                  rintro e w5 ⟨rfl, hb5⟩
                  have hst5 := HST4.out.below hz hb5
                  clear HST4
                  obtain ⟨c0, c1, c2, c3, c4, c5, c6, c7, c8, c9⟩ := ten hst5.tt
                  obtain ⟨d0, d1, d2, d3, d4, d5, d6, d7, d8, d9⟩ := ten hst5.res
                  have hf := fun i => thaw (i := i) hst5.res
                  have HST2 := hst5.bel
                  clear hst5
                  go_wp2
                  refine bodyPost_ret (v := .tuple #[.agg (tc 7 6 0 0 0 (valTo p0 2) (valTo p1 2) ((valTo a 2 : Int) * 1000000000) false 0), .bool false]) (by simp [results, Try.results18, go_sem, d0, d1, d2, d3, d4, d5, d6, d7, d8, d9]) rfl ?_
                  exact ⟨.inr ⟨HN.out, _, _, _, _, rfl⟩, below_put10 HST2 (Nat.le_refl _) _ _ _ _ _ _ _ _ _ _⟩
              · have HN : Hid (NoTime s) := nt2 HFA.out (by omega) (fun ns hh => h23 (HX.out ns hh).1.2)
                clear HX HY
                go_wp2_with fail
                refine (hcy _).mono ?_
                rintro e wa ⟨rfl, hba⟩
                have hsta := HST.out.below hz hba
                have HSTA : Hid (St w.heap.size w1.heap.size w wa p0 p1 p2 5 (valTo p0 2) (valTo p1 2) 0) := hsta
                clear hsta HST
                go_wp2_with fail
                refine (digits_yes a 2 _ (by omega) hp).mono ?_
                rintro e w2 ⟨rfl, hb2⟩
                have hst2 := HSTA.out.below hz hb2
                clear HSTA
                obtain ⟨c0, c1, c2, c3, c4, c5, c6, c7, c8, c9⟩ := ten hst2.tt
                obtain ⟨d0, d1, d2, d3, d4, d5, d6, d7, d8, d9⟩ := ten hst2.res
                have hf := fun i => thaw (i := i) hst2.res
                have HST2 := hst2.bel
                clear hst2
                go_wp2
                refine bodyPost_ret (v := .tuple #[.agg (tc 7 5 0 0 0 (valTo p0 2) (valTo p1 2) 0 false 0), .bool false]) (by simp [results, Try.results18, go_sem, d0, d1, d2, d3, d4, d5, d6, d7, d8, d9]) rfl ?_
                exact ⟨.inr ⟨HN.out, _, _, _, _, rfl⟩, below_put10 HST2 (Nat.le_refl _) _ _ _ _ _ _ _ _ _ _⟩
            · have HN : Hid (NoTime s) := nt2 HFA.out (by omega) (fun ns hh => hp (HX.out ns hh).1.1)
              clear HX HY
              go_wp2_with fail
              refine (hcy _).mono ?_
              rintro e wa ⟨rfl, hba⟩
              have hsta := HST.out.below hz hba
              have HSTA : Hid (St w.heap.size w1.heap.size w wa p0 p1 p2 5 (valTo p0 2) (valTo p1 2) 0) := hsta
              clear hsta HST
              go_wp2_with fail
              refine (digits_no a 2 _ (by omega) hp).mono ?_
              rintro e w2 ⟨rfl, hb2⟩
              have hst2 := HSTA.out.below hz hb2
              clear HSTA
              obtain ⟨c0, c1, c2, c3, c4, c5, c6, c7, c8, c9⟩ := ten hst2.tt
              obtain ⟨d0, d1, d2, d3, d4, d5, d6, d7, d8, d9⟩ := ten hst2.res
              have hf := fun i => thaw (i := i) hst2.res
              have HST2 := hst2.bel
              clear hst2
              go_wp2
              refine bodyPost_ret (v := .tuple #[.agg (tc 7 5 0 0 0 (valTo p0 2) (valTo p1 2) 0 false 0), .bool false]) (by simp [results, Try.results18, go_sem, d0, d1, d2, d3, d4, d5, d6, d7, d8, d9]) rfl ?_
              exact ⟨.inr ⟨HN.out, _, _, _, _, rfl⟩, below_put10 HST2 (Nat.le_refl _) _ _ _ _ _ _ _ _ _ _⟩
        · omega
      · obtain rfl : k = nn := by omega
        obtain ⟨p', h', m', ns', hok, rfl, rfl, rfl, rfl⟩ := tok HFA.out (by omega) hts
        have HOK : Hid (TimeOk s p' h' m' ns') := hok
        clear hok hts
        have HB := HST.out.bel
        clear HST
        go_wp2
        refine bodyPost_ret (v := .tuple #[.agg (tc 7 p' 0 0 0 h' m' ns' false 0), .bool true]) (by simp [results, Try.results18, go_sem, d0, d1, d2, d3, d4, d5, d6, d7, d8, d9]) rfl ?_
        exact ⟨.inl ⟨_, _, _, _, HOK.out, rfl⟩, below_put10 HB (Nat.le_refl _) _ _ _ _ _ _ _ _ _ _⟩

end Go.Proofs.Qxb6600803a
