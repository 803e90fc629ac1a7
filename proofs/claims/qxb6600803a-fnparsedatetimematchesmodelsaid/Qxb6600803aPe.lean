import Derived.Test.Qxb6600803aPd
namespace Go.Proofs.Qxb6600803a
open Go.RowKit

def P4 (p : ByteArray) : Prop := p.size = 4 ∧ digA p = true
def Q2 (p : ByteArray) (L : Nat) : Prop := P2 p L ∧ 1 ≤ valTo p 2

/-- How far parseDateTime's loop has come. -/
def DS (p0 p1 p2 : ByteArray) (k : Nat) (pr y mo d : Nat) : Prop :=
  (k = 0 ∧ pr = 0 ∧ y = 0 ∧ mo = 0 ∧ d = 0) ∨
  (k = 1 ∧ P4 p0 ∧ pr = 1 ∧ y = valTo p0 4 ∧ mo = 0 ∧ d = 0) ∨
  (k = 2 ∧ P4 p0 ∧ Q2 p1 12 ∧ pr = 2 ∧ y = valTo p0 4 ∧ mo = valTo p1 2 ∧ d = 0) ∨
  (k = 3 ∧ P4 p0 ∧ Q2 p1 12 ∧ Q2 p2 31 ∧ pr = 3 ∧ y = valTo p0 4 ∧ mo = valTo p1 2 ∧ d = valTo p2 2)

theorem p4_iff {s : ByteArray} {b : Nat} (hb : b ≤ s.size) : P4 (s.extract 0 b) ↔ b = 4 ∧ twoOk s 0 = true ∧ twoOk s 2 = true := by
  have hz := size_ext s 0 b hb
  unfold P4
  rw [hz, digA_iff, hz]
  have ha : ∀ j, j < b → at_ (s.extract 0 b) j = at_ s j := fun j hj => by rw [at_ext hb, if_pos (by omega), Nat.zero_add]
  unfold twoOk
  rw [Bool.and_eq_true, Bool.and_eq_true]
  constructor
  · rintro ⟨e, h⟩
    obtain rfl : b = 4 := by omega
    have h0 := h 0 (by omega)
    have h1 := h 1 (by omega)
    have h2 := h 2 (by omega)
    have h3 := h 3 (by omega)
    rw [ha _ (by omega)] at h0 h1 h2 h3
    exact ⟨rfl, ⟨h0, h1⟩, ⟨h2, h3⟩⟩
  · rintro ⟨rfl, ⟨h0, h1⟩, ⟨h2, h3⟩⟩
    refine ⟨rfl, fun j hj => ?_⟩
    rw [ha _ (by omega)]
    obtain rfl | rfl | rfl | rfl : j = 0 ∨ j = 1 ∨ j = 2 ∨ j = 3 := by omega
    · exact h0
    · exact h1
    · exact h2
    · exact h3

theorem p4_val {s : ByteArray} {b : Nat} (hb : b ≤ s.size) (h : P4 (s.extract 0 b)) : valTo (s.extract 0 b) 4 = twoV s 0 * 100 + twoV s 2 := by
  obtain ⟨rfl, _, _⟩ := (p4_iff hb).1 h
  have ha : ∀ j, j < 4 → at_ (s.extract 0 4) j = at_ s j := fun j hj => by rw [at_ext hb, if_pos (by omega), Nat.zero_add]
  simp only [valTo, twoV, Nat.zero_add, Nat.reduceAdd]
  rw [ha 0 (by omega), ha 1 (by omega), ha 2 (by omega), ha 3 (by omega)]
  omega

theorem p4_le {p : ByteArray} (h : P4 p) : valTo p 4 ≤ 9999 := by
  have := valTo_lt _ (AllD_of_digA h.2)
  rw [h.1] at this
  omega

/-- Where a date's dashes stand. -/
theorem dashes {s : ByteArray} {pr y mo d : Nat} (H : DateOk s pr y mo d) {q : Nat} (hq : at_ s q = 45) : q = 4 ∨ q = 7 := by
  have hlt := at_lt (s := s) (j := q) (by omega)
  obtain ⟨t0, t2, _, H⟩ := H
  have g0 := two_dig t0
  have g2 := two_dig t2
  simp only [Nat.zero_add, Nat.reduceAdd] at g0 g2
  rcases H with ⟨a1, _⟩ | ⟨_, t5, _, _, _, H⟩
  · obtain rfl | rfl | rfl | rfl : q = 0 ∨ q = 1 ∨ q = 2 ∨ q = 3 := by omega
    all_goals omega
  · have g5 := two_dig t5
    simp only [Nat.reduceAdd] at g5
    rcases H with ⟨c1, _⟩ | ⟨c1, _, t8, _⟩
    · obtain rfl | rfl | rfl | rfl | rfl | rfl | rfl : q = 0 ∨ q = 1 ∨ q = 2 ∨ q = 3 ∨ q = 4 ∨ q = 5 ∨ q = 6 := by omega
      all_goals omega
    · have g8 := two_dig t8
      simp only [Nat.reduceAdd] at g8
      obtain rfl | rfl | rfl | rfl | rfl | rfl | rfl | rfl | rfl | rfl : q = 0 ∨ q = 1 ∨ q = 2 ∨ q = 3 ∨ q = 4 ∨ q = 5 ∨ q = 6 ∨ q = 7 ∨ q = 8 ∨ q = 9 := by omega
      all_goals omega

theorem first_dash {s : ByteArray} {pr y mo d i : Nat} (H : DateOk s pr y mo d) (hi : at_ s i = 45) (hn : NoB s 45 0 i) : i = 4 ∧ s.size ≠ 4 := by
  have hlt := at_lt (s := s) (j := i) (by omega)
  rcases dashes H hi with rfl | rfl
  · exact ⟨rfl, by omega⟩
  · obtain ⟨_, _, _, ⟨a, _⟩ | ⟨a, _⟩⟩ := H
    · omega
    · exact absurd a (hn 4 (by omega) (by omega))

theorem second_dash {s : ByteArray} {pr y mo d i j : Nat} (H : DateOk s pr y mo d) (hi : at_ s i = 45) (hn : NoB s 45 0 i) (hij : i < j) (hj : at_ s j = 45) : i = 4 ∧ j = 7 ∧ s.size = 10 := by
  obtain ⟨rfl, h4⟩ := first_dash H hi hn
  rcases dashes H hj with e | e
  · omega
  · subst e
    refine ⟨rfl, rfl, ?_⟩
    have hlt := at_lt (s := s) (j := 7) (by omega)
    obtain ⟨_, _, _, ⟨a, _⟩ | ⟨_, _, _, _, _, ⟨a, _⟩ | ⟨a, _⟩⟩⟩ := H
    · omega
    · omega
    · exact a

theorem nd0 {s p0 p1 p2 : ByteArray} {n : Int} (h : FA s 45 p0 p1 p2 n true) (hp : ¬ P4 p0) : NoDate s := by
  intro pr y mo d H
  have hT := H
  obtain ⟨t0, t2, _, H⟩ := H
  have main : ∀ i, i < s.size → at_ s i = 45 → NoB s 45 0 i → p0 = s.extract 0 i → False := by
    rintro i hi ci n1 rfl
    obtain ⟨rfl, _⟩ := first_dash hT ci n1
    exact hp ((p4_iff (by omega)).2 ⟨rfl, t0, t2⟩)
  rcases h with ⟨_, _, n1, rfl, _, _⟩ | ⟨_, _, _, i, hi, ci, n1, _, e, _⟩ | ⟨_, _, i, j, hij, hj, ci, _, n1, _, _, e, _⟩ | ⟨h, _⟩
  · rcases H with ⟨a1, _⟩ | ⟨a1, _⟩
    · exact hp (by have := (p4_iff (s := p0) (Nat.le_refl _)).2 ⟨a1, t0, t2⟩; rw [ext_all] at this; exact this)
    · exact n1 4 (by omega) (at_lt (by omega)) a1
  · exact main i hi ci n1 e
  · exact main i (by omega) ci n1 e
  · exact absurd h (by decide)

theorem nd1 {s p0 p1 p2 : ByteArray} {n : Int} (h : FA s 45 p0 p1 p2 n true) (hn : 1 < n) (hp : ¬ Q2 p1 12) : NoDate s := by
  intro pr y mo d H
  rcases h with ⟨e, _⟩ | ⟨_, _, _, i, hi, ci, n1, n2, _, rfl⟩ | ⟨_, _, i, j, hij, hj, ci, cj, n1, n2, _, _, rfl, _⟩ | ⟨h, _⟩
  · omega
  · obtain ⟨rfl, h4⟩ := first_dash H ci n1
    obtain ⟨_, _, _, ⟨a, _⟩ | ⟨_, t5, e5, l1, l12, ⟨a, _⟩ | ⟨a, a7, _⟩⟩⟩ := H
    · omega
    · have hh := (p2_iff (s := s) (a := 5) (b := s.size) (L := 12) (Nat.le_refl _) (by omega)).2 ⟨by omega, t5, by omega⟩
      exact hp ⟨hh, by rw [p2_val (Nat.le_refl _) (by omega) hh]; show 1 ≤ twoV s 5; omega⟩
    · exact n2 7 (by omega) (by omega) a7
  · obtain ⟨rfl, rfl, h10⟩ := second_dash H ci n1 hij cj
    obtain ⟨_, _, _, ⟨a, _⟩ | ⟨_, t5, e5, l1, l12, _⟩⟩ := H
    · omega
    · have hh := (p2_iff (s := s) (a := 5) (b := 7) (L := 12) (by omega) (by omega)).2 ⟨by omega, t5, by omega⟩
      exact hp ⟨hh, by rw [p2_val (by omega) (by omega) hh]; show 1 ≤ twoV s 5; omega⟩
  · exact absurd h (by decide)

theorem nd2 {s p0 p1 p2 : ByteArray} {n : Int} (h : FA s 45 p0 p1 p2 n true) (hn : 2 < n) (hp : ¬ Q2 p2 31) : NoDate s := by
  intro pr y mo d H
  rcases h with ⟨e, _⟩ | ⟨e, _⟩ | ⟨_, _, i, j, hij, hj, ci, cj, n1, n2, _, _, _, rfl⟩ | ⟨h, _⟩
  · omega
  · omega
  · obtain ⟨rfl, rfl, h10⟩ := second_dash H ci n1 hij cj
    obtain ⟨_, _, _, ⟨a, _⟩ | ⟨_, _, _, _, _, ⟨a, _⟩ | ⟨a, _, t8, e8, l1, l31, _⟩⟩⟩ := H
    · omega
    · omega
    · have hd := dim_le y mo
      have hh := (p2_iff (s := s) (a := 8) (b := s.size) (L := 31) (Nat.le_refl _) (by omega)).2 ⟨by omega, t8, by omega⟩
      exact hp ⟨hh, by rw [p2_val (Nat.le_refl _) (by omega) hh]; show 1 ≤ twoV s 8; omega⟩
  · exact absurd h (by decide)

theorem nd3 {s p0 p1 p2 : ByteArray} {n : Int} (h : FA s 45 p0 p1 p2 n false) : NoDate s := by
  intro pr y mo d H
  rcases h with ⟨_, h, _⟩ | ⟨_, h, _⟩ | ⟨_, h, _⟩ | ⟨_, i, j, k, hij, hjk, _, ci, cj, ck⟩
  · exact absurd h (by decide)
  · exact absurd h (by decide)
  · exact absurd h (by decide)
  · have := dashes H ci
    have := dashes H cj
    have := dashes H ck
    omega

/-- What the pieces of a date say of its bytes. -/
theorem dplaces {s p0 p1 p2 : ByteArray} {nn pr y mo d : Nat} (hf : FA s 45 p0 p1 p2 nn true) (hn : 1 ≤ nn) (ht : DS p0 p1 p2 nn pr y mo d) :
    twoOk s 0 = true ∧ twoOk s 2 = true ∧ y = twoV s 0 * 100 + twoV s 2 ∧
    ((s.size = 4 ∧ pr = 1 ∧ mo = 0 ∧ d = 0) ∨
     (at_ s 4 = 45 ∧ twoOk s 5 = true ∧ mo = twoV s 5 ∧ 1 ≤ mo ∧ mo ≤ 12 ∧
      ((s.size = 7 ∧ pr = 2 ∧ d = 0) ∨
       (s.size = 10 ∧ at_ s 7 = 45 ∧ twoOk s 8 = true ∧ d = twoV s 8 ∧ 1 ≤ d ∧ d ≤ 31 ∧ pr = 3)))) := by
  rcases ht with ⟨e, _⟩ | ⟨rfl, hp0, rfl, rfl, rfl, rfl⟩ | ⟨rfl, hp0, hp1, rfl, rfl, rfl, rfl⟩ | ⟨rfl, hp0, hp1, hp2, rfl, rfl, rfl, rfl⟩
  · omega
  · rcases hf with ⟨_, _, _, rfl, _, _⟩ | ⟨e, _⟩ | ⟨e, _⟩ | ⟨h, _⟩
    · have hq : P4 (p0.extract 0 p0.size) := by rw [ext_all]; exact hp0
      obtain ⟨a, b, c⟩ := (p4_iff (Nat.le_refl _)).1 hq
      have hv := p4_val (Nat.le_refl _) hq
      rw [ext_all] at hv
      exact ⟨b, c, hv, .inl ⟨a, rfl, rfl, rfl⟩⟩
    · omega
    · omega
    · exact absurd h (by decide)
  · rcases hf with ⟨e, _⟩ | ⟨_, _, _, i, hi, ci, n1, n2, rfl, rfl⟩ | ⟨e, _⟩ | ⟨h, _⟩
    · omega
    · obtain ⟨rfl, b, c⟩ := (p4_iff (by omega)).1 hp0
      obtain ⟨hh, l1⟩ := hp1
      obtain ⟨a2, b2, c2⟩ := (p2_iff (Nat.le_refl _) (by omega)).1 hh
      have hv := p2_val (Nat.le_refl _) (by omega) hh
      refine ⟨b, c, p4_val (by omega) hp0, .inr ⟨ci, b2, hv, l1, ?_, .inl ⟨by omega, rfl, rfl⟩⟩⟩
      rw [hv]; exact c2
    · omega
    · exact absurd h (by decide)
  · rcases hf with ⟨e, _⟩ | ⟨e, _⟩ | ⟨_, _, i, j, hij, hj, ci, cj, n1, n2, n3, rfl, rfl, rfl⟩ | ⟨h, _⟩
    · omega
    · omega
    · obtain ⟨rfl, b, c⟩ := (p4_iff (by omega)).1 hp0
      obtain ⟨hh, l1⟩ := hp1
      obtain ⟨a2, b2, c2⟩ := (p2_iff (by omega) (by omega)).1 hh
      have hv := p2_val (by omega) (by omega) hh
      obtain rfl : j = 7 := by omega
      obtain ⟨hh3, l3⟩ := hp2
      obtain ⟨a3, b3, c3⟩ := (p2_iff (Nat.le_refl _) (by omega)).1 hh3
      have hv3 := p2_val (Nat.le_refl _) (by omega) hh3
      refine ⟨b, c, p4_val (by omega) hp0, .inr ⟨ci, b2, hv, l1, ?_, .inr ⟨by omega, cj, b3, hv3, l3, ?_, rfl⟩⟩⟩
      · rw [hv]; exact c2
      · rw [hv3]; exact c3
    · exact absurd h (by decide)

theorem dok {s p0 p1 p2 : ByteArray} {nn pr y mo d : Nat} (hf : FA s 45 p0 p1 p2 nn true) (hn : 1 ≤ nn) (ht : DS p0 p1 p2 nn pr y mo d) (h3 : pr = 3 → d ≤ dim y mo) : DateOk s pr y mo d := by
  obtain ⟨a, b, c, ⟨e, f⟩ | ⟨e1, e2, e3, e4, e5, ⟨f, g⟩ | ⟨f1, f2, f3, f4, f5, f6, f7⟩⟩⟩ := dplaces hf hn ht
  · exact ⟨a, b, c, .inl ⟨e, f⟩⟩
  · exact ⟨a, b, c, .inr ⟨e1, e2, e3, e4, e5, .inl ⟨f, g⟩⟩⟩
  · exact ⟨a, b, c, .inr ⟨e1, e2, e3, e4, e5, .inr ⟨f1, f2, f3, f4, f5, h3 f7, f7⟩⟩⟩

theorem nd4 {s p0 p1 p2 : ByteArray} {nn y mo d : Nat} (hf : FA s 45 p0 p1 p2 nn true) (hn : 1 ≤ nn) (ht : DS p0 p1 p2 nn 3 y mo d) (h3 : ¬ d ≤ dim y mo) : NoDate s := by
  intro pr' y' mo' d' H
  obtain ⟨a, b, c, ⟨e, f, _⟩ | ⟨e1, e2, e3, e4, e5, ⟨f, g, _⟩ | ⟨f1, f2, f3, f4, f5, f6, f7⟩⟩⟩ := dplaces hf hn ht
  · omega
  · omega
  · obtain ⟨_, _, h1, ⟨h, _⟩ | ⟨_, _, h2, _, _, ⟨h, _⟩ | ⟨_, _, _, h4, _, h5, _⟩⟩⟩ := H
    · omega
    · omega
    · obtain rfl : y' = y := by omega
      obtain rfl : mo' = mo := by omega
      omega

end Go.Proofs.Qxb6600803a
