import Derived.Test.Qxb6600803aW3
namespace Go.Proofs.Qxb6600803a
open Go.RowKit

theorem AllD_of_digA {s : ByteArray} (h : digA s = true) : AllD s s.size := by
  intro j hj
  unfold digA at h
  rw [List.all_eq_true] at h
  rw [at_in hj]
  exact h _ (List.mem_of_getElem? (byteAt? s j hj))

/-- Two digits, at most L. -/
def P2 (p : ByteArray) (L : Nat) : Prop := (p.size = 2 ∧ digA p = true) ∧ valTo p 2 ≤ L

/-- The text behind the point, filled up with zeros. -/
def fill9 (f : ByteArray) : ByteArray := (f ++ ⟨#[48, 48, 48, 48, 48, 48, 48, 48, 48]⟩).extract 0 9

/-- The seconds' piece. -/
def SecOk (p : ByteArray) (ns : Nat) : Prop :=
  (Lib.indexByte p.data.toList 46 = -1 ∧ P2 p 60 ∧ ns = valTo p 2 * 1000000000) ∨
  (∃ k : Nat, k < p.size ∧ Lib.indexByte p.data.toList 46 = k ∧ P2 (p.extract 0 k) 60 ∧ (p.extract (k + 1) p.size).size ≠ 0 ∧ digA (fill9 (p.extract (k + 1) p.size)) = true ∧ ns = valTo (p.extract 0 k) 2 * 1000000000 + valTo (fill9 (p.extract (k + 1) p.size)) 9)

/-- How far parseTime's loop has come. -/
def TS (p0 p1 p2 : ByteArray) (k : Nat) (pr h m ns : Int) : Prop :=
  (k = 0 ∧ pr = 3 ∧ h = 0 ∧ m = 0 ∧ ns = 0) ∨
  (k = 1 ∧ P2 p0 23 ∧ pr = 4 ∧ h = valTo p0 2 ∧ m = 0 ∧ ns = 0) ∨
  (k = 2 ∧ P2 p0 23 ∧ P2 p1 59 ∧ pr = 5 ∧ h = valTo p0 2 ∧ m = valTo p1 2 ∧ ns = 0) ∨
  (k = 3 ∧ P2 p0 23 ∧ P2 p1 59 ∧ pr = 6 ∧ h = valTo p0 2 ∧ m = valTo p1 2 ∧ ∃ q : Nat, SecOk p2 q ∧ ns = q)

theorem ext_size_le (s : ByteArray) (a b : Nat) : (s.extract a b).size ≤ s.size := by simp; omega
theorem FA_size {s p0 p1 p2 : ByteArray} {n : Int} {c : Nat} {ok : Bool} (h : FA s c p0 p1 p2 n true) (_ : ok = true) : p0.size ≤ s.size ∧ p1.size ≤ s.size ∧ p2.size ≤ s.size := by
  have e0 : E0.size = 0 := rfl
  rcases h with ⟨_, _, _, rfl, rfl, rfl⟩ | ⟨_, _, rfl, i, _, _, _, _, rfl, rfl⟩ | ⟨_, _, i, j, _, _, _, _, _, _, _, rfl, rfl, rfl⟩ | ⟨h, _⟩
  · omega
  · have := ext_size_le s 0 i; have := ext_size_le s (i + 1) s.size; omega
  · have := ext_size_le s 0 i; have := ext_size_le s (i + 1) j; have := ext_size_le s (j + 1) s.size; omega
  · exact absurd h (by decide)
theorem fill9_size (f : ByteArray) : (fill9 f).size = 9 := by
  unfold fill9
  rw [ByteArray.size_extract, ByteArray.size_append]
  show min 9 (f.size + 9) - 0 = 9
  omega


theorem size_ext (s : ByteArray) (a b : Nat) (hb : b ≤ s.size) : (s.extract a b).size = b - a := by simp; omega

theorem at_ext {s : ByteArray} {a b : Nat} (hb : b ≤ s.size) (j : Nat) : at_ (s.extract a b) j = if a + j < b then at_ s (a + j) else 300 := by
  have hz := size_ext s a b hb
  by_cases h : a + j < b
  · rw [if_pos h]
    have h1 : j < (s.extract a b).size := by omega
    have h2 : a + j < s.size := by omega
    rw [at_in h1, at_in h2]
    have e1 := byteAt? (s.extract a b) j h1
    have e2 := byteAt? s (a + j) h2
    rw [ByteArray.data_extract, Array.toList_extract, List.extract_eq_take_drop, List.getElem?_take, List.getElem?_drop, if_pos (by omega), e2] at e1
    rw [Option.some.inj e1]
  · rw [if_neg h, at_out (by omega)]

theorem digA_iff (s : ByteArray) : digA s = true ↔ AllD s s.size := ⟨AllD_of_digA, digA_yes⟩

theorem val2 (s : ByteArray) : valTo s 2 = twoV s 0 := by
  unfold twoV
  simp only [valTo, Nat.zero_add]; omega

theorem p2_iff {s : ByteArray} {a b L : Nat} (hb : b ≤ s.size) (hab : a ≤ b) : P2 (s.extract a b) L ↔ b = a + 2 ∧ twoOk s a = true ∧ twoV s a ≤ L := by
  have hz := size_ext s a b hb
  unfold P2
  rw [hz, digA_iff]
  have key : b = a + 2 → (valTo (s.extract a b) 2 = twoV s a ∧ (AllD (s.extract a b) (s.extract a b).size ↔ twoOk s a = true)) := by
    intro e
    have e0 : at_ (s.extract a b) 0 = at_ s a := by rw [at_ext hb, if_pos (by omega)]; rfl
    have e1 : at_ (s.extract a b) 1 = at_ s (a + 1) := by rw [at_ext hb, if_pos (by omega)]
    refine ⟨by rw [val2]; unfold twoV; rw [e0, e1], ?_⟩
    rw [hz]
    unfold twoOk
    rw [Bool.and_eq_true]
    constructor
    · intro h
      have h0 := h 0 (by omega)
      have h1 := h 1 (by omega)
      rw [e0] at h0; rw [e1] at h1
      exact ⟨h0, h1⟩
    · rintro ⟨h0, h1⟩ j hj
      obtain rfl | rfl : j = 0 ∨ j = 1 := by omega
      · rw [e0]; exact h0
      · rw [e1]; exact h1
  constructor
  · rintro ⟨⟨h1, h2⟩, h3⟩
    have e : b = a + 2 := by omega
    obtain ⟨k1, k2⟩ := key e
    exact ⟨e, k2.1 h2, by rw [← k1]; exact h3⟩
  · rintro ⟨e, h2, h3⟩
    obtain ⟨k1, k2⟩ := key e
    exact ⟨⟨by omega, k2.2 h2⟩, by rw [k1]; exact h3⟩

theorem p2_all {s : ByteArray} {L : Nat} : P2 s L ↔ s.size = 2 ∧ twoOk s 0 = true ∧ twoV s 0 ≤ L := by
  have := p2_iff (s := s) (a := 0) (b := s.size) (L := L) (Nat.le_refl _) (Nat.zero_le _)
  rw [ext_all] at this
  rw [this]

theorem two_dig {s : ByteArray} {k : Nat} (h : twoOk s k = true) : (48 ≤ at_ s k ∧ at_ s k ≤ 57) ∧ (48 ≤ at_ s (k + 1) ∧ at_ s (k + 1) ≤ 57) := by
  unfold twoOk at h
  rw [Bool.and_eq_true] at h
  exact ⟨isD_iff.1 h.1, isD_iff.1 h.2⟩

/-- Where a time's colons stand. -/
theorem colons {s : ByteArray} {p h m ns : Nat} (H : TimeOk s p h m ns) {q : Nat} (hq : at_ s q = 58) : q = 2 ∨ q = 5 := by
  have hlt := at_lt (s := s) (j := q) (by omega)
  obtain ⟨t0, _, _, H⟩ := H
  have g0 := two_dig t0
  rcases H with ⟨a1, _⟩ | ⟨_, t3, _, _, H⟩
  · obtain rfl | rfl : q = 0 ∨ q = 1 := by omega
    · omega
    · have := g0.2; simp only [Nat.zero_add] at this; omega
  · have g3 := two_dig t3
    simp only [Nat.zero_add, Nat.reduceAdd] at g0 g3
    rcases H with ⟨c1, _⟩ | ⟨_, t6, _, _, H⟩
    · obtain rfl | rfl | rfl | rfl | rfl : q = 0 ∨ q = 1 ∨ q = 2 ∨ q = 3 ∨ q = 4 := by omega
      all_goals omega
    · have g6 := two_dig t6
      simp only [Nat.reduceAdd] at g6
      rcases H with ⟨e1, _⟩ | ⟨e1, _, fr, nc, _⟩
      · obtain rfl | rfl | rfl | rfl | rfl | rfl | rfl | rfl : q = 0 ∨ q = 1 ∨ q = 2 ∨ q = 3 ∨ q = 4 ∨ q = 5 ∨ q = 6 ∨ q = 7 := by omega
        all_goals omega
      · by_cases h9 : q < 9
        · obtain rfl | rfl | rfl | rfl | rfl | rfl | rfl | rfl | rfl : q = 0 ∨ q = 1 ∨ q = 2 ∨ q = 3 ∨ q = 4 ∨ q = 5 ∨ q = 6 ∨ q = 7 ∨ q = 8 := by omega
          all_goals omega
        · by_cases h18 : q < 18
          · have := isD_iff.1 (fr (q - 9) (by omega) (by omega))
            rw [show 9 + (q - 9) = q from by omega] at this
            omega
          · exact absurd hq (nc q (by omega))

theorem at_fill (f : ByteArray) (q : Nat) (hq : q < 9) : at_ (fill9 f) q = if q < f.size then at_ f q else 48 := by
  have hz : (f ++ ⟨#[48, 48, 48, 48, 48, 48, 48, 48, 48]⟩ : ByteArray).size = f.size + 9 := by rw [ByteArray.size_append]; rfl
  unfold fill9
  rw [at_ext (by omega), if_pos (by omega), Nat.zero_add]
  have h1 : q < (f ++ ⟨#[48, 48, 48, 48, 48, 48, 48, 48, 48]⟩ : ByteArray).size := by omega
  rw [at_in h1]
  have e1 := byteAt? (f ++ ⟨#[48, 48, 48, 48, 48, 48, 48, 48, 48]⟩) q h1
  rw [ByteArray.data_append, Array.toList_append] at e1
  by_cases h : q < f.size
  · rw [if_pos h, at_in h]
    rw [List.getElem?_append_left (by rw [list_len]; exact h), byteAt? f q h] at e1
    rw [Option.some.inj e1]
  · rw [if_neg h]
    rw [List.getElem?_append_right (by rw [list_len]; omega), list_len] at e1
    have hm : ∀ m, m < 9 → ([48, 48, 48, 48, 48, 48, 48, 48, 48] : List UInt8)[m]? = some 48 := by decide
    have e2 : (⟨#[48, 48, 48, 48, 48, 48, 48, 48, 48]⟩ : ByteArray).data.toList[q - f.size]? = some 48 := hm _ (by omega)
    rw [e2] at e1
    rw [← Option.some.inj e1]; rfl

/-- The fraction: the text from 9 on. -/
theorem fill_iff {s f : ByteArray} (hf : f = s.extract 9 s.size) (h9 : 9 ≤ s.size) : (digA (fill9 f) = true ↔ FrOk s 9) ∧ valTo (fill9 f) 9 = frV s 9 := by
  have hz : f.size = s.size - 9 := by rw [hf, size_ext s 9 s.size (Nat.le_refl _)]
  have ha : ∀ q, q < 9 → at_ (fill9 f) q = if 9 + q < s.size then at_ s (9 + q) else 48 := by
    intro q hq
    rw [at_fill f q hq]
    by_cases h : 9 + q < s.size
    · rw [if_pos h, if_pos (by omega), hf, at_ext (Nat.le_refl _), if_pos h]
    · rw [if_neg h, if_neg (by omega)]
  constructor
  · rw [digA_iff, fill9_size]
    constructor
    · intro h q hq hlt
      have := h q hq
      rw [ha q hq, if_pos hlt] at this
      exact this
    · intro h q hq
      rw [ha q hq]
      by_cases hlt : 9 + q < s.size
      · rw [if_pos hlt]; exact h q hq hlt
      · rw [if_neg hlt]; rfl
  · have : ∀ k, k ≤ 9 → valTo (fill9 f) k = frV s k := by
      intro k
      induction k with
      | zero => intro _; rfl
      | succ k ih =>
        intro hk
        rw [valTo, frV, ih (by omega), ha k (by omega), frD]
        split <;> omega
    exact this 9 (Nat.le_refl _)

/-- In a time the first colon is at 2, if there is one. -/
theorem first_colon {s : ByteArray} {p h m ns i : Nat} (H : TimeOk s p h m ns) (hi : at_ s i = 58) (hn : NoB s 58 0 i) : i = 2 ∧ s.size ≠ 2 ∧ at_ s 2 = 58 := by
  have hlt := at_lt (s := s) (j := i) (by omega)
  have h25 := colons H hi
  have h2 : at_ s 2 = 58 ∧ s.size ≠ 2 := by
    obtain ⟨_, _, _, ⟨a1, _⟩ | ⟨a1, _⟩⟩ := H
    · omega
    · exact ⟨a1, by have := at_lt (s := s) (j := 2) (by omega); omega⟩
  rcases h25 with rfl | rfl
  · exact ⟨rfl, h2.2, h2.1⟩
  · exact absurd h2.1 (hn 2 (by omega) (by omega))

theorem nt0 {s p0 p1 p2 : ByteArray} {n : Int} (h : FA s 58 p0 p1 p2 n true) (hp : ¬ P2 p0 23) : NoTime s := by
  intro p h' m ns H
  have hT := H
  obtain ⟨t0, e0, l0, H⟩ := H
  have main : ∀ i, i < s.size → at_ s i = 58 → NoB s 58 0 i → p0 = s.extract 0 i → False := by
    rintro i hi ci n1 rfl
    obtain ⟨rfl, _, _⟩ := first_colon hT ci n1
    exact hp ((p2_iff (by omega) (by omega)).2 ⟨rfl, t0, by omega⟩)
  rcases h with ⟨_, _, n1, rfl, _, _⟩ | ⟨_, _, _, i, hi, ci, n1, _, e, _⟩ | ⟨_, _, i, j, hij, hj, ci, _, n1, _, _, e, _⟩ | ⟨h, _⟩
  · rcases H with ⟨a1, _⟩ | ⟨a1, _⟩
    · exact hp (p2_all.2 ⟨a1, t0, by omega⟩)
    · exact n1 2 (by omega) (at_lt (by omega)) a1
  · exact main i hi ci n1 e
  · exact main i (by omega) ci n1 e
  · exact absurd h (by decide)

theorem second {s : ByteArray} {p h m ns i : Nat} (H : TimeOk s p h m ns) (hi : at_ s i = 58) (hn : NoB s 58 0 i) : twoOk s 3 = true ∧ m = twoV s 3 ∧ m ≤ 59 ∧ (s.size = 5 ∨ at_ s 5 = 58) := by
  obtain ⟨_, h2, _⟩ := first_colon H hi hn
  obtain ⟨_, _, _, ⟨a1, _⟩ | ⟨_, a2, a3, a4, H⟩⟩ := H
  · exact absurd a1 h2
  · refine ⟨a2, a3, a4, ?_⟩
    rcases H with ⟨c1, _⟩ | ⟨c1, _⟩
    · exact .inl c1
    · exact .inr c1

theorem second_colon {s : ByteArray} {p h m ns i j : Nat} (H : TimeOk s p h m ns) (hi : at_ s i = 58) (hn : NoB s 58 0 i) (hij : i < j) (hj : at_ s j = 58) (hn2 : NoB s 58 (i + 1) j) : j = 5 ∧ at_ s 5 = 58 := by
  obtain ⟨rfl, _, _⟩ := first_colon H hi hn
  rcases colons H hj with e | e
  · omega
  · subst e; exact ⟨rfl, hj⟩

theorem nt1 {s p0 p1 p2 : ByteArray} {n : Int} (h : FA s 58 p0 p1 p2 n true) (hn : 1 < n) (hp : ¬ P2 p1 59) : NoTime s := by
  intro p h' m ns H
  rcases h with ⟨e, _⟩ | ⟨_, _, _, i, hi, ci, n1, n2, _, rfl⟩ | ⟨_, _, i, j, hij, hj, ci, cj, n1, n2, _, _, rfl, _⟩ | ⟨h, _⟩
  · omega
  · obtain ⟨rfl, _, _⟩ := first_colon H ci n1
    obtain ⟨t3, e3, l3, h5⟩ := second H ci n1
    rcases h5 with h5 | h5
    · exact hp ((p2_iff (Nat.le_refl _) (by omega)).2 ⟨by omega, t3, by show twoV s 3 ≤ 59; omega⟩)
    · exact n2 5 (by omega) (at_lt (by omega)) h5
  · obtain ⟨t3, e3, l3, h5⟩ := second H ci n1
    obtain ⟨rfl, _⟩ := second_colon H ci n1 hij cj n2
    obtain ⟨rfl, _, _⟩ := first_colon H ci n1
    exact hp ((p2_iff (by omega) (by omega)).2 ⟨by omega, t3, by show twoV s 3 ≤ 59; omega⟩)
  · exact absurd h (by decide)

theorem at_byte {s : ByteArray} {k : Nat} (hk : k < s.size) (c : UInt8) : s[k]'hk = c ↔ at_ s k = c.toNat := by
  rw [at_in hk]
  exact ⟨fun e => by rw [e], fun e => UInt8.toNat_inj.1 e⟩

theorem ext_ext (s : ByteArray) (a b : Nat) : (s.extract a s.size).extract b (s.extract a s.size).size = s.extract (a + b) s.size := by
  apply ByteArray.ext
  apply Array.ext'
  rw [size_ext s a s.size (Nat.le_refl _)]
  simp only [ByteArray.data_extract, Array.toList_extract, List.extract_eq_take_drop]
  have hl : s.data.toList.length = s.size := list_len s
  rw [List.take_of_length_le (l := s.data.toList.drop a) (by rw [List.length_drop, hl]; exact Nat.le_refl _), List.drop_drop, List.take_of_length_le (by rw [List.length_drop, hl]; omega), List.take_of_length_le (by rw [List.length_drop, hl]; omega)]

theorem ext_ext0 (s : ByteArray) (a b : Nat) : (s.extract a s.size).extract 0 b = s.extract a (a + b) := by
  apply ByteArray.ext
  apply Array.ext'
  simp only [ByteArray.data_extract, Array.toList_extract, List.extract_eq_take_drop]
  have hl : s.data.toList.length = s.size := list_len s
  rw [List.take_of_length_le (l := s.data.toList.drop a) (by rw [List.length_drop, hl]; exact Nat.le_refl _)]
  simp

theorem nt2 {s p0 p1 p2 : ByteArray} {n : Int} (h : FA s 58 p0 p1 p2 n true) (hn : 2 < n) (hp : ∀ ns, ¬ SecOk p2 ns) : NoTime s := by
  intro p h' m ns H
  rcases h with ⟨e, _⟩ | ⟨e, _⟩ | ⟨_, _, i, j, hij, hj, ci, cj, n1, n2, n3, _, _, rfl⟩ | ⟨h, _⟩
  · omega
  · omega
  · obtain ⟨rfl, h5⟩ := second_colon H ci n1 hij cj n2
    obtain ⟨rfl, h2, _⟩ := first_colon H ci n1
    replace hp : ∀ ns, ¬ SecOk (s.extract 6 s.size) ns := hp
    obtain ⟨_, _, _, ⟨a1, _⟩ | ⟨_, _, _, _, ⟨c1, _⟩ | ⟨_, t6, l6, _, H⟩⟩⟩ := H
    · exact h2 a1
    · have := at_lt (s := s) (j := 5) (by omega); omega
    · have g6 := two_dig t6
      have z6 : 8 ≤ s.size := twoOk_size t6
      have hz : (s.extract 6 s.size).size = s.size - 6 := size_ext s 6 s.size (Nat.le_refl _)
      have ha : ∀ q, 6 + q < s.size → at_ (s.extract 6 s.size) q = at_ s (6 + q) := fun q hq => by rw [at_ext (Nat.le_refl _), if_pos hq]
      have b0 := ha 0 (by omega)
      have b1 := ha 1 (by omega)
      simp only [Nat.reduceAdd, Nat.add_zero] at b0 b1 g6
      rcases H with ⟨e8, _⟩ | ⟨e8, z9, fr, _, _⟩
      · refine hp (valTo (s.extract 6 s.size) 2 * 1000000000) (.inl ⟨?_, (p2_iff (Nat.le_refl _) (by omega)).2 ⟨by omega, t6, l6⟩, rfl⟩)
        rcases indexByte_cases 46 (s.extract 6 s.size) with ⟨hix, _⟩ | ⟨k, hk, _, hc, _⟩
        · exact hix
        · have := (at_byte hk 46).1 hc
          have h46 : (46 : UInt8).toNat = 46 := rfl
          obtain rfl | rfl : k = 0 ∨ k = 1 := by omega
          · omega
          · omega
      · have b2 := ha 2 (by omega)
        simp only [Nat.reduceAdd] at b2
        have hix : Lib.indexByte (s.extract 6 s.size).data.toList 46 = (2 : Nat) := by
          rcases indexByte_cases 46 (s.extract 6 s.size) with ⟨_, hno⟩ | ⟨k, hk, hix, hc, hno⟩
          · exact absurd ((at_byte (by omega) 46).2 (by rw [b2, e8]; rfl)) (hno 2 (by omega))
          · have := (at_byte hk 46).1 hc
            have h46 : (46 : UInt8).toNat = 46 := rfl
            have hk2 : ¬ 2 < k := fun hlt => hno 2 (by omega) hlt ((at_byte (by omega) 46).2 (by rw [b2, e8]; rfl))
            obtain rfl | rfl | rfl : k = 0 ∨ k = 1 ∨ k = 2 := by omega
            · omega
            · omega
            · exact hix
        have hE : (s.extract 6 s.size).extract (2 + 1) (s.extract 6 s.size).size = s.extract 9 s.size := ext_ext s 6 3
        have hA : (s.extract 6 s.size).extract 0 2 = s.extract 6 8 := ext_ext0 s 6 2
        obtain ⟨f1, _⟩ := fill_iff (s := s) rfl (by omega)
        refine hp _ (.inr ⟨2, by omega, hix, ?_, ?_, ?_, rfl⟩)
        · rw [hA]; exact (p2_iff (by omega) (by omega)).2 ⟨rfl, t6, l6⟩
        · rw [hE, size_ext s 9 s.size (Nat.le_refl _)]; omega
        · rw [hE]; exact f1.2 fr
  · exact absurd h (by decide)

theorem nt3 {s p0 p1 p2 : ByteArray} {n : Int} (h : FA s 58 p0 p1 p2 n false) : NoTime s := by
  intro p h' m ns H
  rcases h with ⟨_, h, _⟩ | ⟨_, h, _⟩ | ⟨_, h, _⟩ | ⟨_, i, j, k, hij, hjk, _, ci, cj, ck⟩
  · exact absurd h (by decide)
  · exact absurd h (by decide)
  · exact absurd h (by decide)
  · have := colons H ci
    have := colons H cj
    have := colons H ck
    omega

theorem p2_val {s : ByteArray} {a b L : Nat} (hb : b ≤ s.size) (hab : a ≤ b) (h : P2 (s.extract a b) L) : valTo (s.extract a b) 2 = twoV s a := by
  obtain ⟨e, _, _⟩ := (p2_iff hb hab).1 h
  rw [val2]
  unfold twoV
  rw [at_ext hb, at_ext hb, if_pos (by omega), if_pos (by omega)]; rfl

theorem tok {s p0 p1 p2 : ByteArray} {nn : Nat} {pr h m ns : Int} (hf : FA s 58 p0 p1 p2 nn true) (hn : nn = 1 ∨ nn = 2 ∨ nn = 3) (ht : TS p0 p1 p2 nn pr h m ns) : ∃ p' h' m' ns' : Nat, TimeOk s p' h' m' ns' ∧ pr = p' ∧ h = h' ∧ m = m' ∧ ns = ns' := by
  rcases ht with ⟨e, _⟩ | ⟨rfl, hp0, rfl, rfl, rfl, rfl⟩ | ⟨rfl, hp0, hp1, rfl, rfl, rfl, rfl⟩ | ⟨rfl, hp0, hp1, rfl, rfl, rfl, q, hq, rfl⟩
  · omega
  · rcases hf with ⟨_, _, n1, rfl, _, _⟩ | ⟨e, _⟩ | ⟨e, _⟩ | ⟨e, _⟩
    · obtain ⟨z, t0, l0⟩ := p2_all.1 hp0
      exact ⟨4, twoV p0 0, 0, 0, ⟨t0, rfl, l0, .inl ⟨z, rfl, rfl, rfl⟩⟩, rfl, by rw [val2], rfl, rfl⟩
    · exact absurd e (by decide)
    · exact absurd e (by decide)
    · exact absurd e (by decide)
  · rcases hf with ⟨e, _⟩ | ⟨_, _, _, i, hi, ci, n1, n2, rfl, rfl⟩ | ⟨e, _⟩ | ⟨e, _⟩
    · exact absurd e (by decide)
    · obtain ⟨rfl, t0, l0⟩ := (p2_iff (by omega) (by omega)).1 hp0
      obtain ⟨z, t3, l3⟩ := (p2_iff (Nat.le_refl _) (by omega)).1 hp1
      have e0 := p2_val (by omega) (by omega) hp0
      have e3 := p2_val (Nat.le_refl _) (by omega) hp1
      simp only [Nat.zero_add, Nat.reduceAdd] at *
      exact ⟨5, twoV s 0, twoV s 3, 0, ⟨t0, rfl, l0, .inr ⟨ci, t3, rfl, l3, .inl ⟨z, rfl, rfl⟩⟩⟩, rfl, by rw [e0], by rw [e3], rfl⟩
    · exact absurd e (by decide)
    · exact absurd e (by decide)
  · rcases hf with ⟨e, _⟩ | ⟨e, _⟩ | ⟨_, _, i, j, hij, hj, ci, cj, n1, n2, n3, rfl, rfl, rfl⟩ | ⟨e, _⟩
    · exact absurd e (by decide)
    · exact absurd e (by decide)
    · obtain ⟨rfl, t0, l0⟩ := (p2_iff (by omega) (by omega)).1 hp0
      obtain ⟨hj5, t3, l3⟩ := (p2_iff (by omega) (by omega)).1 hp1
      simp only [Nat.zero_add, Nat.reduceAdd] at hj5
      subst hj5
      have e0 := p2_val (by omega) (by omega) hp0
      have e3 := p2_val (by omega) (by omega) hp1
      simp only [Nat.zero_add, Nat.reduceAdd] at *
      rcases hq with ⟨hix, hp2, hqe⟩ | ⟨k, hk, hix, hp2, hfz, hd, hqe⟩
      · obtain ⟨z, t6, l6⟩ := (p2_iff (Nat.le_refl _) (by omega)).1 hp2
        have e6 := p2_val (Nat.le_refl _) (by omega) hp2
        exact ⟨6, twoV s 0, twoV s 3, twoV s 6 * 1000000000, ⟨t0, rfl, l0, .inr ⟨ci, t3, rfl, l3, .inr ⟨cj, t6, l6, rfl, .inl ⟨z, rfl⟩⟩⟩⟩, rfl, by simp only [e0], by simp only [e3], by omega⟩
      · have hz : (s.extract 6 s.size).size = s.size - 6 := size_ext s 6 s.size (Nat.le_refl _)
        rw [ext_ext0 s 6 k] at hp2
        obtain ⟨hk2, t6, l6⟩ := (p2_iff (by omega) (by omega)).1 hp2
        obtain rfl : k = 2 := by omega
        have e6 : valTo (s.extract 6 8) 2 = twoV s 6 := p2_val (by omega) (by omega) hp2
        have hE : (s.extract 6 s.size).extract (2 + 1) (s.extract 6 s.size).size = s.extract 9 s.size := ext_ext s 6 3
        have hA : (s.extract 6 s.size).extract 0 2 = s.extract 6 8 := ext_ext0 s 6 2
        rw [hE] at hfz hd hqe
        rw [hA] at hqe
        rw [size_ext s 9 s.size (Nat.le_refl _)] at hfz
        obtain ⟨f1, f2⟩ := fill_iff (s := s) rfl (by omega)
        have h8 : at_ s 8 = 46 := by
          rcases indexByte_cases 46 (s.extract 6 s.size) with ⟨e, _⟩ | ⟨k, hk, e, hc, _⟩
          · rw [e] at hix; omega
          · obtain rfl : k = 2 := by rw [e] at hix; omega
            have := (at_byte hk 46).1 hc
            rw [at_ext (Nat.le_refl _), if_pos (by omega)] at this
            exact this
        have hnc : NoC s := fun q hq => by
          by_cases hlt : q < s.size
          · exact n3 q (by omega) hlt
          · rw [at_out hlt]; decide
        refine ⟨6, twoV s 0, twoV s 3, twoV s 6 * 1000000000 + frV s 9, ⟨t0, rfl, l0, .inr ⟨ci, t3, rfl, l3, .inr ⟨cj, t6, l6, rfl, .inr ⟨h8, by omega, f1.1 hd, hnc, rfl⟩⟩⟩⟩, rfl, by simp only [e0], by simp only [e3], ?_⟩
        omega
    · exact absurd e (by decide)

end Go.Proofs.Qxb6600803a
