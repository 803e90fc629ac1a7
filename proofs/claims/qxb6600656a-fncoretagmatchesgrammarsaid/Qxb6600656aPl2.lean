import Derived.Test.Qxb6600656aPl
import Derived.Lib.IndexLaws
namespace Go.Proofs.Qxb6600656a

theorem ib_cases (c : UInt8) (l : List UInt8) : Lib.indexByte l c = -1 ∨ ∃ k : Nat, Lib.indexByte l c = k ∧ l[k]? = some c ∧ ∀ j, j < k → l[j]? ≠ some c := by
  have h := Lib.indexByte_ge l c
  by_cases e : Lib.indexByte l c = -1
  · exact .inl e
  · obtain ⟨k, hk⟩ := Int.eq_ofNat_of_zero_le (show 0 ≤ Lib.indexByte l c by omega)
    exact .inr ⟨k, hk, (Lib.indexByte_some hk).1, (Lib.indexByte_some hk).2⟩

theorem ia_cases (chars : List UInt8) : ∀ l : List UInt8, (Lib.indexAny l chars = -1 ∧ Lib.NoAny l chars l.length) ∨
    ∃ k : Nat, k < l.length ∧ Lib.indexAny l chars = k ∧ Lib.NoAny l chars k ∧ ∃ x, l[k]? = some x ∧ chars.contains x = true
  | [] => .inl ⟨rfl, Lib.NoAny.zero _ _⟩
  | b :: l => by
    cases hb : chars.contains b with
    | true => exact .inr ⟨0, by simp, by rw [Lib.indexAny, if_pos hb]; rfl, Lib.NoAny.zero _ _, b, rfl, hb⟩
    | false =>
      have step : ∀ n, Lib.NoAny l chars n → Lib.NoAny (b :: l) chars (n + 1) := by
        intro n hn j x hj hx
        cases j with
        | zero => simp at hx; subst hx; exact hb
        | succ j => exact hn j x (by omega) (by simpa using hx)
      rcases ia_cases chars l with ⟨h1, h2⟩ | ⟨k, hk, h1, h2, x, hx, hc⟩
      · exact .inl ⟨by rw [Lib.indexAny, h1, hb]; rfl, by simpa using step _ h2⟩
      · refine .inr ⟨k + 1, by simp; omega, ?_, step _ h2, x, by simpa using hx, hc⟩
        rw [Lib.indexAny, h1, hb, if_neg (by simp), if_neg (by simp)]
        push_cast; rfl

/-- A byte that is no decimal digit makes the whole no digits. -/
theorem digs_bad {b : Nat} {p r : List UInt8} {x : UInt8} (hx : digB b x = false) : digs b (p ++ x :: r) = false := by
  unfold digs
  rw [List.all_append, List.all_cons, hx]; simp

theorem take_past {p r : List UInt8} {x : UInt8} {k : Nat} (h : p.length < k) : (p ++ x :: r).take k = p ++ x :: r.take (k - p.length - 1) := by
  rw [List.take_append, List.take_of_length_le (by omega)]
  obtain ⟨m, hm⟩ : ∃ m, k - p.length = m + 1 := ⟨k - p.length - 1, by omega⟩
  rw [hm, List.take_succ_cons]; simp

theorem past {p r : List UInt8} {x c : UInt8} {k : Nat} (hp : c ∉ p) (hx : x ≠ c) (h : (p ++ x :: r)[k]? = some c) : p.length < k := by
  rcases Nat.lt_or_ge p.length k with h1 | h1
  · exact h1
  · exfalso
    rcases Nat.lt_or_ge k p.length with h2 | h2
    · rw [List.getElem?_append_left h2] at h
      exact hp (List.mem_of_getElem? h)
    · obtain rfl : k = p.length := by omega
      rw [List.getElem?_append_right (Nat.le_refl _)] at h
      simp at h
      exact hx h

theorem fin_bad {p r : List UInt8} {x : UInt8} {he : Bool} (hx : digB 10 x = false) (hp : (46 : UInt8) ∉ p) (hn : x ≠ 46) : fin (p ++ x :: r) he = false := by
  unfold fin
  rcases ib_cases 46 (p ++ x :: r) with h | ⟨k, hk, h1, _⟩
  · rw [h, if_pos (by decide), digs_bad hx]; simp
  · have hlt := past hp hn h1
    rw [hk, if_neg (by omega), Int.toNat_natCast, take_past hlt, digs_bad hx]
    have : (p ++ x :: r.take (k - p.length - 1) == []) = false := by
      cases p <;> rfl
    rw [this]; rfl

theorem isFl_bad {p r : List UInt8} {x : UInt8} (hx : digB 10 x = false) (hp : ∀ y ∈ p, y ≠ 46 ∧ y ≠ 101 ∧ y ≠ 69) (h1 : x ≠ 46) (h2 : x ≠ 101) (h3 : x ≠ 69) : isFl (p ++ x :: r) = false := by
  have hp46 : (46 : UInt8) ∉ p := fun h => (hp _ h).1 rfl
  unfold isFl
  rcases ia_cases [101, 69] (p ++ x :: r) with ⟨h, _⟩ | ⟨k, _, hk, _, y, hy, hc⟩
  · rw [h, if_pos (by decide), fin_bad hx hp46 h1]
  · have hlt : p.length < k := by
      have : y = 101 ∨ y = 69 := by simpa using hc
      rcases this with rfl | rfl
      · exact past (fun h => (hp _ h).2.1 rfl) h2 hy
      · exact past (fun h => (hp _ h).2.2 rfl) h3 hy
    rw [hk, if_neg (by omega), Int.toNat_natCast, take_past hlt, fin_bad hx hp46 h1]
    split <;> rfl

theorem num_bad {p r : List UInt8} {x : UInt8} (hx : digB 10 x = false) (hp : ∀ y ∈ p, y ≠ 46 ∧ y ≠ 101 ∧ y ≠ 69) (h1 : x ≠ 46) (h2 : x ≠ 101) (h3 : x ≠ 69) (hi : isInf (p ++ x :: r) = false) : num (p ++ x :: r) = 4 := by
  unfold num
  rw [hi, digs_bad hx, isFl_bad hx hp h1 h2 h3]; rfl

theorem num_vals (l : List UInt8) : num l = 2 ∨ num l = 3 ∨ num l = 4 := by
  unfold num
  split
  · simp
  · split
    · simp
    · split <;> simp

theorem tag_signed (c : UInt8) (hc : c = 43 ∨ c = 45) (l : List UInt8) : tag (c :: l) = num l := by
  have hu : uns (c :: l) = l := by rw [uns, if_pos hc]
  have h1 : isNull (c :: l) = false := by rcases hc with rfl | rfl <;> rfl
  have h2 : isBool (c :: l) = false := by rcases hc with rfl | rfl <;> rfl
  have h3 : isNan (c :: l) = false := by rcases hc with rfl | rfl <;> rfl
  have h4 : rad (c :: l) = false := by
    unfold rad
    cases l with
    | nil => rfl
    | cons d l => rcases hc with rfl | rfl <;> simp
  unfold tag num
  rw [h1, h2, h3, h4, hu]; rfl

theorem num_sign (c : UInt8) (hc : c = 43 ∨ c = 45) (l : List UInt8) : num (c :: l) = 4 := by
  have := num_bad (p := []) (x := c) (r := l) (by rcases hc with rfl | rfl <;> decide) (by simp) (by rcases hc with rfl | rfl <;> decide) (by rcases hc with rfl | rfl <;> decide) (by rcases hc with rfl | rfl <;> decide) (by rcases hc with rfl | rfl <;> rfl)
  simpa using this

theorem num_rad {l : List UInt8} (h : rad l = true) : num l = 4 := by
  unfold rad at h
  simp only [Bool.and_eq_true, Bool.or_eq_true, beq_iff_eq] at h
  have key : ∀ x : UInt8, (x = 111 ∨ x = 120) → l.take 2 = [48, x] → num l = 4 := by
    intro x hx ht
    have hl : l = [48] ++ x :: l.drop 2 := by
      conv => lhs; rw [← List.take_append_drop 2 l, ht]
      rfl
    rw [hl]
    exact num_bad (by rcases hx with rfl | rfl <;> decide) (by simp) (by rcases hx with rfl | rfl <;> decide) (by rcases hx with rfl | rfl <;> decide) (by rcases hx with rfl | rfl <;> decide) (by rcases hx with rfl | rfl <;> rfl)
  rcases h.2 with h | h
  · exact key 111 (.inl rfl) h.1
  · exact key 120 (.inr rfl) h.1

/-- The law on the tags. -/
theorem sign_law (c : UInt8) (l : List UInt8) :
    (decide (num (c :: l) = 2) || decide (num (c :: l) = 3)) = (!(c == 43) && !(c == 45) && !rad (c :: l) && !isNan (c :: l) && (decide (tag (c :: l) = 2) || decide (tag (c :: l) = 3))) ∧
    (num (c :: l) ≠ 4 → num (c :: l) = tag (c :: l)) := by
  by_cases hc : c = 43 ∨ c = 45
  · rw [num_sign c hc l]
    refine ⟨?_, fun h => absurd rfl h⟩
    rcases hc with rfl | rfl <;> simp
  · have hu : uns (c :: l) = c :: l := by rw [uns, if_neg hc]
    have e1 : (c == 43) = false := by simpa using fun e => hc (.inl e)
    have e2 : (c == 45) = false := by simpa using fun e => hc (.inr e)
    rw [e1, e2]
    cases hN : isNull (c :: l) with
    | true =>
      have ht : tag (c :: l) = 0 := by unfold tag; rw [hN]; rfl
      have hn : num (c :: l) = 4 := by
        unfold isNull at hN
        simp only [Bool.or_eq_true, or_assoc, beq_iff_eq] at hN
        rcases hN with h | h | h | h | h
        · simp at h
        all_goals (rw [h]; decide)
      rw [ht, hn]; simp
    | false =>
      cases hB : isBool (c :: l) with
      | true =>
        have ht : tag (c :: l) = 1 := by unfold tag; rw [hN, hB]; rfl
        have hn : num (c :: l) = 4 := by
          unfold isBool at hB
          simp only [Bool.or_eq_true, or_assoc, beq_iff_eq] at hB
          rcases hB with h | h | h | h | h | h
          all_goals (rw [h]; decide)
        rw [ht, hn]; simp
      | false =>
        cases hA : isNan (c :: l) with
        | true =>
          have hn : num (c :: l) = 4 := by
            unfold isNan at hA
            simp only [Bool.or_eq_true, or_assoc, beq_iff_eq] at hA
            rcases hA with h | h | h
            all_goals (rw [h]; decide)
          rw [hn]; simp
        | false =>
          cases hR : rad (c :: l) with
          | true => rw [num_rad hR]; simp
          | false =>
            have ht : tag (c :: l) = num (c :: l) := by
              unfold tag num
              rw [hN, hB, hA, hR, hu]; rfl
            rw [ht]; simp

end Go.Proofs.Qxb6600656a
