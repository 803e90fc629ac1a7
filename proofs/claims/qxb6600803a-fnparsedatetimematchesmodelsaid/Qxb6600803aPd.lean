import Derived.Test.Qxb6600803aPt
namespace Go.Proofs.Qxb6600803a
open Go.RowKit

def leap (y : Nat) : Bool := decide (y % 4 = 0 ∧ (y % 100 ≠ 0 ∨ y % 400 = 0))
def dim (y mo : Nat) : Nat := if mo = 2 then (if leap y then 29 else 28) else if mo = 4 ∨ mo = 6 ∨ mo = 9 ∨ mo = 11 then 30 else 31

theorem dim_le (y mo : Nat) : dim y mo ≤ 31 := by
  unfold dim
  repeat' split
  all_goals omega

def isZ (v : Nat) : Prop := v = 90 ∨ v = 43 ∨ v = 45
def ZoneAt (s : ByteArray) (z : Nat) : Prop := z < s.size ∧ isZ (at_ s z) ∧ ∀ j, j < z → ¬ isZ (at_ s j)
def NoZone (s : ByteArray) : Prop := ∀ j, ¬ isZ (at_ s j)

theorem oneZ {u : ByteArray} (h1 : u.size = 1) (h2 : at_ u 0 = 90) : u.data.toList = [90] := by
  have e := byteAt? u 0 (by omega)
  have hl := list_len u
  cases hu : u.data.toList with
  | nil => rw [hu] at hl; simp at hl; omega
  | cons a l =>
    rw [hu] at e hl
    simp at e hl
    rw [at_in (by omega)] at h2
    have : a = 90 := by rw [e]; exact UInt8.toNat_inj.1 h2
    have : l = [] := List.eq_nil_of_length_eq_zero (by omega)
    simp_all
theorem isOneZ {u : ByteArray} (h : (u.data.toList == [90]) = true) : u.size = 1 ∧ at_ u 0 = 90 := by
  have h' : u.data.toList = [90] := by simpa using h
  have hz : u.size = 1 := by rw [← list_len, h']; rfl
  refine ⟨hz, ?_⟩
  rw [at_in (by omega)]
  have e := byteAt? u 0 (by omega)
  rw [h'] at e
  simp at e
  rw [← e]; rfl

/-- A zone's text. -/
def OffOk (u : ByteArray) (o : Int) : Prop :=
  (u.size = 1 ∧ at_ u 0 = 90 ∧ o = 0) ∨
  (u.size = 6 ∧ at_ u 3 = 58 ∧ twoOk u 1 = true ∧ twoOk u 4 = true ∧ twoV u 1 ≤ 14 ∧ twoV u 4 ≤ 59 ∧ ((at_ u 0 = 45 ∧ o = -(60 * (twoV u 1 : Int) + (twoV u 4 : Int))) ∨ (at_ u 0 ≠ 45 ∧ o = 60 * (twoV u 1 : Int) + (twoV u 4 : Int))))

theorem OffOk.uniq {u : ByteArray} {o o' : Int} (h : OffOk u o) (k : OffOk u o') : o = o' := by
  rcases h with ⟨a1, _, a3⟩ | ⟨a1, _, _, _, _, _, a2⟩
  · rcases k with ⟨b1, _, b3⟩ | ⟨b1, _⟩ <;> omega
  · rcases k with ⟨b1, _⟩ | ⟨b1, _, _, _, _, _, b2⟩ <;> omega


/-- A date: its precision, year, month, day. -/
def DateOk (u : ByteArray) (pr y mo d : Nat) : Prop :=
  twoOk u 0 = true ∧ twoOk u 2 = true ∧ y = twoV u 0 * 100 + twoV u 2 ∧
  ((u.size = 4 ∧ pr = 1 ∧ mo = 0 ∧ d = 0) ∨
   (at_ u 4 = 45 ∧ twoOk u 5 = true ∧ mo = twoV u 5 ∧ 1 ≤ mo ∧ mo ≤ 12 ∧
    ((u.size = 7 ∧ pr = 2 ∧ d = 0) ∨
     (u.size = 10 ∧ at_ u 7 = 45 ∧ twoOk u 8 = true ∧ d = twoV u 8 ∧ 1 ≤ d ∧ d ≤ dim y mo ∧ pr = 3))))
def NoDate (u : ByteArray) : Prop := ∀ pr y mo d, ¬ DateOk u pr y mo d

theorem DateOk.uniq {u : ByteArray} {pr y mo d pr' y' mo' d' : Nat} (H : DateOk u pr y mo d) (K : DateOk u pr' y' mo' d') : pr = pr' ∧ y = y' ∧ mo = mo' ∧ d = d' := by
  obtain ⟨_, _, h1, H⟩ := H
  obtain ⟨_, _, k1, K⟩ := K
  rcases H with ⟨a1, a2, a3, a4⟩ | ⟨a0, _, a2, _, _, H⟩
  · rcases K with ⟨b1, b2, b3, b4⟩ | ⟨b0, _, _, _, _, ⟨b1, _⟩ | ⟨b1, _⟩⟩ <;> omega
  · rcases K with ⟨b1, b2, b3, b4⟩ | ⟨b0, _, b2, _, _, K⟩
    · have := at_size (s := u) (j := 4) b1 (by omega); omega
    · rcases H with ⟨c1, c2, c3⟩ | ⟨c1, _, _, c2, _, _, c3⟩
      · rcases K with ⟨d1, d2, d3⟩ | ⟨d1, _⟩ <;> omega
      · rcases K with ⟨d1, _⟩ | ⟨d1, _, _, d2, _, _, d3⟩ <;> omega

/-- The first place of byte c. -/
def FirstAt (s : ByteArray) (c t : Nat) : Prop := t < s.size ∧ at_ s t = c ∧ NoB s c 0 t
theorem FirstAt.uniq {s : ByteArray} {c t t' : Nat} (h : FirstAt s c t) (k : FirstAt s c t') : t = t' := by
  obtain ⟨_, h1, h2⟩ := h
  obtain ⟨_, k1, k2⟩ := k
  rcases Nat.lt_trichotomy t t' with e | e | e
  · exact absurd h1 (k2 t (by omega) e)
  · exact e
  · exact absurd k1 (h2 t' (by omega) e)
theorem FirstAt.not {s : ByteArray} {c t : Nat} (h : FirstAt s c t) (k : NoB s c 0 s.size) : False := k t (by omega) h.1 h.2.1
theorem ZoneAt.uniq {s : ByteArray} {t t' : Nat} (h : ZoneAt s t) (k : ZoneAt s t') : t = t' := by
  obtain ⟨_, h1, h2⟩ := h
  obtain ⟨_, k1, k2⟩ := k
  rcases Nat.lt_trichotomy t t' with e | e | e
  · exact absurd h1 (k2 t e)
  · exact e
  · exact absurd k1 (h2 t' e)
theorem ZoneAt.not {s : ByteArray} {t : Nat} (h : ZoneAt s t) (k : NoZone s) : False := k t h.2.1

/-- The clock behind the T: with its zone, or none. -/
def ClockOk (c : ByteArray) (pr h m ns : Nat) (z : Bool) (off : Int) : Prop :=
  (NoZone c ∧ TimeOk c pr h m ns ∧ z = false ∧ off = 0) ∨
  (∃ k, ZoneAt c k ∧ OffOk (c.extract k c.size) off ∧ TimeOk (c.extract 0 k) pr h m ns ∧ z = true)
theorem ClockOk.uniq {c : ByteArray} {pr h m ns pr' h' m' ns' : Nat} {z z' : Bool} {off off' : Int} (H : ClockOk c pr h m ns z off) (K : ClockOk c pr' h' m' ns' z' off') : pr = pr' ∧ h = h' ∧ m = m' ∧ ns = ns' ∧ z = z' ∧ off = off' := by
  rcases H with ⟨a1, a2, a3, a4⟩ | ⟨k, a1, a2, a3, a4⟩
  · rcases K with ⟨b1, b2, b3, b4⟩ | ⟨k', b1, _⟩
    · obtain ⟨e1, e2, e3, e4⟩ := a2.uniq b2
      exact ⟨e1, e2, e3, e4, by rw [a3, b3], by omega⟩
    · exact (b1.not a1).elim
  · rcases K with ⟨b1, _⟩ | ⟨k', b1, b2, b3, b4⟩
    · exact (a1.not b1).elim
    · obtain rfl := a1.uniq b1
      obtain ⟨e1, e2, e3, e4⟩ := a3.uniq b3
      exact ⟨e1, e2, e3, e4, by rw [a4, b4], a2.uniq b2⟩

/-- A whole date and time. -/
def DTOk (s : ByteArray) (kd pr y mo d h m ns : Nat) (z : Bool) (off : Int) : Prop :=
  (NoB s 84 0 s.size ∧ DateOk s pr y mo d ∧ kd = 5 ∧ h = 0 ∧ m = 0 ∧ ns = 0 ∧ z = false ∧ off = 0) ∨
  (∃ t dp, FirstAt s 84 t ∧ DateOk (s.extract 0 t) dp y mo d ∧ kd = 6 ∧
    ((t + 1 = s.size ∧ pr = dp ∧ h = 0 ∧ m = 0 ∧ ns = 0 ∧ z = false ∧ off = 0) ∨
     (t + 1 < s.size ∧ dp = 3 ∧ ClockOk (s.extract (t + 1) s.size) pr h m ns z off)))
def NoDT (s : ByteArray) : Prop := ∀ kd pr y mo d h m ns z off, ¬ DTOk s kd pr y mo d h m ns z off

theorem DTOk.uniq {s : ByteArray} {kd pr y mo d h m ns kd' pr' y' mo' d' h' m' ns' : Nat} {z z' : Bool} {off off' : Int} (H : DTOk s kd pr y mo d h m ns z off) (K : DTOk s kd' pr' y' mo' d' h' m' ns' z' off') :
    kd = kd' ∧ pr = pr' ∧ y = y' ∧ mo = mo' ∧ d = d' ∧ h = h' ∧ m = m' ∧ ns = ns' ∧ z = z' ∧ off = off' := by
  rcases H with ⟨a1, a2, a3, a4, a5, a6, a7, a8⟩ | ⟨t, dp, a1, a2, a3, H⟩
  · rcases K with ⟨b1, b2, b3, b4, b5, b6, b7, b8⟩ | ⟨t', dp', b1, _⟩
    · obtain ⟨e1, e2, e3, e4⟩ := a2.uniq b2
      exact ⟨by omega, e1, e2, e3, e4, by omega, by omega, by omega, by rw [a7, b7], by omega⟩
    · exact (b1.not a1).elim
  · rcases K with ⟨b1, _⟩ | ⟨t', dp', b1, b2, b3, K⟩
    · exact (a1.not b1).elim
    · obtain rfl := a1.uniq b1
      obtain ⟨e1, e2, e3, e4⟩ := a2.uniq b2
      rcases H with ⟨c1, c2, c3, c4, c5, c6, c7⟩ | ⟨c1, c2, c3⟩
      · rcases K with ⟨d1, d2, d3, d4, d5, d6, d7⟩ | ⟨d1, _⟩
        · exact ⟨by omega, by omega, e2, e3, e4, by omega, by omega, by omega, by rw [c6, d6], by omega⟩
        · omega
      · rcases K with ⟨d1, _⟩ | ⟨d1, d2, d3⟩
        · omega
        · obtain ⟨f1, f2, f3, f4, f5, f6⟩ := c3.uniq d3
          exact ⟨by omega, f1, e2, e3, e4, f2, f3, f4, f5, f6⟩

/-! Why there is none. -/
theorem nodt_date {s : ByteArray} (h : NoB s 84 0 s.size) (k : NoDate s) : NoDT s := by
  rintro kd pr y mo d h' m ns z off (⟨_, a, _⟩ | ⟨t, dp, a, _⟩)
  · exact k _ _ _ _ a
  · exact a.not h
theorem nodt_dateT {s : ByteArray} {t : Nat} (h : FirstAt s 84 t) (k : NoDate (s.extract 0 t)) : NoDT s := by
  rintro kd pr y mo d h' m ns z off (⟨a, _⟩ | ⟨t', dp, a, b, _⟩)
  · exact h.not a
  · obtain rfl := h.uniq a
    exact k _ _ _ _ b
theorem nodt_prec {s : ByteArray} {t dp y mo d : Nat} (h : FirstAt s 84 t) (k : DateOk (s.extract 0 t) dp y mo d) (h3 : dp ≠ 3) (hc : t + 1 < s.size) : NoDT s := by
  rintro kd pr y' mo' d' h' m ns z off (⟨a, _⟩ | ⟨t', dp', a, b, _, ⟨c, _⟩ | ⟨_, c, _⟩⟩)
  · exact h.not a
  · obtain rfl := h.uniq a
    omega
  · obtain rfl := h.uniq a
    obtain ⟨e, _⟩ := k.uniq b
    omega
theorem nodt_clock {s : ByteArray} {t : Nat} (h : FirstAt s 84 t) (hc : t + 1 < s.size) (k : ∀ pr h m ns z off, ¬ ClockOk (s.extract (t + 1) s.size) pr h m ns z off) : NoDT s := by
  rintro kd pr y' mo' d' h' m ns z off (⟨a, _⟩ | ⟨t', dp', a, b, _, ⟨c, _⟩ | ⟨_, _, c⟩⟩)
  · exact h.not a
  · obtain rfl := h.uniq a
    omega
  · obtain rfl := h.uniq a
    exact k _ _ _ _ _ _ c
theorem noclock_time {c : ByteArray} (h : NoZone c) (k : NoTime c) : ∀ pr h m ns z off, ¬ ClockOk c pr h m ns z off := by
  rintro pr h' m ns z off (⟨_, a, _⟩ | ⟨q, a, _⟩)
  · exact k _ _ _ _ a
  · exact a.not h
theorem noclock_off {c : ByteArray} {q : Nat} (h : ZoneAt c q) (k : ∀ o, ¬ OffOk (c.extract q c.size) o) : ∀ pr h m ns z off, ¬ ClockOk c pr h m ns z off := by
  rintro pr h' m ns z off (⟨a, _⟩ | ⟨q', a, b, _⟩)
  · exact h.not a
  · obtain rfl := h.uniq a
    exact k _ b
theorem noclock_ztime {c : ByteArray} {q : Nat} (h : ZoneAt c q) (k : NoTime (c.extract 0 q)) : ∀ pr h m ns z off, ¬ ClockOk c pr h m ns z off := by
  rintro pr h' m ns z off (⟨a, _⟩ | ⟨q', a, _, b, _⟩)
  · exact h.not a
  · obtain rfl := h.uniq a
    exact k _ _ _ _ b

end Go.Proofs.Qxb6600803a
