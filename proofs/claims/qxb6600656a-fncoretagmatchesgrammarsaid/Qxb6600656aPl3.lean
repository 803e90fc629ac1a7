import Derived.Test.Qxb6600656aPl2
namespace Go.Proofs.Qxb6600656a

/-- How many decimal digits the text begins with. -/
def nd : List UInt8 → Nat
  | [] => 0
  | c :: l => if digB 10 c then nd l + 1 else 0

/-- Behind the whole part: is there a point, how many digits behind it, what is left. -/
def st2 : List UInt8 → Bool × Nat × List UInt8
  | [] => (false, 0, [])
  | c :: t => if c = 46 then (true, nd t, t.drop (nd t)) else (false, 0, c :: t)

/-- The exponent: none where it has no digit. -/
def st3 : List UInt8 → Option (Bool × List UInt8)
  | [] => some (false, [])
  | c :: t => if c = 101 ∨ c = 69 then (if nd (uns t) = 0 then none else some (true, (uns t).drop (nd (uns t)))) else some (false, c :: t)

def modelNum (u : List UInt8) : Nat :=
  match st3 (st2 (u.drop (nd u))).2.2 with
  | none => 4
  | some (e, r) => if r ≠ [] ∨ nd u + (st2 (u.drop (nd u))).2.1 = 0 then 4 else if (!(st2 (u.drop (nd u))).1 && !e) = true then 2 else 3

def modelTag (l : List UInt8) : Nat :=
  if isNull l then 0 else if isBool l then 1 else if isNan l then 3 else if rad l then 2 else if isInf (uns l) then 3 else modelNum (uns l)

/-! ### Digits ahead -/
theorem nd_split : ∀ l : List UInt8, ∃ D r, l = D ++ r ∧ D.length = nd l ∧ r = l.drop (nd l) ∧ (∀ x ∈ D, digB 10 x = true) ∧ (r = [] ∨ ∃ c t, r = c :: t ∧ digB 10 c = false)
  | [] => ⟨[], [], rfl, rfl, rfl, by simp, .inl rfl⟩
  | c :: l => by
    cases hc : digB 10 c with
    | true =>
      obtain ⟨D, r, h1, h2, h3, h4, h5⟩ := nd_split l
      have hn : nd (c :: l) = nd l + 1 := by rw [nd, if_pos hc]
      refine ⟨c :: D, r, by rw [h1]; rfl, by rw [hn, ← h2]; rfl, by rw [hn, h3]; rfl, ?_, h5⟩
      intro x hx
      rcases List.mem_cons.1 hx with rfl | hx
      · exact hc
      · exact h4 x hx
    | false =>
      have hn : nd (c :: l) = 0 := by rw [nd, if_neg (by rw [hc]; simp)]
      exact ⟨[], c :: l, rfl, by rw [hn]; rfl, by rw [hn]; rfl, by simp, .inr ⟨c, l, rfl, hc⟩⟩

theorem dig_ne {x : UInt8} (h : digB 10 x = true) : x ≠ 46 ∧ x ≠ 101 ∧ x ≠ 69 := by
  refine ⟨?_, ?_, ?_⟩ <;> (rintro rfl; exact absurd h (by decide))

theorem digs_D {D : List UInt8} (h : ∀ x ∈ D, digB 10 x = true) : digs 10 D = !D.isEmpty := by
  unfold digs
  rw [List.all_eq_true.2 h]; simp

theorem digs_nd {l : List UInt8} : digs 10 l = (decide (nd l ≠ 0) && (l.drop (nd l) == [])) := by
  obtain ⟨D, r, h1, h2, h3, h4, h5⟩ := nd_split l
  rw [← h3, ← h2]
  rcases h5 with rfl | ⟨c, t, rfl, hc⟩
  · rw [h1, List.append_nil, digs_D h4]
    cases D <;> simp
  · rw [h1, digs_bad hc]
    simp

theorem ia_app {D : List UInt8} (h : ∀ x ∈ D, digB 10 x = true) (r : List UInt8) : Lib.indexAny (D ++ r) [101, 69] = if Lib.indexAny r [101, 69] = -1 then -1 else (D.length : Int) + Lib.indexAny r [101, 69] := by
  induction D with
  | nil => simp
  | cons d D ih =>
    have hd := dig_ne (h d (by simp))
    have hc : ([101, 69] : List UInt8).contains d = false := by simp [hd.2.1, hd.2.2]
    have hge := Lib.indexAny_ge [101, 69] r
    rw [List.cons_append, Lib.indexAny, hc, ih fun x hx => h x (by simp [hx])]
    by_cases e : Lib.indexAny r [101, 69] = -1
    · rw [if_pos e]; simp [e]
    · rw [if_neg e, if_neg (by simp), if_neg (by simp; omega)]
      simp only [List.length_cons]; push_cast; rw [if_neg e]; omega

theorem ib_app {D : List UInt8} (h : ∀ x ∈ D, digB 10 x = true) (X : List UInt8) : Lib.indexByte (D ++ 46 :: X) 46 = D.length := by
  induction D with
  | nil => simp [Lib.indexByte]
  | cons d D ih =>
    have hd := dig_ne (h d (by simp))
    have hc : (d == 46) = false := by simp [hd.1]
    rw [List.cons_append, Lib.indexByte, hc, ih fun x hx => h x (by simp [hx])]
    rw [if_neg (by simp), if_neg (by simp)]
    simp only [List.length_cons]; push_cast; rfl
theorem ib_D {D : List UInt8} (h : ∀ x ∈ D, digB 10 x = true) : Lib.indexByte D 46 = -1 := by
  induction D with
  | nil => rfl
  | cons d D ih =>
    have hd := dig_ne (h d (by simp))
    have hc : (d == 46) = false := by simp [hd.1]
    rw [Lib.indexByte, hc, ih fun x hx => h x (by simp [hx])]; rfl

theorem fin_D {D : List UInt8} {he : Bool} (h : ∀ x ∈ D, digB 10 x = true) : fin D he = (he && !D.isEmpty) := by
  unfold fin
  rw [ib_D h, if_pos (by decide), digs_D h]
theorem fin_point {D : List UInt8} {he : Bool} (h : ∀ x ∈ D, digB 10 x = true) (X : List UInt8) : fin (D ++ 46 :: X) he = if D == [] then digs 10 X else (X == [] || digs 10 X) := by
  unfold fin
  rw [ib_app h, if_neg (by omega), Int.toNat_natCast]
  have e1 : (D ++ 46 :: X).take D.length = D := by rw [List.take_append_of_le_length (Nat.le_refl _), List.take_length]
  have e2 : (D ++ 46 :: X).drop (D.length + 1) = X := by rw [List.drop_append, List.drop_of_length_le (by omega)]; simp
  rw [e1, e2, digs_D h]
  cases D with
  | nil => rfl
  | cons d D => simp

theorem fin_point_D {D F : List UInt8} {he : Bool} (h : ∀ x ∈ D, digB 10 x = true) (hF : ∀ x ∈ F, digB 10 x = true) : fin (D ++ 46 :: F) he = decide (D.length + F.length ≠ 0) := by
  rw [fin_point h, digs_D hF]
  cases D <;> cases F <;> simp

/-- The test of a float with an exponent: the mantissa M, the mark, the rest. -/
theorem isFl_exp {M t : List UInt8} {c : UInt8} (hM : Lib.indexAny (M ++ c :: t) [101, 69] = M.length) : isFl (M ++ c :: t) = (digs 10 (uns t) && fin M true) := by
  unfold isFl
  rw [hM, if_neg (by omega), Int.toNat_natCast]
  have e1 : (M ++ c :: t).take M.length = M := by rw [List.take_append_of_le_length (Nat.le_refl _), List.take_length]
  have e2 : (M ++ c :: t).drop (M.length + 1) = t := by rw [List.drop_append, List.drop_of_length_le (by omega)]; simp
  rw [e1, e2]
  cases digs 10 (uns t) <;> rfl

theorem ia_cons_hit {c : UInt8} {t : List UInt8} (h : c = 101 ∨ c = 69) : Lib.indexAny (c :: t) [101, 69] = 0 := by
  rw [Lib.indexAny, if_pos (by simpa using h)]

/-- What is left behind the exponent's digits, against 'digits'. -/
theorem digs_of_nd0 {l : List UInt8} (h : nd l = 0) : digs 10 l = false := by rw [digs_nd, h]; simp
theorem digs_of_nd {l : List UInt8} (h : nd l ≠ 0) : digs 10 l = (l.drop (nd l) == []) := by rw [digs_nd]; simp [h]

theorem ia_point {D X : List UInt8} (h : ∀ x ∈ D, digB 10 x = true) : Lib.indexAny (D ++ 46 :: X) [101, 69] = if Lib.indexAny X [101, 69] = -1 then -1 else (D.length : Int) + 1 + Lib.indexAny X [101, 69] := by
  have hge := Lib.indexAny_ge [101, 69] X
  have hc : ([101, 69] : List UInt8).contains 46 = false := by decide
  rw [ia_app h, Lib.indexAny, hc]
  by_cases e : Lib.indexAny X [101, 69] = -1
  · simp [e]
  · have e2 : (if false = true then (0 : Int) else if (Lib.indexAny X [101, 69] == -1) = true then -1 else Lib.indexAny X [101, 69] + 1) = Lib.indexAny X [101, 69] + 1 := by
      rw [if_neg (by simp), if_neg (by simpa using e)]
    rw [e2, if_neg e, if_neg (by omega)]; omega

theorem isFl_point_no {D X : List UInt8} (h : ∀ x ∈ D, digB 10 x = true) (hX : Lib.indexAny X [101, 69] = -1) : isFl (D ++ 46 :: X) = fin (D ++ 46 :: X) false := by
  unfold isFl
  rw [ia_point h, if_pos hX, if_pos (by decide)]

theorem ia_D {D : List UInt8} (h : ∀ x ∈ D, digB 10 x = true) : Lib.indexAny D [101, 69] = -1 := by
  have := ia_app h []
  simpa [Lib.indexAny] using this

/-- Digits, a point, digits, then a byte that is neither a digit nor an exponent's mark: no float. -/
theorem isFl_point_bad {D F t : List UInt8} {c : UInt8} (h : ∀ x ∈ D, digB 10 x = true) (hF : ∀ x ∈ F, digB 10 x = true) (hc : digB 10 c = false) (h1 : c ≠ 101) (h2 : c ≠ 69) : isFl (D ++ 46 :: (F ++ c :: t)) = false := by
  have hfin : ∀ t' he, fin (D ++ 46 :: (F ++ c :: t')) he = false := by
    intro t' he
    rw [fin_point h, digs_bad hc]
    have : (F ++ c :: t' == []) = false := by cases F <;> rfl
    rw [this]; split <;> rfl
  unfold isFl
  rcases ia_cases [101, 69] (D ++ 46 :: (F ++ c :: t)) with ⟨e, _⟩ | ⟨k, _, hk, _, y, hy, hyc⟩
  · rw [e, if_pos (by decide), hfin]
  · have hy2 : y = 101 ∨ y = 69 := by simpa using hyc
    have hmem : ∀ z ∈ D ++ 46 :: F, z ≠ 101 ∧ z ≠ 69 := by
      intro z hz
      rw [List.mem_append, List.mem_cons] at hz
      rcases hz with hz | rfl | hz
      · exact (dig_ne (h z hz)).2
      · decide
      · exact (dig_ne (hF z hz)).2
    have e : D ++ 46 :: (F ++ c :: t) = (D ++ 46 :: F) ++ c :: t := by simp
    have hlt : (D ++ 46 :: F).length < k := by
      rw [e] at hy
      rcases hy2 with rfl | rfl
      · exact past (fun hh => (hmem _ hh).1 rfl) h1 hy
      · exact past (fun hh => (hmem _ hh).2 rfl) h2 hy
    rw [hk, if_neg (by omega), Int.toNat_natCast, e, take_past hlt]
    have e3 : (D ++ 46 :: F) ++ c :: t.take (k - (D ++ 46 :: F).length - 1) = D ++ 46 :: (F ++ c :: t.take (k - (D ++ 46 :: F).length - 1)) := by simp
    rw [e3, hfin]
    split <;> rfl

theorem modelNum_eq (u : List UInt8) : modelNum u = if digs 10 u then 2 else if isFl u then 3 else 4 := by
  obtain ⟨D, r, h1, h2, h3, h4, h5⟩ := nd_split u
  unfold modelNum
  rw [← h3, ← h2]
  rcases h5 with rfl | ⟨c, t, rfl, hc⟩
  · rw [List.append_nil] at h1
    subst h1
    rw [digs_D h4]
    simp only [st2, st3]
    cases u with
    | nil => rfl
    | cons d D => rfl
  · have hd : digs 10 u = false := by rw [h1]; exact digs_bad hc
    rw [hd]
    by_cases c46 : c = 46
    · subst c46
      obtain ⟨F, r2, f1, f2, f3, f4, f5⟩ := nd_split t
      simp only [st2, if_true]
      rw [← f3, ← f2]
      rcases f5 with rfl | ⟨c2, t2, rfl, hc2⟩
      · rw [List.append_nil] at f1
        subst f1
        have hi : isFl u = decide (D.length + t.length ≠ 0) := by
          rw [h1, isFl_point_no h4 (ia_D f4), fin_point_D h4 f4]
        rw [hi]
        simp only [st3]
        generalize D.length + t.length = n
        by_cases e : n = 0
        · simp [e]
        · simp [e]
      · by_cases ce : c2 = 101 ∨ c2 = 69
        · have hM : Lib.indexAny ((D ++ 46 :: F) ++ c2 :: t2) [101, 69] = (D ++ 46 :: F).length := by
            have : (D ++ 46 :: F) ++ c2 :: t2 = D ++ 46 :: (F ++ c2 :: t2) := by simp
            rw [this, ia_point h4, ia_app f4, ia_cons_hit ce]
            simp
            omega
          have hi : isFl u = (digs 10 (uns t2) && decide (D.length + F.length ≠ 0)) := by
            have : u = (D ++ 46 :: F) ++ c2 :: t2 := by rw [h1, f1]; simp
            rw [this, isFl_exp hM, fin_point_D h4 f4]
          rw [hi]
          simp only [st3, if_pos ce]
          by_cases hn : nd (uns t2) = 0
          · rw [if_pos hn, digs_of_nd0 hn]; rfl
          · rw [if_neg hn, digs_of_nd hn]
            simp only
            by_cases hr : (uns t2).drop (nd (uns t2)) = []
            · rw [hr]
              generalize D.length + F.length = n
              by_cases e : n = 0
              · simp [e]
              · simp [e]
            · rw [if_pos (.inl hr)]; simp [hr]
        · have hi : isFl u = false := by
            rw [h1, f1]
            exact isFl_point_bad h4 f4 hc2 (fun e => ce (.inl e)) (fun e => ce (.inr e))
          rw [hi]
          simp only [st3, if_neg ce]
          rw [if_pos (.inl (by simp))]; rfl
    · by_cases ce : c = 101 ∨ c = 69
      · have hM : Lib.indexAny (D ++ c :: t) [101, 69] = D.length := by
          rw [ia_app h4, ia_cons_hit ce]; simp
        have hi : isFl u = (digs 10 (uns t) && !D.isEmpty) := by
          rw [h1, isFl_exp hM, fin_D h4]; rfl
        rw [hi]
        simp only [st2, if_neg c46, st3, if_pos ce]
        by_cases hn : nd (uns t) = 0
        · rw [if_pos hn, digs_of_nd0 hn]; rfl
        · rw [if_neg hn, digs_of_nd hn]
          simp only
          by_cases hr : (uns t).drop (nd (uns t)) = []
          · rw [hr]
            cases D with
            | nil => simp
            | cons d D => simp
          · rw [if_pos (.inl hr)]; simp [hr]
      · have hi : isFl u = false := by
          rw [h1]
          exact isFl_bad hc (fun y hy => dig_ne (h4 y hy)) c46 (fun e => ce (.inl e)) (fun e => ce (.inr e))
        rw [hi]
        simp only [st2, if_neg c46, st3, if_neg ce]
        rw [if_pos (.inl (by simp))]; rfl

/-- A radix integer is no infinity. -/
theorem rad_inf {l : List UInt8} (h : rad l = true) : isInf (uns l) = false := by
  unfold rad at h
  simp only [Bool.and_eq_true, Bool.or_eq_true, beq_iff_eq] at h
  have key : ∀ x : UInt8, l.take 2 = [48, x] → isInf (uns l) = false := by
    intro x ht
    have hl : l = 48 :: x :: l.drop 2 := by
      conv => lhs; rw [← List.take_append_drop 2 l, ht]
      rfl
    rw [hl]
    rw [uns, if_neg (by decide)]
    unfold isInf
    simp
  rcases h.2 with h | h
  · exact key _ h.1
  · exact key _ h.1

theorem model_eq (l : List UInt8) : modelTag l = tag l := by
  unfold modelTag tag
  cases isNull l
  · cases isBool l
    · cases isNan l
      · cases hr : rad l
        · cases isInf (uns l)
          · rw [modelNum_eq]; rfl
          · rfl
        · rw [rad_inf hr]; rfl
      · rfl
    · rfl
  · rfl

end Go.Proofs.Qxb6600656a
