/-
  strings.IndexAny where chars is two ASCII bytes and s is WHATEVER string (not ASCII alone): over any program and any numbering, beside the shelf's own contracts.
-/
import Derived.Shelf.Strings.IndexAnyAll
import Derived.Shelf.Small.Utf8
import Derived.Lib.OthersKept
import Derived.Laws.Runes
import Derived.WalkSmall
import Derived.WalkMore
namespace Go.Proofs.Qxb6601006a
open Go.Shelf Go.RowKit Go.Lib
variable {P : Program} {ρ : Ren}

/-- The bytes that a rune's decoding steps over are none of them ASCII. -/
theorem decode_over (s : ByteArray) (pos : Nat) (h : pos < s.size) (ha : 128 ≤ (s[pos]'h).toNat) (j : Nat) (hj : pos ≤ j) (hj2 : j < pos + (Utf8.decode s pos).2) : ∃ hs : j < s.size, 128 ≤ (s[j]'hs).toNat := by
  have hget : ∀ k (hk : pos + k < s.size), s.get! (pos + k) = s[pos + k]'hk := by
    intro k hk
    have := get_at s (pos + k) hk
    simpa using this
  have h0 := get_at s pos h
  have hn : ¬ (s[pos]'h).toNat < 128 := by omega
  obtain ⟨k, rfl⟩ := Nat.exists_eq_add_of_le hj
  simp only [Utf8.decode, h0, hn, if_false] at hj2
  have hb : ∀ n : Nat, n / 64 = 2 → 128 ≤ n := fun n hn => by omega
  have fin : ∀ m : Nat, k < m → (∀ c, 1 ≤ c → c < m → pos + c < s.size ∧ (s.get! (pos + c)).toNat / 64 = 2) → ∃ hs : pos + k < s.size, 128 ≤ (s[pos + k]'hs).toNat := by
    intro m hk hc
    by_cases hk0 : k = 0
    · subst hk0; exact ⟨h, ha⟩
    · obtain ⟨h1, h2⟩ := hc k (by omega) hk
      rw [hget k h1] at h2
      exact ⟨h1, hb _ h2⟩
  simp only [Bool.and_eq_true, decide_eq_true_eq, beq_iff_eq] at hj2
  split at hj2
  · rename_i hc
    refine fin 2 ?_ ?_
    · split at hj2 <;> simp at hj2 <;> omega
    · intro c h1 h2; obtain rfl : c = 1 := by omega
      exact hc.2
  · split at hj2
    · rename_i hc
      refine fin 3 ?_ ?_
      · split at hj2 <;> simp at hj2 <;> omega
      · intro c h1 h2
        obtain rfl | rfl : c = 1 ∨ c = 2 := by omega
        · exact hc.1.2
        · exact hc.2
    · split at hj2
      · rename_i hc
        refine fin 4 ?_ ?_
        · split at hj2 <;> simp at hj2 <;> omega
        · intro c h1 h2
          obtain rfl | rfl | rfl : c = 1 ∨ c = 2 ∨ c = 3 := by omega
          · exact hc.1.1.2
          · exact hc.1.2
          · exact hc.2
      · simp at hj2
        exact fin 1 (by omega) (fun c h1 h2 => by omega)


set_option maxHeartbeats 2000000 in
set_option maxRecDepth 1000000 in
theorem idxRune_err (L : Lays.n152 P ρ) (c0 c1 : UInt8) (w : World) (h0 : c0.toNat < 128) (h1 : c1.toNat < 128) :
    Calls P (ρ.f 152) #[.string ⟨#[c0, c1]⟩, .int .i32 65533] w fun e w' => e = .returned (.int .i64 (-1)) ∧ Below w.heap.size w w' := by
  have t3 := L.t3; have a3 := L.a3; have z3 := L.z3; have v3 := L.v3
  have t4 := L.t4; have a4 := L.a4; have z4 := L.z4; have v4 := L.v4
  have t5 := L.t5; have a5 := L.a5; have z5 := L.z5; have v5 := L.v5
  have t9 := L.t9; have a9 := L.a9; have z9 := L.z9; have v9 := L.v9
  have t21 := L.t21; have a21 := L.a21; have z21 := L.z21; have v21 := L.v21
  have s0 : (0 : Nat) < (⟨#[c0, c1]⟩ : ByteArray).size := by show 0 < 2; omega
  have s1 : (1 : Nat) < (⟨#[c0, c1]⟩ : ByteArray).size := by show 1 < 2; omega
  have s2 : ¬ (2 : Nat) < (⟨#[c0, c1]⟩ : ByteArray).size := by show ¬ 2 < 2; omega
  have n0 := fun ty => run_next_ascii (P := P) w ⟨#[c0, c1]⟩ 0 ty s0 h0
  have n1 := fun ty => run_next_ascii (P := P) w ⟨#[c0, c1]⟩ 1 ty s1 h1
  have n2 := fun ty => run_next_end (P := P) w ⟨#[c0, c1]⟩ 2 ty s2
  have e0 : ((⟨#[c0, c1]⟩ : ByteArray)[0]'s0) = c0 := rfl
  have e1 : ((⟨#[c0, c1]⟩ : ByteArray)[1]'s1) = c1 := rfl
  rw [e0] at n0
  rw [e1] at n1
  clear e0 e1 s0 s1 s2
  go_enter L.f152, Body.n152_ntmps ρ
  go_wp2
  go_loopg [5, 6] 2 (fun g _ _ wx => ∃ i : Nat, i + g = 2 ∧ wx = w.iter ⟨#[c0, c1]⟩ i)
  case atStart => exact ⟨0, by omega, rfl⟩
  case round =>
    obtain ⟨i, hig, rfl⟩ := hrel
    obtain rfl | rfl | rfl : i = 0 ∨ i = 1 ∨ i = 2 := by omega
    · go_wp2
      go_roundg 1
      case measure => omega
      case rel => exact ⟨1, by omega, rfl⟩
    · go_wp2
      go_roundg 0
      case measure => omega
      case rel => exact ⟨2, by omega, rfl⟩
    · go_wp2
      go_ret
      exact ⟨rfl, (Below.refl _ _).alloc (Nat.le_refl _) _⟩

set_option maxHeartbeats 2000000 in
set_option maxRecDepth 1000000 in
theorem idxRune_no (L : Lays.n152 P ρ) (c0 c1 : UInt8) (r : Int) (w : World) (hr : 128 ≤ r) (hne : r ≠ 65533) (hv : Lib.validRune r = false) :
    Calls P (ρ.f 152) #[.string ⟨#[c0, c1]⟩, .int .i32 r] w fun e w' => e = .returned (.int .i64 (-1)) ∧ Below w.heap.size w w' := by
  have t3 := L.t3; have a3 := L.a3; have z3 := L.z3; have v3 := L.v3
  have t4 := L.t4; have a4 := L.a4; have z4 := L.z4; have v4 := L.v4
  have t5 := L.t5; have a5 := L.a5; have z5 := L.z5; have v5 := L.v5
  have t9 := L.t9; have a9 := L.a9; have z9 := L.z9; have v9 := L.v9
  have t21 := L.t21; have a21 := L.a21; have z21 := L.z21; have v21 := L.v21
  have e119 : ∀ args w, (callFunc (ρ.f 119) args).run P w = .ok (.enter (ρ.f 119) args) w := enters_of L.f119 (by kernel_rfl) rfl
  go_enter L.f152, Body.n152_ntmps ρ
  go_wp2_with (go_at_fn (ρ.f 119); refine (Any.utf8_ValidRune { L with } _ _).mono ?_; rintro e w' ⟨rfl, hw⟩; rw [hw, hv])
  go_ret
  exact ⟨rfl, Below.refl _ _⟩

theorem size2 (c0 c1 : UInt8) : (⟨#[c0, c1]⟩ : ByteArray).size = 2 := rfl

set_option maxHeartbeats 2000000 in
set_option maxRecDepth 1000000 in
theorem idxRune_yes (L : Lays.n152 P ρ) (c0 c1 : UInt8) (r : Int) (w : World) (h1 : c1.toNat < 128) (hr : 128 ≤ r) (hne : r ≠ 65533) (hv : Lib.validRune r = true) :
    Calls P (ρ.f 152) #[.string ⟨#[c0, c1]⟩, .int .i32 r] w fun e w' => e = .returned (.int .i64 (-1)) ∧ Below w.heap.size w w' := by
  have hvv : Utf8.valid r = true := by rw [validRune_eq]; exact hv
  obtain ⟨f1, f2, f3⟩ := encode_facts r hvv hr
  have t3 := L.t3; have a3 := L.a3; have z3 := L.z3; have v3 := L.v3
  have t4 := L.t4; have a4 := L.a4; have z4 := L.z4; have v4 := L.v4
  have t5 := L.t5; have a5 := L.a5; have z5 := L.z5; have v5 := L.v5
  have t9 := L.t9; have a9 := L.a9; have z9 := L.z9; have v9 := L.v9
  have t21 := L.t21; have a21 := L.a21; have z21 := L.z21; have v21 := L.v21
  have e119 : ∀ args w, (callFunc (ρ.f 119) args).run P w = .ok (.enter (ρ.f 119) args) w := enters_of L.f119 (by kernel_rfl) rfl
  have e137 : ∀ args w, (callFunc (ρ.f 137) args).run P w = .ok (.enter (ρ.f 137) args) w := enters_of L.f137 (by kernel_rfl) rfl
  obtain ⟨rs, hrs⟩ : ∃ rs, Utf8.encode r = rs := ⟨_, rfl⟩
  rw [hrs] at f1 f2 f3
  have hcv := fun wx : World => run_convert_int_string (P := P) wx (ρ.t 21) (ρ.t 9) .i32 r (by rw [t21]; rfl) t9
  rw [hrs] at hcv
  clear hrs hvv
  have mixed := L.mixed
  have hsz0 : (0 : Int) ≤ (rs.size : Int) - 1 := by omega
  by_cases hsz : rs.size = 2
  · have hlt : 1 < rs.size := by omega
    have hltI : (1 : Int) < (rs.size : Int) := by omega
    have f3' : 128 ≤ (rs[1]'hlt).toNat := by
      have := f3 (by omega)
      simpa only [hsz] using this
    have hqn : ((((⟨#[c0, c1]⟩ : ByteArray)[1]'(by show 1 < 2; omega)).toNat : Int) != ((rs[1]'hlt).toNat : Int)) = true := bne_iff_ne.2 (by show (c1.toNat : Int) ≠ _; omega)
    have hw2 : IntKind.i64.wrap 2 = 2 := rfl
    have hex : (⟨#[c0, c1]⟩ : ByteArray).extract 2 2 = ⟨#[]⟩ := rfl
    clear f3
    go_enter L.f152, Body.n152_ntmps ρ
    go_wp2_with (go_at_fn (ρ.f 119); refine (Any.utf8_ValidRune { L with } _ _).mono ?_; rintro e w' ⟨rfl, hw⟩; rw [hw, hv])
    go_step3
    go_wp2
    go_loopg [9] 0 (fun _ i wx => i = .int .i64 1 ∧ w = wx)
    case atStart => exact ⟨rfl, rfl⟩
    case round =>
      obtain ⟨rfl, rfl⟩ := hrel
      go_wp2
      go_step3
      go_wp2
      go_quiet_o (fail)
      go_wp2
      have hb1 : Below w.heap.size w (w.drewN nq) := below_drewN (Below.refl _ _) _
      generalize w.drewN nq = w1 at hb1 ⊢
      have hib : Lib.indexByte ByteArray.empty.data.toList ((rs[1]'hlt).toNat : Int).toNat.toUInt8 = -1 := rfl
      go_quiet_o ((go_at_fn (ρ.f 137); exact Calls.quiet_of_same (hib ▸ Any.strings_IndexByte { L with } _ _ _)))
      go_wp2
      simp only [Exit.noGoto_ret, Exit.inBlock, Exit.then]
      go_ret
      exact ⟨rfl, below_drewN hb1 _⟩
  · have hnl : ¬ ((rs.size : Int) - 1 < 2) := by omega
    go_enter L.f152, Body.n152_ntmps ρ
    go_wp2_with (go_at_fn (ρ.f 119); refine (Any.utf8_ValidRune { L with } _ _).mono ?_; rintro e w' ⟨rfl, hw⟩; rw [hw, hv])
    go_step3
    go_wp2
    go_loopg [9] 0 (fun _ i wx => i = .int .i64 ((rs.size : Int) - 1) ∧ w = wx)
    case atStart => exact ⟨rfl, rfl⟩
    case round =>
      obtain ⟨rfl, rfl⟩ := hrel
      go_wp2
      rw [Exit.noGoto_ret]
      go_ret
      exact ⟨rfl, Below.refl _ _⟩

/-- Over a rune beyond ASCII: none of its bytes is among the two. -/
theorem over_high {s : ByteArray} {c0 c1 : UInt8} {i : Nat} (h0 : c0.toNat < 128) (h1 : c1.toNat < 128) (hi : i < s.size) (hx : 128 ≤ (s[i]'hi).toNat) (hno : Lib.NoAny s.data.toList [c0, c1] i) :
    i + (Utf8.decode s i).2 ≤ s.size ∧ Lib.NoAny s.data.toList [c0, c1] (i + (Utf8.decode s i).2) := by
  have hd := (decode_high s i hi hx).2
  refine ⟨?_, fun j b hj hb => ?_⟩
  · obtain ⟨h, _⟩ := decode_over s i hi hx (i + (Utf8.decode s i).2 - 1) (by omega) (by omega)
    omega
  · by_cases hlt : j < i
    · exact hno j b hlt hb
    · obtain ⟨h, h2⟩ := decode_over s i hi hx j (by omega) hj
      rw [Lib.data_getElem? s j h] at hb
      obtain rfl := Option.some.inj hb
      have e0 : ¬ (s[j]'h) = c0 := fun e => by rw [e] at h2; omega
      have e1 : ¬ (s[j]'h) = c1 := fun e => by rw [e] at h2; omega
      simp [e0, e1]

/-- strings.IndexRune of a rune beyond ASCII in two ASCII bytes. -/
theorem idxRune_high (L : Lays.n152 P ρ) (c0 c1 : UInt8) (r : Int) (w : World) (h0 : c0.toNat < 128) (h1 : c1.toNat < 128) (hr : 128 ≤ r) :
    Calls P (ρ.f 152) #[.string ⟨#[c0, c1]⟩, .int .i32 r] w fun e w' => e = .returned (.int .i64 (-1)) ∧ Below w.heap.size w w' := by
  by_cases hne : r = 65533
  · rw [hne]; exact idxRune_err L c0 c1 w h0 h1
  · cases hv : Lib.validRune r with
    | false => exact idxRune_no L c0 c1 r w hr hne hv
    | true => exact idxRune_yes L c0 c1 r w h1 hr hne hv

set_option maxHeartbeats 8000000 in
set_option maxRecDepth 1000000 in
theorem idxAny_short (L : Lays.n153 P ρ) (s : ByteArray) (c0 c1 : UInt8) (w : World) (h0 : c0.toNat < 128) (h1 : c1.toNat < 128) (h8 : s.size ≤ 8) :
    Calls P (ρ.f 153) #[.string s, .string ⟨#[c0, c1]⟩] w fun e w' => e = .returned (.int .i64 (Lib.indexAny s.data.toList [c0, c1])) ∧ Below w.heap.size w w' := by
  have h8z : decide ((8 : Int) < (s.size : Int)) = false := decide_eq_false (by omega)
  have t3 := L.t3; have a3 := L.a3; have z3 := L.z3; have v3 := L.v3
  have t4 := L.t4; have a4 := L.a4; have z4 := L.z4; have v4 := L.v4
  have t5 := L.t5; have a5 := L.a5; have z5 := L.z5; have v5 := L.v5
  have t9 := L.t9; have a9 := L.a9; have z9 := L.z9; have v9 := L.v9
  have t21 := L.t21; have a21 := L.a21; have z21 := L.z21; have v21 := L.v21
  have e152 : ∀ args w, (callFunc (ρ.f 152) args).run P w = .ok (.enter (ρ.f 152) args) w := enters_of L.f152 (by kernel_rfl) rfl
  have e226 : ∀ args w, (callFunc (ρ.f 226) args).run P w = .ok (.enter (ρ.f 226) args) w := enters_of L.f226 (by kernel_rfl) rfl
  go_enter L.f153, Body.n153_ntmps ρ
  go_wp2_with (go_at_fn (ρ.f 226); refine (Any.strings_shouldUseASCIISet { L with } _ _).mono ?_; rintro e w' ⟨rfl, hw⟩; rw [hw, h8z])
  go_loopg [9, 10] s.size (fun g _ _ wx => ∃ i : Nat, i ≤ s.size ∧ s.size ≤ i + g ∧ wx.heap[w.heap.size]? = some (.stringIter s i) ∧ Below w.heap.size w wx ∧ w.heap.size < wx.heap.size ∧ Lib.NoAny s.data.toList [c0, c1] i)
  case atStart => exact ⟨0, by omega, by omega, World.iter_heap _ _ _, (Below.refl _ _).alloc (Nat.le_refl _) _, by simp [World.iter], Lib.NoAny.zero _ _⟩
  case round =>
    obtain ⟨i, hi1, hi2, hit, hbel, hsz, hno⟩ := hrel
    have HN : Aside (Lib.NoAny s.data.toList [c0, c1] i) := hno
    clear hno
    by_cases hi : i < s.size
    · obtain ⟨x, hx⟩ : ∃ x : UInt8, s[i]'hi = x := ⟨_, rfl⟩
      have hxl : s.data.toList[i]? = some x := by rw [← hx]; exact Lib.data_getElem? s i hi
      by_cases hx128 : x.toNat < 128
      · have hnx := fun ty => run_next_ascii_at (P := P) wr w.heap.size s i ty hit hi (by rw [hx]; exact hx128)
        rw [hx] at hnx
        have Hx : Aside (s.data.toList[i]? = some x) := hxl
        have HW : Aside ((wr.iterAt w.heap.size s (i + 1)).heap[w.heap.size]? = some (.stringIter s (i + 1)) ∧ Below w.heap.size w (wr.iterAt w.heap.size s (i + 1)) ∧ w.heap.size < (wr.iterAt w.heap.size s (i + 1)).heap.size) :=
          ⟨iterAt_heap _ _ _ _ _ hit, below_iterAt hbel (Nat.le_refl _) _ _, by rw [iterAt_size]; exact hsz⟩
        clear hxl hx hit hbel hsz
        generalize wr.iterAt w.heap.size s (i + 1) = w1 at hnx HW
        have hback : ((x.toNat : Int)).toNat.toUInt8 = x := by simp
        have hcon := Lib.contains_iff_indexByte [c0, c1] x
        cases hin : ([c0, c1] : List UInt8).contains x
        · rw [hin] at hcon
          have hlt : ¬ ((0 : Int) ≤ Lib.indexByte [c0, c1] x) := of_decide_eq_false hcon.symm
          clear hcon
          have HI : Aside (([c0, c1] : List UInt8).contains x = false) := hin
          clear hin
          go_wp2_with (go_at_fn (ρ.f 152); refine (Any.strings_IndexRune_ascii { L with } _ _ _ (by omega) (by omega)).mono ?_; rintro e w' ⟨rfl, hw⟩; rw [hw, hback])
          go_roundg (s.size - (i + 1))
          case measure => omega
          case rel => exact ⟨i + 1, by omega, by omega, HW.out.1, HW.out.2.1, HW.out.2.2, HN.out.succ Hx.out HI.out⟩
        · rw [hin] at hcon
          have hge : (0 : Int) ≤ Lib.indexByte [c0, c1] x := of_decide_eq_true hcon.symm
          clear hcon
          have HI : Aside (([c0, c1] : List UInt8).contains x = true) := hin
          clear hin
          go_wp2_with (go_at_fn (ρ.f 152); refine (Any.strings_IndexRune_ascii { L with } _ _ _ (by omega) (by omega)).mono ?_; rintro e w' ⟨rfl, hw⟩; rw [hw, hback])
          go_ret
          exact ⟨by rw [Lib.indexAny_hit HN.out Hx.out HI.out]; rfl, HW.out.2.1⟩
      · have hnx := fun ty => run_next_any_at (P := P) wr w.heap.size s i ty hit hi
        have hov := over_high h0 h1 hi (by rw [hx]; omega) HN.out
        have hdh := decode_high s i hi (by rw [hx]; omega)
        generalize (Utf8.decode s i).2 = d at hnx hov hdh
        generalize (Utf8.decode s i).1 = r at hnx hdh
        have HW : Aside ((wr.iterAt w.heap.size s (i + d)).heap[w.heap.size]? = some (.stringIter s (i + d)) ∧ Below w.heap.size w (wr.iterAt w.heap.size s (i + d)) ∧ w.heap.size < (wr.iterAt w.heap.size s (i + d)).heap.size) :=
          ⟨iterAt_heap _ _ _ _ _ hit, below_iterAt hbel (Nat.le_refl _) _ _, by rw [iterAt_size]; exact hsz⟩
        have HO : Aside (i + d ≤ s.size ∧ Lib.NoAny s.data.toList [c0, c1] (i + d)) := hov
        clear hxl hx hit hbel hsz hov
        generalize wr.iterAt w.heap.size s (i + d) = w1 at hnx HW
        go_wp2_with (go_at_fn (ρ.f 152); refine (idxRune_high { L with } c0 c1 _ _ h0 h1 (by omega)).mono ?_; rintro e w' ⟨rfl, hw⟩)
        have hd1 := hdh.2
        have ho := HO.out
        obtain ⟨g1, g2, g3⟩ := HW.out
        go_roundg (s.size - (i + d))
        case measure => omega
        case rel => exact ⟨i + d, ho.1, by omega, (hw.block _ g3).trans g1, g2.trans (hw.mono (Nat.le_of_lt g3)), Nat.lt_of_lt_of_le g3 hw.size, ho.2⟩
    · have hnx := fun ty => run_next_end_at (P := P) wr w.heap.size s i ty hit hi
      go_wp2
      go_ret
      obtain rfl : i = s.size := by omega
      exact ⟨by rw [Lib.indexAny_none (by rw [← Lib.size_eq]; exact HN.out)]; rfl, hbel⟩

/-- strings.IndexAny of whatever string at two ASCII bytes. -/
theorem idxAny_two (L : Lays.n153 P ρ) (h116 : (P.info? (ρ.t 116)).map (fun i => (i.zero, i.size)) = some (some (.agg (Array.replicate 256 (.bool false))), 256)) (s : ByteArray) (c0 c1 : UInt8) (w : World) (h0 : c0.toNat < 128) (h1 : c1.toNat < 128) (hs : s.size < 4294967281) :
    Calls P (ρ.f 153) #[.string s, .string ⟨#[c0, c1]⟩] w fun e w' => e = .returned (.int .i64 (Lib.indexAny s.data.toList [c0, c1])) ∧ Below w.heap.size w w' := by
  by_cases h8 : s.size ≤ 8
  · exact idxAny_short L s c0 c1 w h0 h1 h8
  · refine (Any.strings_IndexAny_long L (zero_of_info h116).1 (zero_of_info h116).2 s ⟨#[c0, c1]⟩ w (Nat.le_refl 2) (by omega) hs (by show 2 < 4294967281; omega) ?_).mono fun e w' ⟨g1, g2⟩ => ⟨g1, ?_⟩
    · intro j b hb
      match j, hb with
      | 0, hb => simp at hb; rw [← hb]; exact h0
      | 1, hb => simp at hb; rw [← hb]; exact h1
      | j + 2, hb => simp at hb
    · rw [g2]
      exact ((Below.refl _ _).alloc (Nat.le_refl _) _).alloc (by simp) _
end Go.Proofs.Qxb6601006a
