import Derived.Test.Qxb6601006aW1
import Derived.Deep.CutRange
import Derived.Deep.CutBlock
import Derived.Deep.RegionWith
namespace Go.Proofs.Qxb6601006a
open Go.RowKit

theorem list_len (s : ByteArray) : s.data.toList.length = s.size := by rw [Array.length_toList]; rfl

/-- The text from i on, by its bytes. -/
theorem drop_cons {s : ByteArray} {i : Nat} {a : UInt8} {r : List UInt8} (h : s.data.toList.drop i = a :: r) : ∃ hi : i < s.size, s[i]'hi = a ∧ s.data.toList.drop (i + 1) = r := by
  have hi : i < s.data.toList.length := by
    rcases Nat.lt_or_ge i s.data.toList.length with h' | h'
    · exact h'
    · rw [List.drop_eq_nil_of_le h'] at h; cases h
  rw [List.drop_eq_getElem_cons hi] at h
  injection h with h1 h2
  refine ⟨by rw [← list_len]; exact hi, ?_, h2⟩
  rw [← h1]
  simp
  rfl

theorem pair_list {s : ByteArray} {i : Nat} {a b : UInt8} {r : List UInt8} (h : s.data.toList.drop i = a :: b :: r) : i + 2 ≤ s.size ∧ (s.extract i (i + 2)).toList = [a, b] ∧ s.data.toList.drop (i + 1) = b :: r ∧ s.data.toList.drop (i + 2) = r := by
  obtain ⟨h1, _, e1⟩ := drop_cons h
  obtain ⟨h2, _, e2⟩ := drop_cons e1
  refine ⟨by omega, ?_, e1, e2⟩
  rw [ByteArray.toList_eq, ByteArray.data_extract, Array.toList_extract, List.extract_eq_take_drop, h]
  simp

set_option maxHeartbeats 1000000 in
theorem blk_any (s : ByteArray) (e : Nat) (w : World) (hs : s.size ≤ 1048576) (h : Blk 0 s.data.toList e) :
    Calls Try.prog 23 #[.string s] w fun r w' => r = .returned (.int .i64 e) ∧ w' = w := by
  go_enter Try.func23, Try.ntmps23
  go_wp2
  go_loopg [3, 4] s.size (fun g dv iv wx => ∃ d i f : Nat, dv = .int .i64 d ∧ iv = .int .i64 i ∧ d ≤ i ∧ i ≤ s.size ∧ s.size ≤ i + g ∧ i + f = e ∧ Hid (Blk d (s.data.toList.drop i) f) ∧ w = wx)
  case atStart => exact ⟨0, 0, e, rfl, rfl, by omega, by omega, by omega, by omega, h, rfl⟩
  case round =>
    obtain ⟨d, i, f, rfl, rfl, hdi, his, hg, rfl, HB, rfl⟩ := hrel
    clear h
    have hb := HB.out
    clear HB
    generalize hd : s.data.toList.drop i = l at hb
    cases hb with
    | @op d r f hb =>
      obtain ⟨h2, hl, _, h4⟩ := pair_list hd
      have q1 := run_slice_string (P := Try.prog) w 9 s .i64 .i64 (i : Int) ((i : Int) + 2) Try.underlying9 (by omega) (by omega) (by omega)
      have HB : Hid (Blk (d + 1) (s.data.toList.drop (i + 2)) f) := by rw [h4]; exact hb
      have t1 : ((s.extract i (i + 2)).toList == [47, 42]) = true := by rw [hl]; rfl
      clear hb hd h4 hl
      go_wp2
      go_roundg (s.size - (i + 2))
      case measure => omega
      case rel => exact ⟨d + 1, i + 2, f, by go_num, by go_num, by omega, by omega, by omega, by omega, HB, rfl⟩
    | @last r =>
      obtain ⟨h2, hl, _, h4⟩ := pair_list hd
      have q1 := run_slice_string (P := Try.prog) w 9 s .i64 .i64 (i : Int) ((i : Int) + 2) Try.underlying9 (by omega) (by omega) (by omega)
      have t1 : ((s.extract i (i + 2)).toList == [47, 42]) = false := by rw [hl]; rfl
      have t2 : ((s.extract i (i + 2)).toList == [42, 47]) = true := by rw [hl]; rfl
      clear hd h4 hl
      go_wp2
      go_ret
      exact ⟨congrArg (fun x => Ending.returned (.int .i64 x)) (by omega), rfl⟩
    | @cl d r f hb =>
      obtain ⟨h2, hl, _, h4⟩ := pair_list hd
      have q1 := run_slice_string (P := Try.prog) w 9 s .i64 .i64 (i : Int) ((i : Int) + 2) Try.underlying9 (by omega) (by omega) (by omega)
      have HB : Hid (Blk (d + 1) (s.data.toList.drop (i + 2)) f) := by rw [h4]; exact hb
      have t1 : ((s.extract i (i + 2)).toList == [47, 42]) = false := by rw [hl]; rfl
      have t2 : ((s.extract i (i + 2)).toList == [42, 47]) = true := by rw [hl]; rfl
      clear hb hd h4 hl
      go_wp2
      go_roundg (s.size - (i + 2))
      case measure => omega
      case rel => exact ⟨d + 1, i + 2, f, by go_num, by go_num, by omega, by omega, by omega, by omega, HB, rfl⟩
    | @skip d a b r f n1 n2 hb =>
      obtain ⟨h2, hl, h3, _⟩ := pair_list hd
      have q1 := run_slice_string (P := Try.prog) w 9 s .i64 .i64 (i : Int) ((i : Int) + 2) Try.underlying9 (by omega) (by omega) (by omega)
      have HB : Hid (Blk d (s.data.toList.drop (i + 1)) f) := by rw [h3]; exact hb
      have t1 : ((s.extract i (i + 2)).toList == [47, 42]) = false := by rw [hl]; simpa using n1
      have t2 : ((s.extract i (i + 2)).toList == [42, 47]) = false := by rw [hl]; simpa using n2
      clear hb hd h3 hl n1 n2
      go_wp2
      go_roundg (s.size - (i + 1))
      case measure => omega
      case rel => exact ⟨d, i + 1, f, by go_num, by go_num, by omega, by omega, by omega, by omega, HB, rfl⟩

theorem size_cons {s : ByteArray} {l : List UInt8} (h : s.data.toList = l) : s.size = l.length := by rw [← list_len, h]

theorem prefix_yes (s : ByteArray) (a b : UInt8) (r : List UInt8) (h : s.data.toList = a :: b :: r) (hs : s.size ≤ 1048576) (w : World) :
    Calls Try.prog 21 #[.string s, .string ⟨#[a, b]⟩] w fun e w' => e = .returned (.bool true) ∧ w' = w := by
  obtain ⟨h2, hl, _, _⟩ := pair_list (s := s) (i := 0) (by simpa using h)
  have t1 : ((s.extract 0 2).toList == [a, b]) = true := by rw [show (2 : Nat) = 0 + 2 from rfl, hl]; simp
  have q1 : (2 : Int) ≤ (s.size : Int) := by omega
  have q2 : ByteArray.size ⟨#[a, b]⟩ = 2 := rfl
  have q3 : (⟨#[a, b]⟩ : ByteArray).toList = [a, b] := by rw [ByteArray.toList_eq]
  clear h hl h2
  go_enter Try.func21, Try.ntmps21
  go_wp2
  go_ret
  exact ⟨rfl, rfl⟩

theorem prefix_no (s : ByteArray) (a b : UInt8) (h : ∀ r, s.data.toList ≠ a :: b :: r) (hs : s.size ≤ 1048576) (w : World) :
    Calls Try.prog 21 #[.string s, .string ⟨#[a, b]⟩] w fun e w' => e = .returned (.bool false) ∧ w' = w := by
  have q2 : ByteArray.size ⟨#[a, b]⟩ = 2 := rfl
  have q3 : (⟨#[a, b]⟩ : ByteArray).toList = [a, b] := by rw [ByteArray.toList_eq]
  by_cases h2 : 2 ≤ s.size
  · have t1 : ((s.extract 0 2).toList == [a, b]) = false := by
      rw [beq_eq_false_iff_ne]
      intro e
      rw [ByteArray.toList_eq, ByteArray.data_extract, Array.toList_extract, List.extract_eq_take_drop] at e
      refine h (s.data.toList.drop 2) ?_
      conv => lhs; rw [← List.take_append_drop 2 s.data.toList]
      simp only [List.drop_zero, Nat.sub_zero] at e
      rw [e]; rfl
    have q1 : (2 : Int) ≤ (s.size : Int) := by omega
    clear h h2
    go_enter Try.func21, Try.ntmps21
    go_wp2
    go_ret
    exact ⟨rfl, rfl⟩
  · have q1 : ¬ (2 : Int) ≤ (s.size : Int) := by omega
    clear h h2
    go_enter Try.func21, Try.ntmps21
    go_wp2
    go_ret
    exact ⟨rfl, rfl⟩

/-- strings.IndexAny at "\n\r", where there is one. -/
def IdxC : Prop := ∀ (s : ByteArray) (x : List UInt8) (c : UInt8) (r : List UInt8) (w : World), s.size ≤ 1048576 → s.data.toList = x ++ c :: r → (∀ b ∈ x, b ≠ 10 ∧ b ≠ 13) → (c = 10 ∨ c = 13) →
  Calls Try.prog 22 #[.string s, .string ⟨#[10, 13]⟩] w fun e w' => e = .returned (.int .i64 (x.length : Int)) ∧ Below w.heap.size w w'

/-- The lexer's block B: what is left to read. -/
structure Lex (u : ByteArray) (w wx : World) (B : Nat) : Prop where
  cell : wx.cell? ⟨B, 0, none⟩ = some (.string u)
  free : wx.frozen? ⟨B, 0, none⟩ = false
  bel : Below B w wx
  lt : B < wx.heap.size

theorem Lex.store {u v : ByteArray} {w wx : World} {B : Nat} (h : Lex u w wx B) : Lex v w (wx.setCell ⟨B, 0, none⟩ (.string v)) B :=
  ⟨World.cell?_setCell_same _ _ _ h.cell, by simpa using h.free, h.bel.setCell (p := ⟨B, 0, none⟩) (Nat.le_refl _) _, Nat.lt_of_lt_of_le h.lt ((Below.refl B wx).setCell (p := ⟨B, 0, none⟩) (Nat.le_refl _) _).size⟩

theorem Lex.below {u : ByteArray} {w wx wy : World} {B : Nat} (h : Lex u w wx B) (hb : Below wx.heap.size wx wy) : Lex u w wy B :=
  ⟨by rw [hb.cell (p := ⟨B, 0, none⟩) h.lt]; exact h.cell, by rw [hb.frozen (p := ⟨B, 0, none⟩) h.lt]; exact h.free, h.bel.trans (hb.mono (Nat.le_of_lt h.lt)), Nat.lt_of_lt_of_le h.lt hb.size⟩

theorem Lex.drew {u : ByteArray} {w wx : World} {B : Nat} (h : Lex u w wx B) : Lex u w wx.drew B :=
  ⟨h.cell, h.free, h.bel.drew, h.lt⟩

theorem ext_drop (u : ByteArray) (k : Nat) : (u.extract k u.size).data.toList = u.data.toList.drop k := by
  rw [ByteArray.data_extract, Array.toList_extract, List.extract_eq_take_drop, List.take_of_length_le]
  rw [List.length_drop, list_len]
  exact Nat.le_refl _

theorem eq_of_list {u t : ByteArray} (h : u.data.toList = t.data.toList) : u = t := by
  apply ByteArray.ext
  exact Array.ext' h

set_option maxHeartbeats 2000000 in
theorem skip_any (hidx : IdxC) (s t : ByteArray) (B : Nat) (w : World) (hs : s.size ≤ 1048576) (h : Skips s.data.toList t.data.toList) (hL : Lex s w w B) :
    Calls Try.prog 18 #[.pointer (some ⟨B, 0, none⟩)] w fun e w' => (∃ v, e = .returned v) ∧ Lex t w w' B := by
  go_enter Try.func18, Try.ntmps18
  go_wp2
  go_loopg [2] s.size (fun g ev wx => ∃ u : ByteArray, u.size ≤ g ∧ u.size ≤ 1048576 ∧ Hid (Skips u.data.toList t.data.toList) ∧ Lex u w wx B)
  case atStart => exact ⟨s, Nat.le_refl _, hs, h, hL⟩
  case round =>
    obtain ⟨u, hug, hu, HS, hlex⟩ := hrel
    clear h hL
    have hsk := HS.out
    clear HS
    have hc := hlex.cell
    have hf := hlex.free
    generalize hul : u.data.toList = l at hsk
    generalize htl : t.data.toList = m at hsk
    cases hsk with
    | done hst =>
      obtain rfl : u = t := eq_of_list (hul.trans htl.symm)
      by_cases hz : u.size = 0
      · have hn : (u.toList == []) = true := by rw [ByteArray.toList_eq, List.eq_nil_of_length_eq_zero (l := u.data.toList) (by rw [list_len]; exact hz)]; rfl
        have HL : Hid (Lex u w wr B) := hlex
        clear hst hul htl hlex hz
        go_wp2
        exact bodyPost_end (v := .tuple #[]) (by simp [results, Try.results18, go_sem]) rfl ⟨⟨_, rfl⟩, HL.out⟩
      · have hn : (u.toList == []) = false := by
          rw [ByteArray.toList_eq, beq_eq_false_iff_ne]
          intro e
          exact hz (by rw [← list_len, e]; rfl)
        have h0 : 0 < u.size := by omega
        have hi : Hid _ := isSpace_no (u[0]'h0) (hst.sp (u[0]'h0) (u.data.toList.drop 1) (by
          rw [← htl]
          have := List.drop_eq_getElem_cons (l := u.data.toList) (i := 0) (by rw [list_len]; exact h0)
          rw [List.drop_zero] at this
          rw [this]
          simp
          rfl))
        have h2 : Hid _ := prefix_no u 45 45 (fun r e => hst.line r (htl.symm.trans e)) hu
        have h3 : Hid _ := prefix_no u 47 42 (fun r e => hst.blk r (htl.symm.trans e)) hu
        have HL : Hid (Lex u w wr B) := hlex
        clear hst hul htl hlex hz
        go_wp2_with (first | (go_at_call 20; refine (hi.out _).mono ?_; rintro e w' ⟨rfl, hw⟩; rw [hw]; clear hw) | (go_at_call 21; (first | refine (h2.out _).mono ?_ | refine (h3.out _).mono ?_); rintro e w' ⟨rfl, hw⟩; rw [hw]; clear hw))
        exact bodyPost_ret (v := .tuple #[]) (by simp [results, Try.results18, go_sem]) rfl ⟨⟨_, rfl⟩, HL.out⟩
    | @sp c r _ hsp hsk =>
      have hsz := size_cons hul
      simp only [List.length_cons] at hsz
      obtain ⟨h0, e0, e1⟩ := drop_cons (s := u) (i := 0) (by simpa using hul)
      have HS : Hid (Skips (u.extract 1 u.size).data.toList t.data.toList) := by
        show Skips _ _
        rw [ext_drop, htl]
        rw [show (1 : Nat) = 0 + 1 from rfl, e1]
        exact hsk
      have hlex2 : Hid (Lex (u.extract 1 u.size) w (wr.setCell ⟨B, 0, none⟩ (.string (u.extract 1 u.size))) B) := hlex.store
      have hn : (u.toList == []) = false := by rw [ByteArray.toList_eq, hul]; rfl
      have hi : Hid _ := isSpace_yes (u[0]'h0) (by rw [e0]; exact hsp)
      clear hsk hul htl e0 e1 hsp hlex
      have hug1 : 1 ≤ (u.size : Int) := by omega
      clear hsz
      go_wp2_with (go_at_call 20; refine (hi.out _).mono ?_; rintro e w' ⟨rfl, hw⟩; rw [hw]; clear hw)
      have hz : (u.extract 1 u.size).size = u.size - 1 := by simp
      go_roundg (u.size - 1)
      case measure => omega
      case rel => exact ⟨u.extract 1 u.size, by omega, by omega, HS, hlex2.out⟩
    | @line x c r _ hx hcc hsk =>
      have hsz := size_cons hul
      simp only [List.length_cons, List.length_append] at hsz
      obtain ⟨h0, e0, e1⟩ := drop_cons (s := u) (i := 0) (by simpa using hul)
      have HS : Hid (Skips (u.extract (x.length + 2) u.size).data.toList t.data.toList) := by
        show Skips _ _
        rw [ext_drop, htl, hul, show 45 :: 45 :: (x ++ c :: r) = (45 :: 45 :: x) ++ c :: r from rfl, List.drop_append_of_le_length (by simp), List.drop_eq_nil_of_le (by simp)]
        exact hsk
      have hlex2 := fun wy (hb : Below wr.heap.size wr wy) => (hlex.below hb).store (v := u.extract (x.length + 2) u.size)
      have hlex1 := fun wy (hb : Below wr.heap.size wr wy) => hlex.below hb
      have HL2 : Hid _ := hlex2
      have HL1 : Hid _ := hlex1
      have hn : (u.toList == []) = false := by rw [ByteArray.toList_eq, hul]; rfl
      have hi : Hid _ := isSpace_no (u[0]'h0) (by rw [e0]; simp [isSp])
      have h2 : Hid _ := prefix_yes u 45 45 _ hul hu
      have hix : Hid _ := fun w => hidx u (45 :: 45 :: x) c r w hu hul (fun b hb => by
        rcases List.mem_cons.1 hb with rfl | hb
        · decide
        · rcases List.mem_cons.1 hb with rfl | hb
          · decide
          · exact hx b hb) hcc
      have q1 : ((x.length : Int) + 2) ≤ (u.size : Int) := by omega
      have q2 : 0 < u.size := by omega
      clear hsk hul htl e0 e1 hlex hlex1 hlex2 hsz hx hcc hidx
      go_wp2_with (first | (go_at_call 20; refine (hi.out _).mono ?_; rintro e w' ⟨rfl, hw⟩; rw [hw]; clear hw) | (go_at_call 21; refine (h2.out _).mono ?_; rintro e w' ⟨rfl, hw⟩; rw [hw]; clear hw))
      refine (hix.out _).mono ?_
      rintro e wy ⟨rfl, hb⟩
      have hlx := HL1.out wy hb
      have HL3 : Hid _ := HL2.out wy hb
      have hc := hlx.cell
      have hf := hlx.free
      have hlen : (45 :: 45 :: x).length = x.length + 2 := rfl
      rw [hlen]
      clear hlx hb HL1 HL2 hix hlen
      go_wp2
      have hz : (u.extract (x.length + 2) u.size).size = u.size - (x.length + 2) := by simp
      go_roundg (u.size - 1)
      case measure => omega
      case rel => exact ⟨u.extract (x.length + 2) u.size, by omega, by omega, HS, HL3.out⟩
    | @blk x r _ hb hsk =>
      have hsz := size_cons hul
      simp only [List.length_cons, List.length_append] at hsz
      obtain ⟨h0, e0, e1⟩ := drop_cons (s := u) (i := 0) (by simpa using hul)
      have HS : Hid (Skips (u.extract (x.length + 2) u.size).data.toList t.data.toList) := by
        show Skips _ _
        rw [ext_drop, htl, hul, show 47 :: 42 :: (x ++ r) = (47 :: 42 :: x) ++ r from rfl, List.drop_append_of_le_length (by simp), List.drop_eq_nil_of_le (by simp)]
        exact hsk
      have hlex2 : Hid _ := hlex.store (v := u.extract (x.length + 2) u.size)
      have hn : (u.toList == []) = false := by rw [ByteArray.toList_eq, hul]; rfl
      have hi : Hid _ := isSpace_no (u[0]'h0) (by rw [e0]; simp [isSp])
      have h2 : Hid _ := prefix_no u 45 45 (fun r' e => by rw [hul] at e; injection e with e _; exact absurd e (by decide)) hu
      have h3 : Hid _ := prefix_yes u 47 42 _ hul hu
      have hbk : Hid _ := fun w => blk_any u (x.length + 2) w hu (by rw [hul]; exact hb)
      have q1 : ((x.length : Int) + 2) ≤ (u.size : Int) := by omega
      have q2 : 0 < u.size := by omega
      clear hsk hul htl e0 e1 hlex hsz hb
      go_upto_region 9 with (first | (go_at_call 20; refine (hi.out _).mono ?_; rintro e w' ⟨rfl, hw⟩; rw [hw]; clear hw) | (go_at_call 21; (first | refine (h2.out _).mono ?_ | refine (h3.out _).mono ?_); rintro e w' ⟨rfl, hw⟩; rw [hw]; clear hw))
      go_region_with (go_at_call 23; refine (hbk.out _).mono ?_; rintro e w' ⟨rfl, hw⟩; rw [hw]; clear hw)
      all_goals
        have hz : (u.extract (x.length + 2) u.size).size = u.size - (x.length + 2) := by simp
        go_wp2
        go_roundg (u.size - 1)
        case measure => omega
        case rel => exact ⟨u.extract (x.length + 2) u.size, by omega, by omega, HS, hlex2.out.drew⟩

theorem zz_any (hidx : IdxC) (s t : ByteArray) (w : World) (hs : s.size ≤ 1048576) (h : Skips s.data.toList t.data.toList) :
    Calls Try.prog 15 #[.string s] w fun r w' => r = .returned (.string t) ∧ Below w.heap.size w w' := by
  go_enter Try.func15, Try.ntmps15
  go_wp2_with fail
  have hL : Lex s (w.alloc (Obj.cells #[Value.string s, Value.bool false, Value.bool false, Value.bool false] 36)) (w.alloc (Obj.cells #[Value.string s, Value.bool false, Value.bool false, Value.bool false] 36)) w.heap.size :=
    ⟨by rw [World.cell?_alloc_at _ _ _ _ rfl]; rfl, by simp, Below.refl _ _, by simp⟩
  refine (skip_any hidx s t _ _ hs h hL).mono ?_
  rintro e w1 ⟨⟨v, rfl⟩, hlex⟩
  have hc := hlex.cell
  have hb : Below w.heap.size w w1 := ((Below.refl _ _).alloc (Nat.le_refl _) _).trans hlex.bel
  clear hlex
  go_wp2
  go_ret
  exact ⟨rfl, hb⟩
end Go.Proofs.Qxb6601006a
