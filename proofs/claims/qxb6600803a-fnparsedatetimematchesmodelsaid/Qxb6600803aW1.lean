import Derived.Test.Qxb6600803aRows
import Derived.Test.Qxb6600803aPl
import Derived.Test.Qxb6600803aShelf
import Derived.WalkKit
import Derived.Deep.QuietTactic
import Derived.BigQuiet
import Derived.Laws.Strings2
import Derived.Laws.Strings3
import Derived.Laws.IdiomStrings
import Derived.WalkSmall
import Derived.Deep.LoopGhost
import Derived.Lib.IndexLaws
namespace Go.Proofs.Qxb6600803a
open Go.RowKit

theorem byteAt? (s : ByteArray) (j : Nat) (h : j < s.size) : s.data.toList[j]? = some (s[j]'h) := by
  have h' : j < s.data.size := h
  rw [Array.getElem?_toList, Array.getElem?_eq_getElem h']; rfl
theorem list_len (s : ByteArray) : s.data.toList.length = s.size := by rw [Array.length_toList]; rfl

theorem row_cell (w : World) (s : ByteArray) (cap : Nat) (m : Nat × Nat) (j : Nat) (h : j < s.size) : (w.alloc (.cells (bytesRow s cap) 5 m)).cell? ⟨w.heap.size, j, none⟩ = some (.int .u8 (s[j]'h).toNat) := by
  have hh : (w.alloc (.cells (bytesRow s cap) 5 m)).heap[w.heap.size]? = some (.cells (bytesRow s cap) 5 m) := by
    show (w.heap.push _)[w.heap.size]? = _
    simp
  have h' : j < s.data.size := h
  unfold World.cell?
  rw [hh]
  show (bytesRow s cap)[j]? = _
  unfold bytesRow
  rw [Array.getElem?_append_left (by simpa using h'), Array.getElem?_map, Array.getElem?_eq_getElem h']
  rfl

theorem ret_bool {a b : Bool} (h : a = b) : Ending.returned (.bool a) = .returned (.bool b) := by rw [h]

theorem isD_int (c : UInt8) : isD c.toNat = decide (48 ≤ (c.toNat : Int) ∧ (c.toNat : Int) ≤ 57) := by
  unfold isD; exact decide_eq_decide.2 (by omega)

set_option maxHeartbeats 400000 in
theorem isDigit_any (c : UInt8) (w : World) : Calls Try.prog 31 #[.int .u8 c.toNat] w fun e w' => e = .returned (.bool (isD c.toNat)) ∧ w' = w := by
  by_cases h1 : 48 ≤ (c.toNat : Int)
  · by_cases h2 : (c.toNat : Int) ≤ 57
    · rw [isD_int, decide_eq_true ⟨h1, h2⟩]
      go_enter Try.func31, Try.ntmps31
      go_wp2
      go_ret
      exact ⟨rfl, rfl⟩
    · rw [isD_int, decide_eq_false (fun h => h2 h.2)]
      go_enter Try.func31, Try.ntmps31
      go_wp2
      go_ret
      exact ⟨rfl, rfl⟩
  · rw [isD_int, decide_eq_false (fun h => h1 h.1)]
    go_enter Try.func31, Try.ntmps31
    go_wp2
    go_ret
    exact ⟨rfl, rfl⟩

set_option maxHeartbeats 400000 in
theorem zzDig_any (c : UInt8) (w : World) : Calls Try.prog 21 #[.int .u8 c.toNat] w fun e w' => e = .returned (.bool (isD c.toNat)) ∧ w' = w := by
  by_cases h1 : 48 ≤ (c.toNat : Int)
  · by_cases h2 : (c.toNat : Int) ≤ 57
    · rw [isD_int, decide_eq_true ⟨h1, h2⟩]
      go_enter Try.func21, Try.ntmps21
      go_wp2
      go_ret
      exact ⟨rfl, rfl⟩
    · rw [isD_int, decide_eq_false (fun h => h2 h.2)]
      go_enter Try.func21, Try.ntmps21
      go_wp2
      go_ret
      exact ⟨rfl, rfl⟩
  · rw [isD_int, decide_eq_false (fun h => h1 h.1)]
    go_enter Try.func21, Try.ntmps21
    go_wp2
    go_ret
    exact ⟨rfl, rfl⟩

set_option maxHeartbeats 400000 in
theorem digits_len (s : ByteArray) (n : Int) (w : World) (h : ¬ (s.size : Int) = n) :
    Calls Try.prog 26 #[.string s, .int .i64 n] w fun e w' => e = .returned (.tuple #[.int .i64 0, .bool false]) ∧ w' = w := by
  have hb : ((s.size : Int) != n) = true := bne_iff_ne.2 h
  go_enter Try.func26, Try.ntmps26
  go_wp2
  go_ret2
  exact ⟨rfl, rfl⟩

/-- digits of a text of at most nine bytes, asked for just so many: the number; or none. -/
def digA (s : ByteArray) : Bool := s.data.toList.all fun c => isD c.toNat

def digV (s : ByteArray) : Int := if digA s then valTo s s.size else 0
theorem digV_no {s : ByteArray} (h : digA s = false) : digV s = 0 := by unfold digV; rw [h]; rfl
theorem digV_yes {s : ByteArray} (h : digA s = true) : digV s = valTo s s.size := by unfold digV; rw [h]; rfl
theorem digA_yes {s : ByteArray} (h : AllD s s.size) : digA s = true := by
  unfold digA
  rw [List.all_eq_true]
  intro x hx
  obtain ⟨j, hj, e⟩ := List.getElem_of_mem hx
  have hj' : j < s.size := by rw [list_len] at hj; exact hj
  have := h j hj'
  rw [at_in hj'] at this
  rw [← e]; exact this
theorem digA_no {s : ByteArray} {k : Nat} (hk : k < s.size) (hd : isD (s[k]'hk).toNat = false) : digA s = false := by
  unfold digA
  rw [List.all_eq_false]
  exact ⟨s[k]'hk, List.mem_of_getElem? (byteAt? s k hk), by rw [hd]; simp⟩

set_option maxRecDepth 100000 in
set_option maxHeartbeats 1000000 in
theorem digits_short (s : ByteArray) (w : World) (h9 : s.size ≤ 9) :
    Calls Try.prog 26 #[.string s, .int .i64 s.size] w fun e w' => e = .returned (.tuple #[.int .i64 (digV s), .bool (digA s)]) ∧ Below w.heap.size w w' := by
  have hcv := run_bytes_of_string (P := Try.prog) w 9 29 5 s Try.underlying9 Try.underlying29 Try.underlying5
  generalize grownCap w s.size 0 5 = cap at hcv
  have hcell : ∀ j (h : j < s.size), (w.drew.alloc (.cells (bytesRow s cap) 5 ((bytesRow s cap).size, (bytesRow s cap).size + 1))).cell? ⟨w.heap.size, j, none⟩ = some (.int .u8 (s[j]'h).toNat) := fun j h => row_cell w.drew s cap ((bytesRow s cap).size, (bytesRow s cap).size + 1) j h
  have hbel : Below w.heap.size w (w.drew.alloc (.cells (bytesRow s cap) 5 ((bytesRow s cap).size, (bytesRow s cap).size + 1))) := ((Below.refl _ _).drew).alloc (Nat.le_refl _) _
  generalize w.drew.alloc (.cells (bytesRow s cap) 5 ((bytesRow s cap).size, (bytesRow s cap).size + 1)) = w1 at hcv hcell hbel
  have hb : ((s.size : Int) != (s.size : Int)) = false := by simp
  go_enter Try.func26, Try.ntmps26
  go_wp2
  go_loopg [6, 8, 16] s.size (fun g v _ i wx => ∃ k : Nat, k ≤ s.size ∧ s.size ≤ k + g ∧ v = .int .i64 (valTo s k) ∧ i = .int .i64 k ∧ w1 = wx ∧ AllD s k)
  case atStart => exact ⟨0, by omega, by omega, rfl, rfl, rfl, AllD.zero _⟩
  case round =>
    obtain ⟨k, hk, hkg, rfl, rfl, rfl, hall⟩ := hrel
    have hvl := valTo_le hall (by omega)
    have HA : Hid (AllD s k) := hall
    clear hall
    by_cases hlt : k < s.size
    · have hc := hcell k hlt
      obtain ⟨c, hcc⟩ : ∃ c : UInt8, s[k]'hlt = c := ⟨_, rfl⟩
      rw [hcc] at hc
      have HC : Hid (at_ s k = c.toNat) := by show at_ s k = _; rw [at_in hlt, hcc]
      have HC2 : Hid (s[k]'hlt = c) := hcc
      clear hcc hcell
      have hc256 : (c.toNat : Int) < 256 := by have := c.toNat_lt; omega
      cases hd : isD c.toNat
      · have HN : Hid (digA s = false) := digA_no hlt (by rw [HC2.out]; exact hd)
        go_wp2_with (go_at_call 31; refine (isDigit_any _ _).mono ?_; rintro e w' ⟨rfl, hw⟩; rw [hw, hd]; clear hw)
        go_ret2
        exact ⟨by rw [digV_no HN.out, HN.out]; rfl, hbel⟩
      · obtain ⟨g1, g2⟩ := isD_iff.1 hd
        have HS : Hid (AllD s (k + 1)) := HA.out.succ (by rw [HC.out]; exact hd)
        have HV : Hid (valTo s (k + 1) = 10 * valTo s k + (c.toNat - 48)) := by show valTo s (k + 1) = _; rw [valTo, HC.out]
        go_wp2_with (go_at_call 31; refine (isDigit_any _ _).mono ?_; rintro e w' ⟨rfl, hw⟩; rw [hw, hd]; clear hw)
        go_roundg (s.size - (k + 1))
        case measure => omega
        case rel => exact ⟨k + 1, by omega, by omega, by rw [HV.out]; go_num, by go_num, rfl, HS.out⟩
    · obtain rfl : k = s.size := by omega
      have HY : Hid (digA s = true) := digA_yes HA.out
      go_wp2
      go_ret2
      exact ⟨by rw [digV_yes HY.out, HY.out]; rfl, hbel⟩

/-- digits asked for any number of bytes. -/
theorem digits_at (s : ByteArray) (n : Nat) (w : World) (h9 : n ≤ 9) :
    Calls Try.prog 26 #[.string s, .int .i64 n] w fun e w' => e = .returned (.tuple #[.int .i64 (if s.size = n then digV s else 0), .bool (decide (s.size = n) && digA s)]) ∧ Below w.heap.size w w' := by
  by_cases h : s.size = n
  · subst h
    rw [if_pos rfl, decide_eq_true rfl]
    exact digits_short s w h9
  · rw [if_neg h, decide_eq_false h]
    exact (digits_len s n w (by omega)).mono fun e w' ⟨h1, h2⟩ => ⟨h1, h2 ▸ Below.refl _ _⟩

theorem ext_to (s : ByteArray) (k : Nat) : (s.extract 0 k).data.toList = s.data.toList.take k := by
  rw [ByteArray.data_extract, Array.toList_extract, List.extract_eq_take_drop]; simp

theorem indexByte_cases (c : UInt8) (s : ByteArray) : (Lib.indexByte s.data.toList c = -1 ∧ ∀ j (h : j < s.size), s[j]'h ≠ c) ∨
    ∃ (k : Nat) (hk : k < s.size), Lib.indexByte s.data.toList c = k ∧ s[k]'hk = c ∧ ∀ j (h : j < s.size), j < k → s[j]'h ≠ c := by
  have h := Lib.indexByte_ge s.data.toList c
  by_cases e : Lib.indexByte s.data.toList c = -1
  · refine .inl ⟨e, fun j hj hc => Lib.indexByte_none e j ?_⟩
    rw [byteAt? s j hj, hc]
  · obtain ⟨k, hk⟩ := Int.eq_ofNat_of_zero_le (show 0 ≤ Lib.indexByte s.data.toList c by omega)
    have h1 := Lib.indexByte_some hk
    have hlt : k < s.size := by have := (List.getElem?_eq_some_iff.1 h1.1).1; rw [list_len] at this; exact this
    refine .inr ⟨k, hlt, hk, ?_, fun j hj hjk hc => h1.2 j hjk ?_⟩
    · have := h1.1; rw [byteAt? s k hlt] at this; exact Option.some.inj this
    · rw [byteAt? s j hj, hc]

set_option maxHeartbeats 400000 in
theorem cut0_no (s : ByteArray) (c : UInt8) (w : World) (h : Lib.indexByte s.data.toList c = -1) :
    Calls Try.prog 30 #[.string s, .string ⟨#[c]⟩] w fun e w' => e = .returned (.tuple #[.string s, .string ⟨#[]⟩, .bool false]) ∧ Below w.heap.size w w' := by
  go_enter Try.func30, Try.ntmps30
  go_wp2_with (go_at_call 32; refine (Try.stringslite_Index_one _ _ _).mono ?_; rintro e w' ⟨rfl, hw⟩; rw [hw, h]; clear hw)
  go_ret3
  exact ⟨rfl, Below.refl _ _⟩

set_option maxHeartbeats 400000 in
theorem cut0_yes (s : ByteArray) (c : UInt8) (k : Nat) (w : World) (hs : s.size ≤ 1048576) (hk : k < s.size) (h : Lib.indexByte s.data.toList c = k) :
    Calls Try.prog 30 #[.string s, .string ⟨#[c]⟩] w fun e w' => e = .returned (.tuple #[.string (s.extract 0 k), .string (s.extract (k + 1) s.size), .bool true]) ∧ Below w.heap.size w w' := by
  have q1 : (k : Int) ≤ (s.size : Int) := by omega
  have q2 : (k : Int) + 1 ≤ (s.size : Int) := by omega
  have q3 : (0 : Int) ≤ (k : Int) + 1 := by omega
  go_enter Try.func30, Try.ntmps30
  go_wp2_with (go_at_call 32; refine (Try.stringslite_Index_one _ _ _).mono ?_; rintro e w' ⟨rfl, hw⟩; rw [hw, h]; clear hw)
  go_quiet (fail)
  go_wp2
  go_ret3
  exact ⟨rfl, below_drewN (Below.refl _ _) _⟩

set_option maxHeartbeats 400000 in
theorem cut_no (s : ByteArray) (c : UInt8) (w : World) (h : Lib.indexByte s.data.toList c = -1) :
    Calls Try.prog 25 #[.string s, .string ⟨#[c]⟩] w fun e w' => e = .returned (.tuple #[.string s, .string ⟨#[]⟩, .bool false]) ∧ Below w.heap.size w w' := by
  go_enter Try.func25, Try.ntmps25
  go_wp2_with (go_at_call 30; refine (cut0_no _ _ _ h).mono ?_; rintro e w' ⟨rfl, hb⟩)
  go_ret3
  exact ⟨rfl, hb⟩

set_option maxHeartbeats 400000 in
theorem cut_yes (s : ByteArray) (c : UInt8) (k : Nat) (w : World) (hs : s.size ≤ 1048576) (hk : k < s.size) (h : Lib.indexByte s.data.toList c = k) :
    Calls Try.prog 25 #[.string s, .string ⟨#[c]⟩] w fun e w' => e = .returned (.tuple #[.string (s.extract 0 k), .string (s.extract (k + 1) s.size), .bool true]) ∧ Below w.heap.size w w' := by
  go_enter Try.func25, Try.ntmps25
  go_wp2_with (go_at_call 30; refine (cut0_yes _ _ k _ hs hk h).mono ?_; rintro e w' ⟨rfl, hb⟩)
  go_ret3
  exact ⟨rfl, hb⟩

/-! zzb1Two -/
set_option maxHeartbeats 1000000 in
theorem two_short (s : ByteArray) (k : Nat) (w : World) (hk : k ≤ 100) (h : ¬ k + 2 ≤ s.size) :
    Calls Try.prog 20 #[.string s, .int .i64 k] w fun e w' => e = .returned (.tuple #[.int .i64 0, .bool false]) ∧ Below w.heap.size w w' := by
  have q1 : ¬ ((k : Int) < 0) := by omega
  have q2 : (s.size : Int) < (k : Int) + 2 := by omega
  go_enter Try.func20, Try.ntmps20
  go_wp2
  go_ret2
  exact ⟨rfl, Below.refl _ _⟩

set_option maxHeartbeats 1000000 in
theorem two_bad (s : ByteArray) (k : Nat) (w : World) (hk : k ≤ 100) (h : k + 2 ≤ s.size) (hd : (isD (s[k]'(by omega)).toNat && isD (s[k + 1]'(by omega)).toNat) = false) :
    Calls Try.prog 20 #[.string s, .int .i64 k] w fun e w' => e = .returned (.tuple #[.int .i64 0, .bool false]) ∧ Below w.heap.size w w' := by
  have q1 : ¬ ((k : Int) < 0) := by omega
  have q2 : ¬ (s.size : Int) < (k : Int) + 2 := by omega
  have q3 : (k : Int) < (s.size : Int) := by omega
  have q4 : (k : Int) + 1 < (s.size : Int) := by omega
  cases h1 : isD (s[k]'(by omega)).toNat
  · go_enter Try.func20, Try.ntmps20
    go_wp2_with (go_at_call 21; refine (zzDig_any _ _).mono ?_; rintro e w' ⟨rfl, hw⟩; rw [hw, h1]; clear hw)
    go_ret2
    exact ⟨rfl, Below.refl _ _⟩
  · have h2 : isD (s[k + 1]'(by omega)).toNat = false := by rw [h1] at hd; exact hd
    clear hd
    go_enter Try.func20, Try.ntmps20
    go_wp2_with fail
    refine (zzDig_any _ _).mono ?_; rintro e w' ⟨rfl, hw⟩; rw [hw, h1]; clear hw
    go_wp2_with fail
    refine (zzDig_any _ _).mono ?_; rintro e w' ⟨rfl, hw⟩; rw [hw, h2]; clear hw
    go_wp2
    go_ret2
    exact ⟨rfl, Below.refl _ _⟩

set_option maxHeartbeats 1000000 in
theorem two_yes (s : ByteArray) (k : Nat) (w : World) (hk : k ≤ 100) (h : k + 2 ≤ s.size) (h1 : isD (s[k]'(by omega)).toNat = true) (h2 : isD (s[k + 1]'(by omega)).toNat = true) :
    Calls Try.prog 20 #[.string s, .int .i64 k] w fun e w' => e = .returned (.tuple #[.int .i64 ((((s[k]'(by omega)).toNat : Int) - 48) * 10 + (((s[k + 1]'(by omega)).toNat : Int) - 48)), .bool true]) ∧ Below w.heap.size w w' := by
  have q1 : ¬ ((k : Int) < 0) := by omega
  have q2 : ¬ (s.size : Int) < (k : Int) + 2 := by omega
  have q3 : (k : Int) < (s.size : Int) := by omega
  have q4 : (k : Int) + 1 < (s.size : Int) := by omega
  obtain ⟨b1, b2⟩ := isD_iff.1 h1
  obtain ⟨b3, b4⟩ := isD_iff.1 h2
  have q5 : (0 : Int) ≤ (k : Int) + 1 := by omega
  go_enter Try.func20, Try.ntmps20
  go_wp2_with fail
  refine (zzDig_any _ _).mono ?_; rintro e w' ⟨rfl, hw⟩; rw [hw, h1]; clear hw
  go_wp2_with fail
  refine (zzDig_any _ _).mono ?_; rintro e w' ⟨rfl, hw⟩; rw [hw, h2]; clear hw
  go_wp2
  go_quiet (fail)
  go_wp2
  go_ret2
  exact ⟨rfl, below_drewN (Below.refl _ _) _⟩

/-- What zzb1Two answers. -/
def twoI (s : ByteArray) (k : Nat) : Int := if twoOk s k then twoV s k else 0
theorem twoI_yes {s : ByteArray} {k : Nat} (h : twoOk s k = true) : twoI s k = twoV s k := by unfold twoI; rw [h]; rfl
theorem twoI_no {s : ByteArray} {k : Nat} (h : twoOk s k = false) : twoI s k = 0 := by unfold twoI; rw [h]; rfl
theorem twoOk_size {s : ByteArray} {k : Nat} (h : twoOk s k = true) : k + 2 ≤ s.size := by
  unfold twoOk at h
  rw [Bool.and_eq_true] at h
  have := isD_in h.2; omega
theorem twoV_le {s : ByteArray} {k : Nat} (h : twoOk s k = true) : twoV s k ≤ 99 := by
  unfold twoOk at h
  rw [Bool.and_eq_true] at h
  have h1 := isD_iff.1 h.1
  have h2 := isD_iff.1 h.2
  unfold twoV; omega

theorem two_any (s : ByteArray) (k : Nat) (w : World) (hk : k ≤ 100) :
    Calls Try.prog 20 #[.string s, .int .i64 k] w fun e w' => e = .returned (.tuple #[.int .i64 (twoI s k), .bool (twoOk s k)]) ∧ Below w.heap.size w w' := by
  by_cases h : k + 2 ≤ s.size
  · have e1 : at_ s k = (s[k]'(by omega)).toNat := at_in _
    have e2 : at_ s (k + 1) = (s[k + 1]'(by omega)).toNat := at_in _
    cases hd : twoOk s k
    · rw [twoI_no hd]
      exact two_bad s k w hk h (by rw [← e1, ← e2]; exact hd)
    · rw [twoI_yes hd]
      have hd' := hd
      unfold twoOk at hd'
      rw [Bool.and_eq_true, e1, e2] at hd'
      have hv : ((twoV s k : Nat) : Int) = (((s[k]'(by omega)).toNat : Int) - 48) * 10 + (((s[k + 1]'(by omega)).toNat : Int) - 48) := by
        have h1 := isD_iff.1 hd'.1
        have h2 := isD_iff.1 hd'.2
        unfold twoV
        rw [e1, e2]; omega
      rw [hv]
      exact two_yes s k w hk h hd'.1 hd'.2
  · have hd : twoOk s k = false := by
      cases hd : twoOk s k
      · rfl
      · exact absurd (twoOk_size hd) h
    rw [twoI_no hd, hd]
    exact two_short s k w hk h

set_option maxHeartbeats 400000 in
theorem zz8_any (s : ByteArray) (w : World) (h : s.size ≤ 1048576) :
    Calls Try.prog 8 #[.string s] w fun e w' => e = .returned (.bool true) ∧ w' = w := by
  go_enter Try.func8, Try.ntmps8
  go_wp2
  go_ret
  exact ⟨rfl, rfl⟩

set_option maxHeartbeats 400000 in
theorem zz8_no (s : ByteArray) (w : World) (hs : s.size ≤ maxLen) (h : 1048576 < s.size) :
    Calls Try.prog 8 #[.string s] w fun e w' => e = .returned (.bool false) ∧ w' = w := by
  unfold maxLen at hs
  go_enter Try.func8, Try.ntmps8
  go_wp2
  go_ret
  exact ⟨rfl, rfl⟩

set_option maxHeartbeats 400000 in
theorem zz12_any (s : ByteArray) (w : World) (h : s.size ≤ 1048576) :
    Calls Try.prog 12 #[.string s] w fun e w' => e = .returned (.bool true) ∧ w' = w := by
  go_enter Try.func12, Try.ntmps12
  go_wp2
  go_ret
  exact ⟨rfl, rfl⟩

set_option maxHeartbeats 400000 in
theorem zz12_no (s : ByteArray) (w : World) (hs : s.size ≤ maxLen) (h : 1048576 < s.size) :
    Calls Try.prog 12 #[.string s] w fun e w' => e = .returned (.bool false) ∧ w' = w := by
  unfold maxLen at hs
  go_enter Try.func12, Try.ntmps12
  go_wp2
  go_ret
  exact ⟨rfl, rfl⟩

end Go.Proofs.Qxb6600803a
