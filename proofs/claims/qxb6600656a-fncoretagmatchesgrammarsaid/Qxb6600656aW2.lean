import Derived.Test.Qxb6600656aW1
import Derived.Test.Qxb6600656aShelf
import Derived.Test.Qxb6600656aIdx
import Derived.Lib.IndexLaws
import Derived.Deep.Cut
namespace Go.Proofs.Qxb6600656a
open Go.RowKit

theorem idx_any (s : ByteArray) (w : World) (hs : s.size < 4294967281) : Calls Try.prog 34 #[.string s, .string ⟨#[101, 69]⟩] w fun e w' => e = .returned (.int .i64 (Lib.indexAny s.data.toList [101, 69])) ∧ Below w.heap.size w w' :=
  idxAny_two (P := Try.prog) Try.lays153 (by kernel_rfl) s 101 69 w (by decide) (by decide) hs

theorem ext_to (s : ByteArray) (k : Nat) : (s.extract 0 k).data.toList = s.data.toList.take k := by
  rw [ByteArray.data_extract, Array.toList_extract, List.extract_eq_take_drop]; simp
theorem ext_from (s : ByteArray) (k : Nat) : (s.extract k s.size).data.toList = s.data.toList.drop k := by
  rw [ByteArray.data_extract, Array.toList_extract, List.extract_eq_take_drop, List.take_of_length_le]
  rw [List.length_drop, Array.length_toList]; exact Nat.le_refl _
theorem list_len (s : ByteArray) : s.data.toList.length = s.size := by rw [Array.length_toList]; rfl

theorem indexByte_cases (c : UInt8) (l : List UInt8) : Lib.indexByte l c = -1 ∨ ∃ k : Nat, k < l.length ∧ Lib.indexByte l c = k := by
  have h := Lib.indexByte_ge l c
  by_cases e : Lib.indexByte l c = -1
  · exact .inl e
  · obtain ⟨k, hk⟩ := Int.eq_ofNat_of_zero_le (show 0 ≤ Lib.indexByte l c by omega)
    have := (Lib.indexByte_some hk).1
    exact .inr ⟨k, (List.getElem?_eq_some_iff.1 this).1, hk⟩

theorem idx_cases (chars : List UInt8) : ∀ l : List UInt8, (Lib.indexAny l chars = -1 ∧ Lib.NoAny l chars l.length) ∨
    ∃ k : Nat, k < l.length ∧ Lib.indexAny l chars = k ∧ Lib.NoAny l chars k ∧ ∃ x, l[k]? = some x ∧ chars.contains x = true
  | [] => .inl ⟨rfl, Lib.NoAny.zero _ _⟩
  | b :: l => by
    cases hb : chars.contains b with
    | true => exact .inr ⟨0, by simp, by rw [Lib.indexAny, if_pos hb]; rfl, Lib.NoAny.zero _ _, b, rfl, hb⟩
    | false =>
      have step : ∀ n, Lib.NoAny l chars n → Lib.NoAny (b :: l) chars (n + 1) := by
        intro n hn j x hj hx
        cases j with
        | zero => simp at hx; subst hx; exact hb
        | succ j => exact hn j x (by omega) (by simpa using hx)
      rcases idx_cases chars l with ⟨h1, h2⟩ | ⟨k, hk, h1, h2, x, hx, hc⟩
      · exact .inl ⟨by rw [Lib.indexAny, h1, hb]; rfl, by simpa using step _ h2⟩
      · refine .inr ⟨k + 1, by simp; omega, ?_, step _ h2, x, by simpa using hx, hc⟩
        rw [Lib.indexAny, h1, hb, if_neg (by simp), if_neg (by simp)]
        push_cast; rfl

set_option maxHeartbeats 400000 in
theorem cut0_no (s : ByteArray) (w : World) (h : Lib.indexByte s.data.toList 46 = -1) :
    Calls Try.prog 40 #[.string s, .string ⟨#[46]⟩] w fun e w' => e = .returned (.tuple #[.string s, .string ⟨#[]⟩, .bool false]) ∧ Below w.heap.size w w' := by
  go_enter Try.func40, Try.ntmps40
  go_wp2_with (go_at_call 45; refine (Try.stringslite_Index_one _ _ _).mono ?_; rintro e w' ⟨rfl, hw⟩; rw [hw, h]; clear hw)
  go_ret3
  exact ⟨rfl, Below.refl _ _⟩

set_option maxHeartbeats 400000 in
theorem cut0_yes (s : ByteArray) (k : Nat) (w : World) (hs : s.size ≤ maxLen) (hk : k < s.size) (h : Lib.indexByte s.data.toList 46 = k) :
    Calls Try.prog 40 #[.string s, .string ⟨#[46]⟩] w fun e w' => e = .returned (.tuple #[.string (s.extract 0 k), .string (s.extract (k + 1) s.size), .bool true]) ∧ Below w.heap.size w w' := by
  unfold maxLen at hs
  have q1 : (k : Int) ≤ (s.size : Int) := by omega
  have q2 : (k : Int) + 1 ≤ (s.size : Int) := by omega
  have q3 : (0 : Int) ≤ (k : Int) + 1 := by omega
  go_enter Try.func40, Try.ntmps40
  go_wp2_with (go_at_call 45; refine (Try.stringslite_Index_one _ _ _).mono ?_; rintro e w' ⟨rfl, hw⟩; rw [hw, h]; clear hw)
  go_quiet (fail)
  go_wp2
  go_ret3
  exact ⟨rfl, below_drewN (Below.refl _ _) _⟩

set_option maxHeartbeats 400000 in
theorem cut_no (s : ByteArray) (w : World) (h : Lib.indexByte s.data.toList 46 = -1) :
    Calls Try.prog 35 #[.string s, .string ⟨#[46]⟩] w fun e w' => e = .returned (.tuple #[.string s, .string ⟨#[]⟩, .bool false]) ∧ Below w.heap.size w w' := by
  go_enter Try.func35, Try.ntmps35
  go_wp2_with (go_at_call 40; refine (cut0_no _ _ h).mono ?_; rintro e w' ⟨rfl, hb⟩)
  go_ret3
  exact ⟨rfl, hb⟩

set_option maxHeartbeats 400000 in
theorem cut_yes (s : ByteArray) (k : Nat) (w : World) (hs : s.size ≤ maxLen) (hk : k < s.size) (h : Lib.indexByte s.data.toList 46 = k) :
    Calls Try.prog 35 #[.string s, .string ⟨#[46]⟩] w fun e w' => e = .returned (.tuple #[.string (s.extract 0 k), .string (s.extract (k + 1) s.size), .bool true]) ∧ Below w.heap.size w w' := by
  go_enter Try.func35, Try.ntmps35
  go_wp2_with (go_at_call 40; refine (cut0_yes _ k _ hs hk h).mono ?_; rintro e w' ⟨rfl, hb⟩)
  go_ret3
  exact ⟨rfl, hb⟩

end Go.Proofs.Qxb6600656a
