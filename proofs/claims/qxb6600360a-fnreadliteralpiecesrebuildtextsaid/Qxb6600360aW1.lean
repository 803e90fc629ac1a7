import Derived.Test.Qxb6600360aRows
import Derived.WalkKit
import Derived.Lib.IndexAny
import Derived.Deep.QuietTactic
import Derived.BigQuiet
import Derived.Laws.Strings2
import Derived.Laws.Strings3
import Derived.WalkSmall
namespace Go.Proofs.Qxb6600360a
open Go.RowKit

/-- What strings.IndexAny answers at the two bytes backslash and ampersand. -/
def IdxC : Prop := ∀ (s : ByteArray) (w : World), s.size < 4294967281 → Calls Try.prog 19 #[.string s, .string ⟨#[92, 38]⟩] w fun e w' => e = .returned (.int .i64 (Lib.indexAny s.data.toList [92, 38])) ∧ Below w.heap.size w w'

theorem idx_cases (chars : List UInt8) : ∀ l : List UInt8, (Lib.indexAny l chars = -1 ∧ Lib.NoAny l chars l.length) ∨
    ∃ k : Nat, k < l.length ∧ Lib.indexAny l chars = k ∧ Lib.NoAny l chars k ∧ ∃ x, l[k]? = some x ∧ chars.contains x = true
  | [] => .inl ⟨rfl, Lib.NoAny.zero _ _⟩
  | b :: l => by
    cases hb : chars.contains b with
    | true => exact .inr ⟨0, by simp, by rw [Lib.indexAny, if_pos hb]; rfl, Lib.NoAny.zero _ _, b, rfl, hb⟩
    | false =>
      have step : ∀ n, Lib.NoAny l chars n → Lib.NoAny (b :: l) chars (n + 1) := by
        intro n hn j x hj hx
        cases j with
        | zero => simp at hx; subst hx; exact hb
        | succ j => exact hn j x (by omega) (by simpa using hx)
      rcases idx_cases chars l with ⟨h1, h2⟩ | ⟨k, hk, h1, h2, x, hx, hc⟩
      · exact .inl ⟨by rw [Lib.indexAny, h1, hb]; rfl, by simpa using step _ h2⟩
      · refine .inr ⟨k + 1, by simp; omega, ?_, step _ h2, x, by simpa using hx, hc⟩
        rw [Lib.indexAny, h1, hb, if_neg (by simp), if_neg (by simp)]
        push_cast; rfl

set_option maxHeartbeats 400000 in
theorem zzBytes_any (s : ByteArray) (w : World) (h : s.size ≤ 1048576) :
    Calls Try.prog 10 #[.string s] w fun e w' => e = .returned (.bool true) ∧ w' = w := by
  go_enter Try.func10, Try.ntmps10
  go_wp2
  go_ret
  exact ⟨rfl, rfl⟩

set_option maxHeartbeats 400000 in
theorem zzBytes_no (s : ByteArray) (w : World) (hs : s.size ≤ maxLen) (h : 1048576 < s.size) :
    Calls Try.prog 10 #[.string s] w fun e w' => e = .returned (.bool false) ∧ w' = w := by
  unfold maxLen at hs
  go_enter Try.func10, Try.ntmps10
  go_wp2
  go_ret
  exact ⟨rfl, rfl⟩

/-- Is the byte at j (j inside s) a backslash or an ampersand? -/
def spB (s : ByteArray) (j : Nat) : Bool := match s.data.toList[j]? with | some x => ([92, 38] : List UInt8).contains x | none => false

/-- e is the first special place behind i, or the end. -/
def Ends (s : ByteArray) (i e : Nat) : Prop := i < e ∧ e ≤ s.size ∧ (∀ j, i < j → j < e → spB s j = false) ∧ (e = s.size ∨ spB s e = true)

theorem ext_get (s : ByteArray) (a j : Nat) (h : a ≤ j) (hj : j < s.size) : (s.extract a s.size).data.toList[j - a]? = s.data.toList[j]? := by
  rw [ByteArray.data_extract, Array.toList_extract, List.extract_eq_take_drop, List.getElem?_take, List.getElem?_drop, if_pos (by omega), show a + (j - a) = j from by omega]

theorem ext_len (s : ByteArray) (a : Nat) : (s.extract a s.size).data.toList.length = s.size - a := by
  rw [Array.length_toList]
  show (s.extract a s.size).size = _
  simp

theorem ends_none (s : ByteArray) (i : Nat) (hi : i < s.size) (h : Lib.NoAny (s.extract (i + 1) s.size).data.toList [92, 38] (s.extract (i + 1) s.size).data.toList.length) : Ends s i s.size := by
  refine ⟨hi, Nat.le_refl _, fun j h1 h2 => ?_, .inl rfl⟩
  unfold spB
  have hj := ext_get s (i + 1) j (by omega) h2
  cases hx : s.data.toList[j]? with
  | none => rfl
  | some x => exact h (j - (i + 1)) x (by rw [ext_len]; omega) (by rw [hj, hx])

theorem ends_hit (s : ByteArray) (i k : Nat) (x : UInt8) (hk : k < (s.extract (i + 1) s.size).data.toList.length) (h : Lib.NoAny (s.extract (i + 1) s.size).data.toList [92, 38] k)
    (hx : (s.extract (i + 1) s.size).data.toList[k]? = some x) (hc : ([92, 38] : List UInt8).contains x = true) : Ends s i (i + 1 + k) := by
  rw [ext_len] at hk
  have hj := ext_get s (i + 1) (i + 1 + k) (by omega) (by omega)
  rw [show i + 1 + k - (i + 1) = k from by omega, hx] at hj
  refine ⟨by omega, by omega, fun j h1 h2 => ?_, .inr (by unfold spB; rw [← hj]; exact hc)⟩
  unfold spB
  have hj := ext_get s (i + 1) j (by omega) (by omega)
  cases hx : s.data.toList[j]? with
  | none => rfl
  | some x => exact h (j - (i + 1)) x (by omega) (by rw [hj, hx])

set_option maxHeartbeats 400000 in
theorem readLiteral_any (hidx : IdxC) (s : ByteArray) (w : World) (i : Nat) (h : s.size ≤ 1048576) (hi : i < s.size) :
    Calls Try.prog 17 #[.string s, .int .i64 i] w fun e w' => ∃ n, Ends s i n ∧ e = .returned (.tuple #[.int .i64 n, .string (s.extract i n), .bool true]) ∧ Below w.heap.size w w' := by
  rcases idx_cases [92, 38] (s.extract (i + 1) s.size).data.toList with ⟨h1, h2⟩ | ⟨k, hk, h1, h2, x, hx, hc⟩
  · have E := ends_none s i hi h2
    have HE : Hid (Ends s i _) := E
    clear E h2
    have q1 : (i : Int) ≤ (s.size : Int) := by omega
    go_enter Try.func17, Try.ntmps17
    go_wp2_with (go_at_call 19; refine (hidx _ _ (by simp; omega)).mono ?_; rintro e w' ⟨rfl, hb⟩; rw [h1])
    go_quiet (fail)
    all_goals (try go_wp2)
    go_ret3
    exact ⟨_, HE.out, rfl, below_drewN hb _⟩
  · have E := ends_hit s i k x hk h2 hx hc
    have HE : Hid (Ends s i _) := E
    rw [ext_len] at hk
    clear E h2 hx hc
    have q1 : (i : Int) ≤ (i : Int) + 1 + (k : Int) := by omega
    have q2 : (i : Int) + 1 + (k : Int) ≤ (s.size : Int) := by omega
    go_enter Try.func17, Try.ntmps17
    go_wp2_with (go_at_call 19; refine (hidx _ _ (by simp; omega)).mono ?_; rintro e w' ⟨rfl, hb⟩; rw [h1])

    go_quiet (fail)
    all_goals (try go_wp2)
    go_ret3
    exact ⟨i + 1 + k, HE.out, rfl, below_drewN hb _⟩

set_option maxHeartbeats 400000 in
theorem ZZreadLiteral_any (hidx : IdxC) (s : ByteArray) (w : World) (i : Nat) (h : s.size ≤ 1048576) (hi : i < s.size) :
    Calls Try.prog 9 #[.string s, .int .i64 i] w fun e w' => ∃ n, Ends s i n ∧ e = .returned (.tuple #[.int .i64 n, .string (s.extract i n), .bool true]) ∧ Below w.heap.size w w' := by
  go_enter Try.func9, Try.ntmps9
  go_wp2_with (go_at_call 17; refine (readLiteral_any hidx _ _ _ h hi).mono ?_; rintro e w' ⟨n, hE, rfl, hb⟩)
  go_ret3
  exact ⟨n, hE, rfl, hb⟩
end Go.Proofs.Qxb6600360a
