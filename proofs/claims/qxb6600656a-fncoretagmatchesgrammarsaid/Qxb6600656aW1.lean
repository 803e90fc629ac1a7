import Derived.Test.Qxb6600656aRows
import Derived.Test.Qxb6600656aPl
import Derived.WalkKit
import Derived.Deep.QuietTactic
import Derived.BigQuiet
import Derived.Laws.Strings2
import Derived.Laws.Strings3
import Derived.Laws.IdiomStrings
import Derived.WalkSmall
import Derived.Deep.LoopGhost
namespace Go.Proofs.Qxb6600656a
open Go.RowKit

theorem byteAt? (s : ByteArray) (j : Nat) (h : j < s.size) : s.data.toList[j]? = some (s[j]'h) := by
  have h' : j < s.data.size := h
  rw [Array.getElem?_toList, Array.getElem?_eq_getElem h']; rfl

theorem row_cell (w : World) (s : ByteArray) (cap : Nat) (m : Nat × Nat) (j : Nat) (h : j < s.size) : (w.alloc (.cells (bytesRow s cap) 5 m)).cell? ⟨w.heap.size, j, none⟩ = some (.int .u8 (s[j]'h).toNat) := by
  have hh : (w.alloc (.cells (bytesRow s cap) 5 m)).heap[w.heap.size]? = some (.cells (bytesRow s cap) 5 m) := by
    show (w.heap.push _)[w.heap.size]? = _
    simp
  have h' : j < s.data.size := h
  unfold World.cell?
  rw [hh]
  show (bytesRow s cap)[j]? = _
  unfold bytesRow
  rw [Array.getElem?_append_left (by simpa using h'), Array.getElem?_map, Array.getElem?_eq_getElem h']
  rfl

/-- The first k bytes are digits. -/
def AllTo (b : Nat) (s : ByteArray) (k : Nat) : Prop := ∀ j (h : j < s.size), j < k → digB b (s[j]'h) = true

theorem AllTo.zero (b : Nat) (s : ByteArray) : AllTo b s 0 := fun _ _ h => by omega
theorem AllTo.succ {b : Nat} {s : ByteArray} {k : Nat} (h : AllTo b s k) (hk : k < s.size) (hd : digB b (s[k]'hk) = true) : AllTo b s (k + 1) := fun j hj h1 => by
  by_cases e : j = k
  · subst e; exact hd
  · exact h j hj (by omega)
theorem digs_all {b : Nat} {s : ByteArray} (h0 : 0 < s.size) (h : AllTo b s s.size) : digs b s.data.toList = true := by
  unfold digs
  rw [Bool.and_eq_true]
  refine ⟨?_, ?_⟩
  · cases hl : s.data.toList with
    | nil => have : s.data.toList.length = s.size := by rw [Array.length_toList]; rfl
             rw [hl] at this; simp at this; omega
    | cons _ _ => rfl
  · rw [List.all_eq_true]
    intro x hx
    obtain ⟨j, hj, e⟩ := List.getElem_of_mem hx
    have hj' : j < s.size := by rw [Array.length_toList] at hj; exact hj
    have := h j hj' hj'
    rw [← e]
    exact this
theorem digs_no {b : Nat} {s : ByteArray} {k : Nat} (hk : k < s.size) (hd : digB b (s[k]'hk) = false) : digs b s.data.toList = false := by
  unfold digs
  rw [Bool.and_eq_false_iff]
  right
  rw [List.all_eq_false]
  exact ⟨s[k]'hk, List.mem_of_getElem? (byteAt? s k hk), by rw [hd]; simp⟩

theorem dig_cases (b : Nat) (hb : b ≤ 16) (c : UInt8) :
    ((48 ≤ (c.toNat : Int) ∧ (c.toNat : Int) ≤ 57) ∧ digB b c = decide ((c.toNat : Int) - 48 < b)) ∨
    (¬ (48 ≤ (c.toNat : Int) ∧ (c.toNat : Int) ≤ 57) ∧ (97 ≤ (c.toNat : Int) ∧ (c.toNat : Int) ≤ 102) ∧ digB b c = decide ((c.toNat : Int) - 97 + 10 < b)) ∨
    (¬ (48 ≤ (c.toNat : Int) ∧ (c.toNat : Int) ≤ 57) ∧ ¬ (97 ≤ (c.toNat : Int) ∧ (c.toNat : Int) ≤ 102) ∧ (65 ≤ (c.toNat : Int) ∧ (c.toNat : Int) ≤ 70) ∧ digB b c = decide ((c.toNat : Int) - 65 + 10 < b)) ∨
    (¬ (48 ≤ (c.toNat : Int) ∧ (c.toNat : Int) ≤ 57) ∧ ¬ (97 ≤ (c.toNat : Int) ∧ (c.toNat : Int) ≤ 102) ∧ ¬ (65 ≤ (c.toNat : Int) ∧ (c.toNat : Int) ≤ 70) ∧ digB b c = false) := by
  unfold digB dval
  by_cases h1 : 48 ≤ c.toNat ∧ c.toNat ≤ 57
  · left; refine ⟨by omega, ?_⟩; rw [if_pos h1]; exact decide_eq_decide.2 (by omega)
  · right
    by_cases h2 : 97 ≤ c.toNat ∧ c.toNat ≤ 102
    · left; refine ⟨by omega, by omega, ?_⟩; rw [if_neg h1, if_pos h2]; exact decide_eq_decide.2 (by omega)
    · right
      by_cases h3 : 65 ≤ c.toNat ∧ c.toNat ≤ 70
      · left; refine ⟨by omega, by omega, by omega, ?_⟩; rw [if_neg h1, if_neg h2, if_pos h3]; exact decide_eq_decide.2 (by omega)
      · right; refine ⟨by omega, by omega, by omega, ?_⟩; rw [if_neg h1, if_neg h2, if_neg h3]; exact decide_eq_false (by omega)

theorem ret_bool {a b : Bool} (h : a = b) : Ending.returned (.bool a) = .returned (.bool b) := by rw [h]
theorem toList_ne {s : ByteArray} (h0 : 0 < s.size) : (s.toList == []) = false := by
  rw [Lib.toList_data]
  cases hl : s.data.toList with
  | nil => have : s.data.toList.length = s.size := by rw [Array.length_toList]; rfl
           rw [hl] at this; simp at this; omega
  | cons _ _ => rfl

/-- What the Go function digits answers. -/
def digsB (b : Nat) (s : ByteArray) : Bool := digs b s.data.toList

set_option maxRecDepth 100000 in
set_option maxHeartbeats 1000000 in
theorem digits_some (s : ByteArray) (b : Nat) (w : World) (hs : s.size ≤ maxLen) (h0 : 0 < s.size) (hb : b ≤ 16) :
    Calls Try.prog 28 #[.string s, .int .i64 b] w fun e w' => e = .returned (.bool (digsB b s)) ∧ Below w.heap.size w w' := by
  unfold maxLen at hs
  have hcv := run_bytes_of_string (P := Try.prog) w 9 27 5 s Try.underlying9 Try.underlying27 Try.underlying5
  generalize grownCap w s.size 0 5 = cap at hcv
  have hcell : ∀ j (h : j < s.size), (w.drew.alloc (.cells (bytesRow s cap) 5 ((bytesRow s cap).size, (bytesRow s cap).size + 1))).cell? ⟨w.heap.size, j, none⟩ = some (.int .u8 (s[j]'h).toNat) := fun j h => row_cell w.drew s cap ((bytesRow s cap).size, (bytesRow s cap).size + 1) j h
  have hbel : Below w.heap.size w (w.drew.alloc (.cells (bytesRow s cap) 5 ((bytesRow s cap).size, (bytesRow s cap).size + 1))) := ((Below.refl _ _).drew).alloc (Nat.le_refl _) _
  generalize w.drew.alloc (.cells (bytesRow s cap) 5 ((bytesRow s cap).size, (bytesRow s cap).size + 1)) = w1 at hcv hcell hbel
  have hne : (s.toList == []) = false := toList_ne h0
  go_enter Try.func28, Try.ntmps28
  go_wp2
  go_loopg [6, 7, 13] s.size (fun g _ _ i wx => ∃ k : Nat, k ≤ s.size ∧ s.size ≤ k + g ∧ i = .int .i64 k ∧ w1 = wx ∧ AllTo b s k)
  case atStart => exact ⟨0, by omega, by omega, rfl, rfl, AllTo.zero _ _⟩
  case round =>
    obtain ⟨k, hk, hkg, rfl, rfl, hall⟩ := hrel
    have HA : Hid (AllTo b s k) := hall
    clear hall
    by_cases hlt : k < s.size
    · have hc := hcell k hlt
      obtain ⟨c, hcc⟩ : ∃ c : UInt8, s[k]'hlt = c := ⟨_, rfl⟩
      rw [hcc] at hc
      have HC : Hid (s[k]'hlt = c) := hcc
      clear hcc hcell
      have hc256 : (c.toNat : Int) < 256 := by have := c.toNat_lt; omega
      rcases dig_cases b hb c with ⟨h1, hd⟩ | ⟨h1, h2, hd⟩ | ⟨h1, h2, h3, hd⟩ | ⟨h1, h2, h3, hd⟩
      · have HD : Hid (digB b c = decide ((c.toNat : Int) - 48 < b)) := hd
        clear hd
        obtain ⟨g1, g2⟩ := h1
        go_wp2
        · go_ret
          exact ⟨ret_bool (digs_no hlt (by rw [HC.out, HD.out]; exact decide_eq_false (by omega))).symm, hbel⟩
        · go_roundg (s.size - (k + 1))
          case measure => omega
          case rel => exact ⟨k + 1, by omega, by omega, by go_num, rfl, HA.out.succ hlt (by rw [HC.out, HD.out]; exact decide_eq_true (by omega))⟩
      · have HD : Hid (digB b c = decide ((c.toNat : Int) - 97 + 10 < b)) := hd
        clear hd
        obtain ⟨g1, g2⟩ := h2
        have g0 : ¬ ((c.toNat : Int) ≤ 57) := by omega
        go_wp2
        · go_ret
          exact ⟨ret_bool (digs_no hlt (by rw [HC.out, HD.out]; exact decide_eq_false (by omega))).symm, hbel⟩
        · go_roundg (s.size - (k + 1))
          case measure => omega
          case rel => exact ⟨k + 1, by omega, by omega, by go_num, rfl, HA.out.succ hlt (by rw [HC.out, HD.out]; exact decide_eq_true (by omega))⟩
      · have HD : Hid (digB b c = decide ((c.toNat : Int) - 65 + 10 < b)) := hd
        clear hd
        obtain ⟨g1, g2⟩ := h3
        have g0 : ¬ ((c.toNat : Int) ≤ 57) := by omega
        have g3 : ¬ (97 ≤ (c.toNat : Int)) := by omega
        go_wp2
        · go_ret
          exact ⟨ret_bool (digs_no hlt (by rw [HC.out, HD.out]; exact decide_eq_false (by omega))).symm, hbel⟩
        · go_roundg (s.size - (k + 1))
          case measure => omega
          case rel => exact ⟨k + 1, by omega, by omega, by go_num, rfl, HA.out.succ hlt (by rw [HC.out, HD.out]; exact decide_eq_true (by omega))⟩
      · have HD : Hid (digB b c = false) := hd
        clear hd
        go_wp2
        all_goals
          go_ret
          exact ⟨ret_bool (digs_no hlt (by rw [HC.out, HD.out])).symm, hbel⟩
    · go_wp2
      go_ret
      obtain rfl : k = s.size := by omega
      exact ⟨ret_bool (digs_all h0 HA.out).symm, hbel⟩

set_option maxHeartbeats 400000 in
theorem digits_none (s : ByteArray) (b : Nat) (w : World) (h0 : s.size = 0) :
    Calls Try.prog 28 #[.string s, .int .i64 b] w fun e w' => e = .returned (.bool (digsB b s)) ∧ Below w.heap.size w w' := by
  have hl : s.data.toList = [] := List.eq_nil_of_length_eq_zero (by rw [Array.length_toList]; exact h0)
  have hne : (s.toList == []) = true := by rw [Lib.toList_data, hl]; rfl
  have hr : digsB b s = false := by unfold digsB; rw [hl]; rfl
  rw [hr]
  clear hl hr
  go_enter Try.func28, Try.ntmps28
  go_wp2
  go_ret
  exact ⟨rfl, Below.refl _ _⟩

theorem digits_any (s : ByteArray) (b : Nat) (w : World) (hs : s.size ≤ maxLen) (hb : b ≤ 16) :
    Calls Try.prog 28 #[.string s, .int .i64 b] w fun e w' => e = .returned (.bool (digsB b s)) ∧ Below w.heap.size w w' := by
  by_cases h0 : s.size = 0
  · exact digits_none s b w h0
  · exact digits_some s b w hs (by omega) hb

end Go.Proofs.Qxb6600656a
