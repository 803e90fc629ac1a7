import Derived.Test.Qxb6600803aW6
import Derived.Test.Qxb6600803aPe
import Derived.Deep.CutRange
import Derived.Deep.CutBlock
namespace Go.Proofs.Qxb6600803a
open Go.RowKit

set_option maxRecDepth 100000 in
set_option maxHeartbeats 1000000 in
/-- digits of a text of any length, asked for just so many: some number, and whether all are digits. -/
theorem digits_long (s : ByteArray) (w : World) (hs : s.size ≤ 1048576) :
    Calls Try.prog 26 #[.string s, .int .i64 s.size] w fun e w' => (∃ v : Int, e = .returned (.tuple #[.int .i64 v, .bool (digA s)])) ∧ Below w.heap.size w w' := by
  have hcv := run_bytes_of_string (P := Try.prog) w 9 29 5 s Try.underlying9 Try.underlying29 Try.underlying5
  generalize grownCap w s.size 0 5 = cap at hcv
  have hcell : ∀ j (h : j < s.size), (w.drew.alloc (.cells (bytesRow s cap) 5 ((bytesRow s cap).size, (bytesRow s cap).size + 1))).cell? ⟨w.heap.size, j, none⟩ = some (.int .u8 (s[j]'h).toNat) := fun j h => row_cell w.drew s cap ((bytesRow s cap).size, (bytesRow s cap).size + 1) j h
  have hbel : Below w.heap.size w (w.drew.alloc (.cells (bytesRow s cap) 5 ((bytesRow s cap).size, (bytesRow s cap).size + 1))) := ((Below.refl _ _).drew).alloc (Nat.le_refl _) _
  generalize w.drew.alloc (.cells (bytesRow s cap) 5 ((bytesRow s cap).size, (bytesRow s cap).size + 1)) = w1 at hcv hcell hbel
  have hb : ((s.size : Int) != (s.size : Int)) = false := by simp
  go_enter Try.func26, Try.ntmps26
  go_wp2
  go_loopg [6, 8, 16] s.size (fun g v _ i wx => ∃ (k : Nat) (q : Int), k ≤ s.size ∧ s.size ≤ k + g ∧ v = .int .i64 q ∧ i = .int .i64 k ∧ w1 = wx ∧ AllD s k)
  case atStart => exact ⟨0, 0, by omega, by omega, rfl, rfl, rfl, AllD.zero _⟩
  case round =>
    obtain ⟨k, q, hk, hkg, rfl, rfl, rfl, hall⟩ := hrel
    have HA : Hid (AllD s k) := hall
    clear hall
    by_cases hlt : k < s.size
    · have hc := hcell k hlt
      obtain ⟨c, hcc⟩ : ∃ c : UInt8, s[k]'hlt = c := ⟨_, rfl⟩
      rw [hcc] at hc
      have HC : Hid (at_ s k = c.toNat) := by show at_ s k = _; rw [at_in hlt, hcc]
      have HC2 : Hid (s[k]'hlt = c) := hcc
      clear hcc hcell
      have hc256 : (c.toNat : Int) < 256 := by have := c.toNat_lt; omega
      cases hd : isD c.toNat
      · have HN : Hid (digA s = false) := digA_no hlt (by rw [HC2.out]; exact hd)
        go_wp2_with (go_at_call 31; refine (isDigit_any _ _).mono ?_; rintro e w' ⟨rfl, hw⟩; rw [hw, hd]; clear hw)
        go_ret2
        exact ⟨by rw [HN.out]; exact ⟨_, rfl⟩, hbel⟩
      · obtain ⟨g1, g2⟩ := isD_iff.1 hd
        have HS : Hid (AllD s (k + 1)) := HA.out.succ (by rw [HC.out]; exact hd)
        go_wp2_with (go_at_call 31; refine (isDigit_any _ _).mono ?_; rintro e w' ⟨rfl, hw⟩; rw [hw, hd]; clear hw)
        go_roundg (s.size - (k + 1))
        case measure => omega
        case rel => exact ⟨k + 1, _, by omega, by omega, rfl, by go_num, rfl, HS.out⟩
    · obtain rfl : k = s.size := by omega
      have HY : Hid (digA s = true) := digA_yes HA.out
      go_wp2
      go_ret2
      exact ⟨by rw [HY.out]; exact ⟨_, rfl⟩, hbel⟩

def CutA (s u c : ByteArray) (b : Bool) : Prop :=
  (NoB s 84 0 s.size ∧ u = s ∧ c = E0 ∧ b = false) ∨
  (∃ t, FirstAt s 84 t ∧ u = s.extract 0 t ∧ c = s.extract (t + 1) s.size ∧ b = true)

theorem cutT_any (s : ByteArray) (w : World) (hs : s.size ≤ 1048576) :
    Calls Try.prog 25 #[.string s, .string ⟨#[84]⟩] w fun e w' => (∃ u c b, CutA s u c b ∧ e = .returned (.tuple #[.string u, .string c, .bool b])) ∧ Below w.heap.size w w' := by
  rcases indexByte_cases 84 s with ⟨hix, hno⟩ | ⟨k, hk, hix, hc, hno⟩
  · refine (cut_no s 84 w hix).mono ?_
    rintro e w' ⟨rfl, hb⟩
    refine ⟨⟨s, E0, false, .inl ⟨?_, rfl, rfl, rfl⟩, rfl⟩, hb⟩
    intro j _ hj e
    exact hno j hj ((at_byte hj 84).2 e)
  · refine (cut_yes s 84 k w hs hk hix).mono ?_
    rintro e w' ⟨rfl, hb⟩
    refine ⟨⟨_, _, true, .inr ⟨k, ⟨hk, (at_byte hk 84).1 hc, ?_⟩, rfl, rfl, rfl⟩, rfl⟩, hb⟩
    intro j _ hj e
    exact hno j (by omega) hj ((at_byte (by omega) 84).2 e)

end Go.Proofs.Qxb6600803a
