import Derived.Test.Qxb6601006aW2
import Derived.Test.Qxb6601006aBs
namespace Go.Proofs.Qxb6601006a
open Go.RowKit

/-- A slice whose elements (one cell each) are vs, in blocks below K. -/
structure Row (vs : List Value) (w : World) (ao : Option Addr) (K : Nat) : Prop where
  nil : ao = none → vs = []
  cells : ∀ j u, vs[j]? = some u → ∃ a, ao = some a ∧ a.block < K ∧ w.cell? (a.add j) = some u

theorem add_block (a : Addr) (j : Nat) : (a.add j).block = a.block := by unfold Addr.add; split <;> rfl

theorem Row.below {vs : List Value} {w w' : World} {ao : Option Addr} {K : Nat} (h : Row vs w ao K) (hb : Below K w w') : Row vs w' ao K :=
  ⟨h.nil, fun j u hu => by
    obtain ⟨a, h1, h2, h3⟩ := h.cells j u hu
    exact ⟨a, h1, h2, by rw [hb.cell (p := a.add j) (by rw [add_block]; exact h2)]; exact h3⟩⟩

theorem Row.mono {vs : List Value} {w : World} {ao : Option Addr} {K K' : Nat} (h : Row vs w ao K) (hK : K ≤ K') : Row vs w ao K' :=
  ⟨h.nil, fun j u hu => by
    obtain ⟨a, h1, h2, h3⟩ := h.cells j u hu
    exact ⟨a, h1, Nat.lt_of_lt_of_le h2 hK, h3⟩⟩

/-- Strings as cells. -/
def scells (ss : List ByteArray) : List Value := ss.map fun s => .string s

theorem Row.str {ss : List ByteArray} {w : World} {ao : Option Addr} {K j : Nat} (h : Row (scells ss) w ao K) (hj : j < ss.length) : ∃ a, ao = some a ∧ a.block < K ∧ w.cell? (a.add j) = some (.string ss[j]) :=
  h.cells j _ (by simp [scells, hj])

theorem Row.byte {ks : List UInt8} {w : World} {ao : Option Addr} {K j : Nat} (h : Row (bcells ks) w ao K) (hj : j < ks.length) : ∃ a, ao = some a ∧ a.block < K ∧ w.cell? (a.add j) = some (.int .u8 (ks[j].toNat : Int)) :=
  h.cells j _ (by simp [bcells, hj])

set_option maxHeartbeats 2000000 in
theorem zz10_any (ss : List ByteArray) (ks : List UInt8) (t : ByteArray) (ao ko : Option Addr) (c kc K : Nat) (w : World) (hA : Row (scells ss) w ao K)
    (hss : ss.length ≤ maxLen) (hws : ∀ s ∈ ss, s.size ≤ maxLen) (hks : ks.length ≤ maxLen) (ht : t.size ≤ maxLen) :
    Calls Try.prog 10 #[.slice ao ss.length c, .slice ko ks.length kc, .string t] w fun e w' => (∃ b : Bool, e = .returned (.bool b)) ∧ w' = w := by
  have HA : Hid _ := hA
  have HW : Hid _ := hws
  have hs1 : ((ss.length : Int)) ≤ 9223372036854775807 := by unfold maxLen at hss; omega
  have hk1 : ((ks.length : Int)) ≤ 9223372036854775807 := by unfold maxLen at hks; omega
  have ht1 : ((t.size : Int)) ≤ 9223372036854775807 := by unfold maxLen at ht; omega
  clear hA hws hss hks ht
  go_enter Try.func10, Try.ntmps10
  go_wp2
  · go_ret
    exact ⟨⟨_, rfl⟩, rfl⟩
  go_loopg [7, 8] ss.length (fun g z iv wx => ∃ zn i : Nat, z = .int .i64 zn ∧ iv = .int .i64 i ∧ zn ≤ 1048576 ∧ i ≤ ss.length ∧ ss.length ≤ i + g ∧ w = wx)
  case atStart => exact ⟨ss.length, 0, rfl, rfl, by omega, by omega, by omega, rfl⟩
  case round =>
    obtain ⟨zn, i, rfl, rfl, hz, hi, hg, rfl⟩ := hrel
    by_cases hlt : i < ss.length
    · obtain ⟨a, rfl, _, hcell⟩ := HA.out.str hlt
      have hsz : ((ss[i].size : Int)) ≤ 9223372036854775807 := by have := HW.out ss[i] (List.getElem_mem hlt); unfold maxLen at this; omega
      generalize ss[i] = s at hcell hsz
      go_wp2
      · go_ret
        exact ⟨⟨_, rfl⟩, rfl⟩
      · go_ret
        exact ⟨⟨_, rfl⟩, rfl⟩
      · go_roundg (ss.length - (i + 1))
        case measure => omega
        case rel => exact ⟨zn + s.size, i + 1, by go_num, by go_num, by omega, by omega, by omega, rfl⟩
    · go_wp2
      all_goals
        go_ret
        exact ⟨⟨_, rfl⟩, rfl⟩
end Go.Proofs.Qxb6601006a
