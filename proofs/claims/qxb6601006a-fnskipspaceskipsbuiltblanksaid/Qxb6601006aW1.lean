import Derived.Test.Qxb6601006aBf
import Derived.Deep.QuietTactic
import Derived.BigQuiet
import Derived.BigRegion
import Derived.Laws.Strings2
import Derived.Laws.Strings3
import Derived.WalkSmall
import Derived.Deep.LoopGhost
namespace Go.Proofs.Qxb6601006a
open Go.RowKit

set_option maxHeartbeats 1000000 in
theorem noslash_any (L : List UInt8) (B n : Nat) (b : ByteArray) (w : World) (hb : n ≤ 1048576) (hn : L.length + b.size ≤ n) (hB : Buf L w B n) :
    Calls Try.prog 13 #[.slice (some ⟨B, 0, none⟩) L.length n, .string b] w fun e w' => (∃ x : List UInt8, (∀ c ∈ x, c ≠ 47) ∧ x.length ≤ b.size ∧ e = .returned (.slice (some ⟨B, 0, none⟩) (L.length + x.length) n) ∧ Buf (L ++ x) w' B n) ∧ Below B w w' := by
  go_enter Try.func13, Try.ntmps13
  go_wp2
  go_loopg [0, 5] b.size (fun g v j wx => ∃ (k : Nat) (x : List UInt8), k ≤ b.size ∧ b.size = k + g ∧ j = .int .i64 k ∧ v = .slice (some ⟨B, 0, none⟩) (L.length + x.length) n ∧ (∀ c ∈ x, c ≠ 47) ∧ x.length ≤ k ∧ Buf (L ++ x) wx B n ∧ Below B w wx)
  case atStart => exact ⟨0, [], by omega, by omega, rfl, by simp, by simp, by simp, by simpa using hB, Below.refl _ _⟩
  case round =>
    obtain ⟨k, x, hk, hg, rfl, rfl, hx, hxl, hbuf, hbel⟩ := hrel
    have HX : Hid (∀ c ∈ x, c ≠ 47) := hx
    clear hx hB
    by_cases hlt : k < b.size
    · have hlx : (L ++ x).length = L.length + x.length := by simp
      go_wp2_with (at_builtin; refine wpList_buf _ rfl (.tmp 16) (.tmp 20) rfl [b[k]'hlt] (hbuf.alloc _) rfl rfl hlx.symm rfl (by simp; omega) (cells_new _ _ _ _ rfl) ?_; intro w2 hbuf2 hbel2)
      · have h47 : b[k]'hlt ≠ 47 := fun e => by have h := ‹(((b[k]'hlt).toNat : Int) != 47) = true›; rw [e] at h; simp at h
        go_roundg (b.size - (k + 1))
        case measure => omega
        case rel =>
          refine ⟨k + 1, x ++ [b[k]'hlt], by omega, by omega, by go_num, by simp; omega, ?_, by simp; omega, by rw [← List.append_assoc]; exact hbuf2, ?_⟩
          · intro c hc
            rcases List.mem_append.1 hc with hc | hc
            · exact HX.out c hc
            · rw [List.mem_singleton.1 hc]; exact h47
          · exact (hbel.alloc (Nat.le_trans (Nat.le_of_lt hbuf.lt) (Nat.le_refl _)) _).trans hbel2
      · go_roundg (b.size - (k + 1))
        case measure => omega
        case rel => exact ⟨k + 1, x, by omega, by omega, by go_num, rfl, HX.out, by omega, hbuf, hbel⟩
    · go_wp2
      go_ret
      exact ⟨⟨x, HX.out, by omega, rfl, hbuf⟩, hbel⟩

set_option maxHeartbeats 1000000 in
theorem before_any (L : List UInt8) (B n : Nat) (b : ByteArray) (w : World) (hb : n ≤ 1048576) (hn : L.length + b.size ≤ n) (hB : Buf L w B n) :
    Calls Try.prog 14 #[.slice (some ⟨B, 0, none⟩) L.length n, .string b] w fun e w' => (∃ x : List UInt8, (∀ c ∈ x, c ≠ 47) ∧ (∀ y c, x = y ++ [c] → c ≠ 42) ∧ x.length ≤ b.size ∧ e = .returned (.slice (some ⟨B, 0, none⟩) (L.length + x.length) n) ∧ Buf (L ++ x) w' B n) ∧ Below B w w' := by
  go_enter Try.func14, Try.ntmps14
  go_wp2_with fail
  refine (noslash_any L B n b w hb hn hB).mono ?_
  rintro e w1 ⟨⟨x, hx, hxl, rfl, hbuf⟩, hbel⟩
  have HX : Hid (∀ c ∈ x, c ≠ 47) := hx
  clear hx hB
  go_wp2
  go_loopg [0] x.length (fun g v wx => ∃ (y : List UInt8), y.length = g ∧ y.length ≤ x.length ∧ v = .slice (some ⟨B, 0, none⟩) (L.length + y.length) n ∧ (∀ c ∈ y, c ≠ 47) ∧ Buf (L ++ y) wx B n ∧ w1 = wx)
  case atStart => exact ⟨x, rfl, Nat.le_refl _, rfl, HX.out, hbuf, rfl⟩
  case round =>
    obtain ⟨y, hy, hyl, rfl, hyx, hbuf, rfl⟩ := hrel
    rcases List.eq_nil_or_concat y with rfl | ⟨z, c, rfl⟩
    · have HY := hyx
      clear hyx
      simp only [List.length_nil, Nat.add_zero] at *
      go_wp2
      go_ret
      exact ⟨⟨[], by simp, by simp, by simp, by simp, hbuf⟩, hbel⟩
    · rw [List.concat_eq_append] at *
      rw [← List.append_assoc] at hbuf
      have hcell := hbuf.last
      have hbt : Hid (Buf (L ++ z) w1 B n) := hbuf.take
      have HY : Hid (∀ d ∈ z ++ [c], d ≠ 47) := hyx
      clear hyx
      simp only [List.length_append, List.length_cons, List.length_nil, Nat.zero_add] at hcell hy hyl ⊢
      subst hy
      by_cases hc : c = 42
      · subst hc
        go_wp2
        go_roundg z.length
        case measure => omega
        case rel => exact ⟨z, rfl, by omega, by rw [show L.length + (z.length + 1) - 1 = L.length + z.length from by omega], fun d hd => HY.out d (by simp [hd]), hbt.out, rfl⟩
      · have hcn : (((c.toNat : Int)) == 42) = false := by
          rw [beq_eq_false_iff_ne]
          intro e
          exact hc (UInt8.toNat_inj.1 (by simpa using (show c.toNat = 42 from by omega)))
        go_wp2
        go_ret
        refine ⟨⟨z ++ [c], HY.out, fun y d e => ?_, by simp; omega, by simp, by rw [← List.append_assoc]; exact hbuf⟩, hbel⟩
        have := (List.append_inj' e rfl).2
        simp at this
        rw [← this]; exact hc

theorem notSp {c : UInt8} (h : ¬ isSp c) : (((c.toNat : Int) == 32) = false ∧ ((c.toNat : Int) == 9) = false ∧ ((c.toNat : Int) == 10) = false) ∧ (((c.toNat : Int) == 13) = false ∧ ((c.toNat : Int) == 12) = false ∧ ((c.toNat : Int) == 11) = false) := by
  unfold isSp at h
  simp only [← UInt8.toNat_inj] at h
  simp at h ⊢
  omega

theorem isSpace_yes (c : UInt8) (h : isSp c) (w : World) : Calls Try.prog 20 #[.int .u8 c.toNat] w fun e w' => e = .returned (.bool true) ∧ w' = w := by
  rcases h with rfl | rfl | rfl | rfl | rfl | rfl
  all_goals
    go_enter Try.func20, Try.ntmps20
    go_wp2
    go_ret
    exact ⟨rfl, rfl⟩

theorem isSpace_no (c : UInt8) (h : ¬ isSp c) (w : World) : Calls Try.prog 20 #[.int .u8 c.toNat] w fun e w' => e = .returned (.bool false) ∧ w' = w := by
  obtain ⟨⟨h1, h2, h3⟩, h4, h5, h6⟩ := notSp h
  go_enter Try.func20, Try.ntmps20
  go_wp2
  go_ret
  exact ⟨rfl, rfl⟩

theorem b1Space_yes (c : UInt8) (h : isSp c) (w : World) : Calls Try.prog 11 #[.int .u8 c.toNat] w fun e w' => e = .returned (.bool true) ∧ w' = w := by
  rcases h with rfl | rfl | rfl | rfl | rfl | rfl
  all_goals
    go_enter Try.func11, Try.ntmps11
    go_wp2
    go_ret
    exact ⟨rfl, rfl⟩

theorem b1Space_no (c : UInt8) (h : ¬ isSp c) (w : World) : Calls Try.prog 11 #[.int .u8 c.toNat] w fun e w' => e = .returned (.bool false) ∧ w' = w := by
  obtain ⟨⟨h1, h2, h3⟩, h4, h5, h6⟩ := notSp h
  go_enter Try.func11, Try.ntmps11
  go_wp2
  go_ret
  exact ⟨rfl, rfl⟩

theorem spaceOf_any (c : UInt8) (w : World) : Calls Try.prog 12 #[.int .u8 c.toNat] w fun e w' => (∃ b : UInt8, isSp b ∧ e = .returned (.int .u8 b.toNat)) ∧ w' = w := by
  go_enter Try.func12, Try.ntmps12
  go_wp2
  all_goals go_ret
  · exact ⟨⟨32, by simp [isSp], rfl⟩, rfl⟩
  · exact ⟨⟨9, by simp [isSp], rfl⟩, rfl⟩
  · exact ⟨⟨10, by simp [isSp], rfl⟩, rfl⟩
  · exact ⟨⟨13, by simp [isSp], rfl⟩, rfl⟩
  · exact ⟨⟨12, by simp [isSp], rfl⟩, rfl⟩
  · exact ⟨⟨11, by simp [isSp], rfl⟩, rfl⟩
end Go.Proofs.Qxb6601006a
