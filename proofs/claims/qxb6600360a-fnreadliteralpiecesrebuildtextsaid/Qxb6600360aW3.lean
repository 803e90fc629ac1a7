import Derived.Test.Qxb6600360aW2
namespace Go.Proofs.Qxb6600360a
open Go.RowKit

theorem Try.info5 : (Try.prog.info? 5).map (fun i => (i.zero, i.size, i.bytes)) = some (some (.int .u8 0), 1, 1) := by kernel_rfl

theorem ret_bool {a b : Bool} (h : a = b) : Ending.returned (.bool a) = .returned (.bool b) := by rw [h]

theorem cnt_hit {s : ByteArray} {k : Nat} (h : k < s.size) (h1 : 1 ≤ k) (h2 : (((s[k]'h).toNat : Int) == 92) = true ∨ (((s[k]'h).toNat : Int) == 38) = true) : cnt s (k + 1) = cnt s k + 1 := by
  rw [cnt, if_pos ⟨h1, by rw [spB_eq s k h]; simpa using h2⟩]
theorem cnt_miss {s : ByteArray} {k : Nat} (h : k < s.size) (h2 : (((s[k]'h).toNat : Int) == 92) = false ∧ (((s[k]'h).toNat : Int) == 38) = false) : cnt s (k + 1) = cnt s k := by
  rw [cnt, if_neg (fun c => by have := c.2; rw [spB_eq s k h, h2.1, h2.2] at this; simp at this)]
  rfl

theorem app_run {s : ByteArray} {w : World} {B i n : Nat} (hB : Buf s w B s.size i) (hin : i ≤ n) (hn : n ≤ s.size) (ty : TypeId) :
    (Builtin.append_ #[26, 9] ty #[.slice (some ⟨B, 0, none⟩) i s.size, .string (s.extract i n)]).run Try.prog w = .ok (.slice (some ⟨B, 0, none⟩) n s.size) (w.setCells B i (byteCells (s.extract i n))) := by
  obtain ⟨i0, hi0, hz0, hz1, hz2⟩ := info_parts Try.info5
  have hl : (byteCells (s.extract i n)).length = n - i := by rw [byteCells_length, size_ext s i n hn]
  have hsrc : Src Try.prog i0.size 9 (.string (s.extract i n)) (s.extract i n).size (byteCells (s.extract i n)) w := by rw [hz1]; exact Src.ofString w Try.underlying9 _
  have := run_append_room_src (P := Try.prog) w 26 9 ty 5 i0 Try.underlying26 hi0 B 0 i s.size (.string (s.extract i n)) (s.extract i n).size (byteCells (s.extract i n)) hsrc
    (by rw [size_ext s i n hn]; omega) (fun j hj => by rw [hz1]; exact hB.room _ (by omega)) (fun j hj => by rw [hz1]; exact hB.free _ (by omega))
  rw [this, hz1, size_ext s i n hn, show i + (n - i) = n from by omega, show 0 + i * 1 = i from by omega]

/-- 'append' in the walk, off an equation on its run. -/
theorem wpList_append_run {P : Program} (w : World) {ops : Array Oper} {rest : List Oper} {o : Oper} {a : Act} {Q : Exit → Act → World → Prop}
    (hg : o.guard = none) (x y : Operand) (t tx : TypeId) (hop : o.op = Op.call { callee := Callee.builtin Builtin.append, args := #[x, y], argTypes := #[t, tx] })
    {vx vy v : Value} {w' : World} (hrun : ∀ ty, (Builtin.append_ #[t, tx] ty #[vx, vy]).run P w = .ok v w') (hx : a.eval x = vx) (hy : a.eval y = vy)
    (hK : wpList P ops Q rest (a.put o.dst v) w') : wpList P ops Q (o :: rest) a w := by
  refine wpList_plain hg fun K hK' => ?_
  have hr := hrun o.type
  unfold Oper.wp
  simp [execOp, hop, resolve, invoke, builtin, hx, hy, hr, Result.andThen]
  exact hK' _ _ hK

set_option maxHeartbeats 1000000 in
theorem law_in (hidx : IdxC) (s : ByteArray) (w : World) (h : s.size ≤ 1048576) :
    Calls Try.prog 4 #[.string s] w fun e w' => e = .returned (.bool true) ∧ Below w.heap.size w w' := by
  obtain ⟨i0, hi0, hz0, hz1, hz2⟩ := info_parts Try.info5
  have hmk := fun wx : World => run_make (P := Try.prog) wx 26 5 i0 (.int .u8 0) Try.underlying26 hi0 hz0 .i64 .i64 0 s.size (by omega) (by omega) (by rw [hz2]; omega) (by omega)
  simp only [hz1, Nat.mul_one, Int.toNat_zero, Int.toNat_natCast] at hmk
  go_enter Try.func4, Try.ntmps4
  go_wp2_with (go_at_call 10; refine (zzBytes_any _ _ h).mono ?_; rintro e w' ⟨rfl, hw⟩; rw [hw]; clear hw)
  go_loopg [3, 4] s.size (fun g c j wx => ∃ k : Nat, 1 ≤ k ∧ (k = 1 ∨ k ≤ s.size) ∧ s.size ≤ k + g ∧ c = .int .i64 (cnt s k) ∧ j = .int .i64 k ∧ w = wx)
  case atStart => exact ⟨1, by omega, by omega, by omega, rfl, rfl, rfl⟩
  case round =>
    obtain ⟨k, hk1, hk2, hk3, rfl, rfl, rfl⟩ := hrel
    have hcl := cnt_le s k
    by_cases hlt : k < s.size
    · go_wp2
      · have hc := cnt_hit hlt hk1 (.inl (beq_iff_eq.2 ‹_›))
        go_roundg (s.size - (k + 1))
        case measure => omega
        case rel => exact ⟨k + 1, by omega, by omega, by omega, by rw [hc]; go_num, by go_num, rfl⟩
      · have hc := cnt_hit hlt hk1 ‹_›
        go_roundg (s.size - (k + 1))
        case measure => omega
        case rel => exact ⟨k + 1, by omega, by omega, by omega, by rw [hc]; go_num, by go_num, rfl⟩
      · have hc := cnt_miss hlt ‹_›
        go_roundg (s.size - (k + 1))
        case measure => omega
        case rel => exact ⟨k + 1, by omega, by omega, by omega, by rw [hc], by go_num, rfl⟩
    · have HF : Hid (cnt s k = if 0 < s.size then cnt s s.size else 0) := by
        show cnt s k = _
        split
        · rw [show k = s.size from by omega]
        · rw [show k = 1 from by omega]; simp [cnt]
      go_wp2
      go_loopg [5, 6, 7] s.size (fun g b p j wx => ∃ i m : Nat, Pcs s i m ∧ s.size ≤ i + g ∧ b = .slice (some ⟨w.heap.size, 0, none⟩) i s.size ∧ p = .int .i64 m ∧ j = .int .i64 i ∧ Buf s wx w.heap.size s.size i ∧ Below w.heap.size w wx ∧ w.heap.size < wx.heap.size)
      case atStart => exact ⟨0, 0, .inl ⟨rfl, rfl⟩, by omega, rfl, rfl, rfl, Buf.start _ _ _ _, (Below.refl _ _).alloc (Nat.le_refl _) _, by simp⟩
      case round =>
        obtain ⟨i, m, hP, hg, rfl, rfl, rfl, hB, hbel, hsz⟩ := hrel
        have hle := hP.le
        have HP : Hid (Pcs s i m) := hP
        have HB : Hid (Buf s wr w.heap.size s.size i) := hB
        clear hP hB
        by_cases hil : i < s.size
        · go_wp2_with fail
          refine (ZZreadLiteral_any hidx _ _ _ h hil).mono ?_
          rintro e w' ⟨n, hE, rfl, hb⟩
          have hE1 := hE.1
          have hE2 := hE.2.1
          have HE : Hid (Ends s i n) := hE
          have hap : Hid (∀ ty, (Builtin.append_ #[26, 9] ty #[.slice (some ⟨w.heap.size, 0, none⟩) i s.size, .string (s.extract i n)]).run Try.prog w' = .ok (.slice (some ⟨w.heap.size, 0, none⟩) n s.size) (w'.setCells w.heap.size i (byteCells (s.extract i n)))) := app_run (HB.out.below hb hsz) (Nat.le_of_lt hE1) hE2
          have q1 : ¬ ((n : Int) ≤ (i : Int)) := by omega
          have q2 : ¬ ((s.size : Int) < (n : Int)) := by omega
          clear hE
          have HR : Hid (Buf s (w'.setCells w.heap.size i (byteCells (s.extract i n))) w.heap.size s.size n ∧ Below w.heap.size w (w'.setCells w.heap.size i (byteCells (s.extract i n))) ∧ w.heap.size < (w'.setCells w.heap.size i (byteCells (s.extract i n))).heap.size) :=
            ⟨(HB.out.below hb hsz).append (Nat.le_of_lt hE1) hE2, below_setCells (hbel.trans (hb.mono (Nat.le_of_lt hsz))) (Nat.le_refl _) _ _, Nat.lt_of_lt_of_le hsz (below_setCells (hb.mono (Nat.le_of_lt hsz)) (Nat.le_refl _) _ _).size⟩
          by_cases hi0' : i = 0
          · subst hi0'
            go_wp2_with (at_builtin; refine wpList_append_run _ rfl (.tmp 77) (.tmp 78) 26 9 rfl hap.out rfl rfl ?_; generalize w'.setCells w.heap.size 0 (byteCells (s.extract 0 n)) = w2 at HR)
            go_roundg (s.size - n)
            case measure => omega
            case rel => exact ⟨n, m + 1, HP.out.step hil HE.out, by omega, rfl, by go_num, rfl, HR.out⟩
          · rcases HP.out.sp hil (by omega) with hc | hc
            all_goals
              go_wp2_with (at_builtin; refine wpList_append_run _ rfl (.tmp 77) (.tmp 78) 26 9 rfl hap.out rfl rfl ?_; generalize w'.setCells w.heap.size i (byteCells (s.extract i n)) = w2 at HR)
              go_roundg (s.size - n)
              case measure => omega
              case rel => exact ⟨n, m + 1, HP.out.step hil HE.out, by omega, rfl, by go_num, rfl, HR.out⟩
        · obtain rfl : i = s.size := by omega
          have hcv := conv_all s w.heap.size HB.out
          have hd := HP.out.done
          have hf := HF.out
          have HD : Hid (m = if 0 < s.size then 1 + cnt s s.size else 0) := hd
          have HF2 : Hid (cnt s k = if 0 < s.size then cnt s s.size else 0) := hf
          clear hd hf
          by_cases h0 : 0 < s.size
          · go_wp2
            go_ret
            have hd := HD.out
            have hf := HF2.out
            rw [if_pos h0] at hd hf
            exact ⟨ret_bool (beq_iff_eq.2 (by omega)), hbel⟩
          · go_wp2
            go_ret
            have hd := HD.out
            rw [if_neg h0] at hd
            exact ⟨ret_bool (beq_iff_eq.2 (by omega)), hbel⟩
set_option maxHeartbeats 400000 in
theorem law_out (s : ByteArray) (w : World) (hs : s.size ≤ maxLen) (h : 1048576 < s.size) :
    Calls Try.prog 4 #[.string s] w fun e w' => e = .returned (.bool true) ∧ Below w.heap.size w w' := by
  go_enter Try.func4, Try.ntmps4
  go_wp2_with (go_at_call 10; refine (zzBytes_no _ _ hs h).mono ?_; rintro e w' ⟨rfl, hw⟩; rw [hw]; clear hw)
  go_ret
  exact ⟨rfl, Below.refl _ _⟩

theorem law_any (hidx : IdxC) (s : ByteArray) (w : World) (hs : s.size ≤ maxLen) :
    Calls Try.prog 4 #[.string s] w fun e w' => e = .returned (.bool true) ∧ Below w.heap.size w w' := by
  by_cases h : s.size ≤ 1048576
  · exact law_in hidx s w h
  · exact law_out s w hs (by omega)
end Go.Proofs.Qxb6600360a
