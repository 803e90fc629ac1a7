import Derived.Test.Qxb6600803aW7
import Derived.Test.Qxb6600803aW9
namespace Go.Proofs.Qxb6600803a
open Go.RowKit

set_option maxRecDepth 100000 in
set_option maxHeartbeats 2000000 in
theorem zzT_some (kd pr y mo d h m ns : Int) (z : Bool) (off : Int) (w : World) :
    Calls Try.prog 19 #[.agg (tc kd pr y mo d h m ns z off)] w fun e w' => (∃ kd' : Int, ((0 ≤ kd ∧ kd ≤ 255) → kd' = kd) ∧ e = .returned (.agg (zc kd' pr y mo d h m ns z off))) ∧ Below w.heap.size w w' := by
  by_cases hk : 0 ≤ kd ∧ kd ≤ 255
  · refine (zzT_any kd pr y mo d h m ns z off w hk.1 hk.2).mono ?_
    rintro e w' ⟨rfl, hb⟩
    exact ⟨⟨kd, fun _ => rfl, rfl⟩, hb⟩
  · go_enter Try.func19, Try.ntmps19
    go_wp2
    refine bodyPost_ret (v := .agg (zc (wrap64 kd) pr y mo d h m ns z off)) (by simp [results, Try.results19, go_sem]) rfl ?_
    refine ⟨⟨wrap64 kd, fun h => absurd h hk, rfl⟩, ?_⟩
    exact ((Below.refl _ _).alloc (Nat.le_refl _) _).alloc (by simp) _

set_option maxRecDepth 100000 in
set_option maxHeartbeats 4000000 in
theorem ZZpDT_any (s : ByteArray) (w : World) (hs : s.size ≤ 1048576) :
    Calls Try.prog 13 #[.string s] w fun e w' => MD s e ∧ Below w.heap.size w w' := by
  go_enter Try.func13, Try.ntmps13
  go_wp2_with fail
  refine (parseDT_any s _ hs).mono ?_
  rintro e w1 ⟨hr, hb1⟩
  have hz : w.heap.size < w1.heap.size := by have := hb1.size; simp at this; omega
  have hB : w1.heap[w.heap.size]? = some (.cells (zc 0 0 0 0 0 0 0 0 false 0) 24) := (hb1.block _ (by simp)).trans (one_new _ _)
  have hbel : Below w.heap.size w w1 := ((Below.refl _ _).alloc (Nat.le_refl _) _).trans (hb1.mono (by simp))
  clear hb1
  obtain ⟨kd, pr, y, mo, d, h, m, ns, z, off, ok, rfl, hfin⟩ : ∃ (kd pr y mo d h m ns : Int) (z : Bool) (off : Int) (ok : Bool), e = .returned (.tuple #[.agg (tc kd pr y mo d h m ns z off), .bool ok]) ∧ (∀ kd' : Int, ((0 ≤ kd ∧ kd ≤ 255) → kd' = kd) → MD s (.returned (.tuple #[.agg (zc kd' pr y mo d h m ns z off), .bool ok]))) := by
    rcases hr with ⟨kd, pr, y, mo, d, h, m, ns, z, off, hok, rfl⟩ | ⟨hno, kd, pr, y, mo, d, h, m, ns, z, off, rfl⟩
    · refine ⟨_, _, _, _, _, _, _, _, _, _, _, rfl, fun kd' hk => ?_⟩
      have : kd = 5 ∨ kd = 6 := by rcases hok with h | ⟨t, dp, h⟩ <;> omega
      rw [hk (by omega)]
      exact .inl ⟨_, _, _, _, _, _, _, _, _, _, hok, rfl⟩
    · exact ⟨_, _, _, _, _, _, _, _, _, _, _, rfl, fun kd' _ => .inr ⟨hno, _, _, _, _, _, _, _, _, _, _, rfl⟩⟩
  have HF : Hid _ := hfin
  clear hr hfin
  have HB : Hid (w1.heap[w.heap.size]? = some (.cells (zc 0 0 0 0 0 0 0 0 false 0) 24) ∧ Below w.heap.size w w1) := ⟨hB, hbel⟩
  clear hB hbel
  go_wp2_with fail
  refine (zzT_some kd pr y mo d h m ns z off _).mono ?_
  rintro e w2 ⟨⟨kd', hkd, rfl⟩, hb2⟩
  obtain ⟨hB, hbel⟩ := HB.out
  have hB2 : w2.heap[w.heap.size]? = some (.cells (zc 0 0 0 0 0 0 0 0 false 0) 24) := (hb2.block _ (by simp; omega)).trans ((Below.heap_alloc _ _ _ hz).trans hB)
  have hbel2 : Below w.heap.size w w2 := (hbel.alloc (by omega) _).trans (hb2.mono (by simp; omega))
  have HG : Hid (MD s (.returned (.tuple #[.agg (zc kd' pr y mo d h m ns z off), .bool ok]))) := HF.out kd' hkd
  obtain ⟨d0, d1, d2, d3, d4, d5, d6, d7, d8, d9⟩ := tenz hB2
  have hf := fun i => thaw (i := i) hB2
  clear hb2 hB hB2 hbel HB HF hkd
  go_wp2
  refine bodyPost_ret (v := .tuple #[.agg (zc kd' pr y mo d h m ns z off), .bool ok]) (by simp [results, Try.results13, go_sem, d0, d1, d2, d3, d4, d5, d6, d7, d8, d9]) rfl ?_
  exact ⟨HG.out, below_put10 hbel2 (Nat.le_refl _) _ _ _ _ _ _ _ _ _ _⟩

set_option maxRecDepth 100000 in
set_option maxHeartbeats 4000000 in
theorem dt_in (s : ByteArray) (w : World) (hs : s.size ≤ 65536) :
    Calls Try.prog 5 #[.string s] w fun e w' => e = .returned (.bool true) ∧ Below w.heap.size w w' := by
  go_enter Try.func5, Try.ntmps5
  go_wp2_with (go_at_call 12; refine (zz12_any _ _ (by omega)).mono ?_; rintro e w' ⟨rfl, hw⟩; rw [hw]; clear hw)
  refine (ZZpDT_any s _ (by omega)).mono ?_
  rintro e w1 ⟨⟨kd, pr, y, mo, d, h, m, ns, z, off, hok, rfl⟩ | ⟨hno, kd, pr, y, mo, d, h, m, ns, z, off, rfl⟩, hb1⟩
  · have HK : Hid (DTOk s kd pr y mo d h m ns z off) := hok
    clear hok
    go_wp2_with fail
    refine (modelDT_any s _ (by omega)).mono ?_
    rintro e w2 ⟨⟨kd', pr', y', mo', d', h', m', ns', z', off', hok', rfl⟩ | ⟨hno', kd', pr', y', mo', d', h', m', ns', z', off', rfl⟩, hb2⟩
    · obtain ⟨rfl, rfl, rfl, rfl, rfl, rfl, rfl, rfl, rfl, rfl⟩ := HK.out.uniq hok'
      clear hok'
      have hz : w1.heap.size < w2.heap.size := by have := hb2.size; simp at this; omega
      have hB : w2.heap[w1.heap.size]? = some (.cells (zc kd pr y mo d h m ns z off) 24) := (hb2.block _ (by simp)).trans (one_new _ _)
      have hbel : Below w.heap.size w w2 := (hb1.alloc hb1.size _).trans (hb2.mono (by have := hb1.size; simp; omega))
      obtain ⟨d0, d1, d2, d3, d4, d5, d6, d7, d8, d9⟩ := tenz hB
      clear hb1 hb2 hB
      go_wp2
      go_ret
      exact ⟨rfl, hbel.alloc (Nat.le_trans hbel.size (Nat.le_refl _)) _⟩
    · exact absurd HK.out (hno' _ _ _ _ _ _ _ _ _ _)
  · have HK : Hid (NoDT s) := hno
    clear hno
    go_wp2_with fail
    refine (modelDT_any s _ (by omega)).mono ?_
    rintro e w2 ⟨⟨kd', pr', y', mo', d', h', m', ns', z', off', hok', rfl⟩ | ⟨hno', kd', pr', y', mo', d', h', m', ns', z', off', rfl⟩, hb2⟩
    · exact absurd hok' (HK.out _ _ _ _ _ _ _ _ _ _)
    · clear hno'
      have hbel : Below w.heap.size w w2 := (hb1.alloc hb1.size _).trans (hb2.mono (by have := hb1.size; simp; omega))
      clear hb1 hb2
      go_wp2
      go_ret
      exact ⟨rfl, hbel.alloc (Nat.le_trans hbel.size (Nat.le_refl _)) _⟩

set_option maxHeartbeats 400000 in
theorem dt_mid (s : ByteArray) (w : World) (hs : s.size ≤ 1048576) (h : 65536 < s.size) :
    Calls Try.prog 5 #[.string s] w fun e w' => e = .returned (.bool true) ∧ Below w.heap.size w w' := by
  go_enter Try.func5, Try.ntmps5
  go_wp2_with (go_at_call 12; refine (zz12_any _ _ (by omega)).mono ?_; rintro e w' ⟨rfl, hw⟩; rw [hw]; clear hw)
  go_ret
  exact ⟨rfl, Below.refl _ _⟩

set_option maxHeartbeats 400000 in
theorem dt_out (s : ByteArray) (w : World) (hs : s.size ≤ maxLen) (h : 1048576 < s.size) :
    Calls Try.prog 5 #[.string s] w fun e w' => e = .returned (.bool true) ∧ Below w.heap.size w w' := by
  go_enter Try.func5, Try.ntmps5
  go_wp2_with (go_at_call 12; refine (zz12_no _ _ hs h).mono ?_; rintro e w' ⟨rfl, hw⟩; rw [hw]; clear hw)
  go_ret
  exact ⟨rfl, Below.refl _ _⟩

theorem dt_any (s : ByteArray) (w : World) (hs : s.size ≤ maxLen) :
    Calls Try.prog 5 #[.string s] w fun e w' => e = .returned (.bool true) ∧ Below w.heap.size w w' := by
  by_cases h : s.size ≤ 65536
  · exact dt_in s w h
  · by_cases h2 : s.size ≤ 1048576
    · exact dt_mid s w h2 (by omega)
    · exact dt_out s w hs (by omega)

end Go.Proofs.Qxb6600803a
