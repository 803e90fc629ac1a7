import Derived.Test.Qxb6600803aW4
namespace Go.Proofs.Qxb6600803a
open Go.RowKit

/-- The exported twin's cells. -/
abbrev zc (kd pr y mo d h m ns : Int) (z : Bool) (off : Int) : Array Value :=
  #[.int .i64 kd, .int .i64 pr, .int .i64 y, .int .i64 mo, .int .i64 d, .int .i64 h, .int .i64 m, .int .i64 ns, .bool z, .int .i64 off]

set_option maxRecDepth 100000 in
set_option maxHeartbeats 2000000 in
theorem zzT_any (kd pr y mo d h m ns : Int) (z : Bool) (off : Int) (w : World) (h0 : 0 ≤ kd) (h1 : kd ≤ 255) :
    Calls Try.prog 19 #[.agg (tc kd pr y mo d h m ns z off)] w fun e w' => e = .returned (.agg (zc kd pr y mo d h m ns z off)) ∧ Below w.heap.size w w' := by
  go_enter Try.func19, Try.ntmps19
  go_wp2
  refine bodyPost_ret (v := .agg (zc kd pr y mo d h m ns z off)) (by simp [results, Try.results19, go_sem]) rfl ?_
  refine ⟨rfl, ?_⟩
  exact ((Below.refl _ _).alloc (Nat.le_refl _) _).alloc (by simp) _

theorem tenz {w : World} {b : Nat} {kd pr y mo d h m ns : Int} {z : Bool} {off : Int} (hb : w.heap[b]? = some (.cells (zc kd pr y mo d h m ns z off) 24)) :
    w.cell? ⟨b, 0, none⟩ = some (.int .i64 kd) ∧ w.cell? ⟨b, 1, none⟩ = some (.int .i64 pr) ∧ w.cell? ⟨b, 2, none⟩ = some (.int .i64 y) ∧ w.cell? ⟨b, 3, none⟩ = some (.int .i64 mo) ∧ w.cell? ⟨b, 4, none⟩ = some (.int .i64 d) ∧
    w.cell? ⟨b, 5, none⟩ = some (.int .i64 h) ∧ w.cell? ⟨b, 6, none⟩ = some (.int .i64 m) ∧ w.cell? ⟨b, 7, none⟩ = some (.int .i64 ns) ∧ w.cell? ⟨b, 8, none⟩ = some (.bool z) ∧ w.cell? ⟨b, 9, none⟩ = some (.int .i64 off) := by
  unfold World.cell?
  simp only [hb]
  exact ⟨rfl, rfl, rfl, rfl, rfl, rfl, rfl, rfl, rfl, rfl⟩

theorem one_new (w : World) (o : Obj) : (w.alloc o).heap[w.heap.size]? = some o := Array.getElem?_push_size

set_option maxRecDepth 100000 in
set_option maxHeartbeats 4000000 in
theorem ZZpT_any (s : ByteArray) (w : World) (hs : s.size ≤ 1048576) :
    Calls Try.prog 9 #[.string s] w fun e w' => ((∃ p h m ns : Nat, TimeOk s p h m ns ∧ e = .returned (.tuple #[.agg (zc 7 p 0 0 0 h m ns false 0), .bool true])) ∨ (NoTime s ∧ ∃ pr h m ns : Int, e = .returned (.tuple #[.agg (zc 7 pr 0 0 0 h m ns false 0), .bool false]))) ∧ Below w.heap.size w w' := by
  go_enter Try.func9, Try.ntmps9
  go_wp2_with fail
  refine (parseTime_any s _ hs).mono ?_
  rintro e w1 ⟨hr, hb1⟩
  have hz : w.heap.size < w1.heap.size := by have := hb1.size; simp at this; omega
  have hB : w1.heap[w.heap.size]? = some (.cells (zc 0 0 0 0 0 0 0 0 false 0) 24) := (hb1.block _ (by simp)).trans (one_new _ _)
  have hbel : Below w.heap.size w w1 := ((Below.refl _ _).alloc (Nat.le_refl _) _).trans (hb1.mono (by simp))
  clear hb1
  obtain ⟨pr, h, m, ns, ok, rfl, hfin⟩ : ∃ (pr h m ns : Int) (ok : Bool), e = .returned (.tuple #[.agg (tc 7 pr 0 0 0 h m ns false 0), .bool ok]) ∧ ((∃ p' h' m' ns' : Nat, TimeOk s p' h' m' ns' ∧ Ending.returned (.tuple #[.agg (zc 7 pr 0 0 0 h m ns false 0), .bool ok]) = .returned (.tuple #[.agg (zc 7 p' 0 0 0 h' m' ns' false 0), .bool true])) ∨ (NoTime s ∧ ∃ pr' h' m' ns' : Int, Ending.returned (.tuple #[.agg (zc 7 pr 0 0 0 h m ns false 0), .bool ok]) = .returned (.tuple #[.agg (zc 7 pr' 0 0 0 h' m' ns' false 0), .bool false]))) := by
    rcases hr with ⟨p', h', m', ns', hok, rfl⟩ | ⟨hno, pr, h, m, ns, rfl⟩
    · exact ⟨_, _, _, _, _, rfl, .inl ⟨_, _, _, _, hok, rfl⟩⟩
    · exact ⟨_, _, _, _, _, rfl, .inr ⟨hno, _, _, _, _, rfl⟩⟩
  have HF : Hid _ := hfin
  clear hr hfin
  have HB : Hid (w1.heap[w.heap.size]? = some (.cells (zc 0 0 0 0 0 0 0 0 false 0) 24) ∧ Below w.heap.size w w1) := ⟨hB, hbel⟩
  clear hB hbel
  go_wp2_with fail
  refine (zzT_any 7 pr 0 0 0 h m ns false 0 _ (by omega) (by omega)).mono ?_
  rintro e w2 ⟨rfl, hb2⟩
  obtain ⟨hB, hbel⟩ := HB.out
  have hB2 : w2.heap[w.heap.size]? = some (.cells (zc 0 0 0 0 0 0 0 0 false 0) 24) := (hb2.block _ (by simp; omega)).trans ((Below.heap_alloc _ _ _ hz).trans hB)
  have hbel2 : Below w.heap.size w w2 := (hbel.alloc (by omega) _).trans (hb2.mono (by simp; omega))
  obtain ⟨d0, d1, d2, d3, d4, d5, d6, d7, d8, d9⟩ := tenz hB2
  have hf := fun i => thaw (i := i) hB2
  clear hb2 hB hB2 hbel HB
  go_wp2
  refine bodyPost_ret (v := .tuple #[.agg (zc 7 pr 0 0 0 h m ns false 0), .bool ok]) (by simp [results, Try.results9, go_sem, d0, d1, d2, d3, d4, d5, d6, d7, d8, d9]) rfl ?_
  exact ⟨HF.out, below_put10 hbel2 (Nat.le_refl _) _ _ _ _ _ _ _ _ _ _⟩

set_option maxRecDepth 100000 in
set_option maxHeartbeats 4000000 in
theorem time_in (s : ByteArray) (w : World) (hs : s.size ≤ 65536) :
    Calls Try.prog 3 #[.string s] w fun e w' => e = .returned (.bool true) ∧ Below w.heap.size w w' := by
  go_enter Try.func3, Try.ntmps3
  go_wp2_with (go_at_call 8; refine (zz8_any _ _ (by omega)).mono ?_; rintro e w' ⟨rfl, hw⟩; rw [hw]; clear hw)
  refine (ZZpT_any s _ (by omega)).mono ?_
  rintro e w1 ⟨⟨p, h, m, ns, hok, rfl⟩ | ⟨hno, pr, h, m, ns, rfl⟩, hb1⟩
  · have HK : Hid (TimeOk s p h m ns) := hok
    clear hok
    go_wp2_with fail
    refine (model_any s _ (by omega)).mono ?_
    rintro e w2 ⟨⟨p', h', m', ns', hok', rfl⟩ | ⟨hno', rfl⟩, hb2⟩
    · obtain ⟨rfl, rfl, rfl, rfl⟩ := HK.out.uniq hok'
      clear hok'
      have hz : w1.heap.size < w2.heap.size := by have := hb2.size; simp at this; omega
      have hB : w2.heap[w1.heap.size]? = some (.cells (zc 7 p 0 0 0 h m ns false 0) 24) := (hb2.block _ (by simp)).trans (one_new _ _)
      have hbel : Below w.heap.size w w2 := (hb1.alloc hb1.size _).trans (hb2.mono (by have := hb1.size; simp; omega))
      obtain ⟨d0, d1, d2, d3, d4, d5, d6, d7, d8, d9⟩ := tenz hB
      clear hb1 hb2 hB
      go_wp2
      go_ret
      exact ⟨rfl, hbel.alloc (Nat.le_trans hbel.size (Nat.le_refl _)) _⟩
    · exact absurd HK.out (hno' _ _ _ _)
  · have HK : Hid (NoTime s) := hno
    clear hno
    go_wp2_with fail
    refine (model_any s _ (by omega)).mono ?_
    rintro e w2 ⟨⟨p', h', m', ns', hok', rfl⟩ | ⟨hno', rfl⟩, hb2⟩
    · exact absurd hok' (HK.out _ _ _ _)
    · clear hno'
      have hbel : Below w.heap.size w w2 := (hb1.alloc hb1.size _).trans (hb2.mono (by have := hb1.size; simp; omega))
      clear hb1 hb2
      go_wp2
      go_ret
      exact ⟨rfl, hbel⟩

set_option maxHeartbeats 400000 in
theorem time_mid (s : ByteArray) (w : World) (hs : s.size ≤ 1048576) (h : 65536 < s.size) :
    Calls Try.prog 3 #[.string s] w fun e w' => e = .returned (.bool true) ∧ Below w.heap.size w w' := by
  go_enter Try.func3, Try.ntmps3
  go_wp2_with (go_at_call 8; refine (zz8_any _ _ (by omega)).mono ?_; rintro e w' ⟨rfl, hw⟩; rw [hw]; clear hw)
  go_ret
  exact ⟨rfl, Below.refl _ _⟩

set_option maxHeartbeats 400000 in
theorem time_out (s : ByteArray) (w : World) (hs : s.size ≤ maxLen) (h : 1048576 < s.size) :
    Calls Try.prog 3 #[.string s] w fun e w' => e = .returned (.bool true) ∧ Below w.heap.size w w' := by
  go_enter Try.func3, Try.ntmps3
  go_wp2_with (go_at_call 8; refine (zz8_no _ _ hs h).mono ?_; rintro e w' ⟨rfl, hw⟩; rw [hw]; clear hw)
  go_ret
  exact ⟨rfl, Below.refl _ _⟩

theorem time_any (s : ByteArray) (w : World) (hs : s.size ≤ maxLen) :
    Calls Try.prog 3 #[.string s] w fun e w' => e = .returned (.bool true) ∧ Below w.heap.size w w' := by
  by_cases h : s.size ≤ 65536
  · exact time_in s w h
  · by_cases h2 : s.size ≤ 1048576
    · exact time_mid s w h2 (by omega)
    · exact time_out s w hs (by omega)

end Go.Proofs.Qxb6600803a
