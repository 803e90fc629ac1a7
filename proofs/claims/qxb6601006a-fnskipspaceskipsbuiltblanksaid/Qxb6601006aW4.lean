import Derived.Test.Qxb6601006aVb
import Derived.Laws.Cover3
namespace Go.Proofs.Qxb6601006a
open Go.RowKit

/-- The sizes' sum. -/
def szs (ss : List ByteArray) : Nat := (ss.map ByteArray.size).sum

theorem szs_take {ss : List ByteArray} {i : Nat} (h : i < ss.length) : szs (ss.take (i + 1)) = szs (ss.take i) + ss[i].size := by
  unfold szs
  rw [List.take_add_one, List.getElem?_eq_getElem h, List.map_append, List.sum_append]
  simp only [Option.toList, List.map_cons, List.map_nil, List.sum_cons, List.sum_nil, Nat.add_zero]

theorem szs_drop {ss : List ByteArray} {i : Nat} (h : i < ss.length) : szs (ss.drop i) = ss[i].size + szs (ss.drop (i + 1)) := by
  unfold szs
  rw [List.drop_eq_getElem_cons h, List.map_cons, List.sum_cons]

theorem make_strs (wx : World) (n : Nat) (h : (n : Int) ≤ 65536) : (Instr.makeSlice 27 (.int .i64 n) (.int .i64 n)).run Try.prog wx = .ok (.slice (some ⟨wx.heap.size, 0, none⟩) n n) (wx.alloc (.cells (madeCells #[.string ⟨#[]⟩] n) 9)) := by
  obtain ⟨i0, hi0, hz0, hz1, hz2⟩ := info_parts Try.info9
  have hmk := run_make (P := Try.prog) wx 27 9 i0 (.string ⟨#[]⟩) Try.underlying27 hi0 hz0 .i64 .i64 n n (by omega) (by omega) (by rw [hz2]; omega) (by omega)
  simp only [hz1, Nat.mul_one, Int.toNat_natCast] at hmk
  exact hmk

theorem make_bytes (wx : World) (k n : Nat) (hk : k ≤ n) (h : (n : Int) ≤ 1048576) : (Instr.makeSlice 23 (.int .i64 k) (.int .i64 n)).run Try.prog wx = .ok (.slice (some ⟨wx.heap.size, 0, none⟩) k n) (wx.alloc (.cells (madeCells #[.int .u8 0] n) 5)) := by
  obtain ⟨i0, hi0, hz0, hz1, hz2⟩ := info_parts Try.info5
  have hmk := run_make (P := Try.prog) wx 23 5 i0 (.int .u8 0) Try.underlying23 hi0 hz0 .i64 .i64 k n (by omega) (by omega) (by rw [hz2]; omega) (by omega)
  simp only [hz1, Nat.mul_one, Int.toNat_natCast] at hmk
  exact hmk

theorem make_buf (wx : World) (n : Nat) (h : (n : Int) ≤ 1048576) : (Instr.makeSlice 23 (.int .i64 0) (.int .i64 n)).run Try.prog wx = .ok (.slice (some ⟨wx.heap.size, 0, none⟩) 0 n) (wx.alloc (.cells (madeCells #[.int .u8 0] n) 5)) :=
  make_bytes wx 0 n (by omega) h

theorem noslash_k {L : List UInt8} {B n k : Nat} {b : ByteArray} {w : World} (hb : n ≤ 1048576) (hk : k = L.length) (hn : L.length + b.size ≤ n) (hB : Buf L w B n) :
    Calls Try.prog 13 #[.slice (some ⟨B, 0, none⟩) k n, .string b] w fun e w' => (∃ x : List UInt8, (∀ c ∈ x, c ≠ 47) ∧ x.length ≤ b.size ∧ e = .returned (.slice (some ⟨B, 0, none⟩) (k + x.length) n) ∧ Buf (L ++ x) w' B n) ∧ Below B w w' := by
  subst hk
  exact noslash_any L B n b w hb hn hB

theorem before_k {L : List UInt8} {B n k : Nat} {b : ByteArray} {w : World} (hb : n ≤ 1048576) (hk : k = L.length) (hn : L.length + b.size ≤ n) (hB : Buf L w B n) :
    Calls Try.prog 14 #[.slice (some ⟨B, 0, none⟩) k n, .string b] w fun e w' => (∃ x : List UInt8, (∀ c ∈ x, c ≠ 47) ∧ (∀ y c, x = y ++ [c] → c ≠ 42) ∧ x.length ≤ b.size ∧ e = .returned (.slice (some ⟨B, 0, none⟩) (k + x.length) n) ∧ Buf (L ++ x) w' B n) ∧ Below B w w' := by
  subst hk
  exact before_any L B n b w hb hn hB

theorem la (L M : List UInt8) {k m : Nat} (h : k = L.length) (g : m = M.length) : k + m = (L ++ M).length := by rw [h, g, List.length_append]

theorem sl {a : Option Addr} {k k' T : Nat} (h : k = k') : Value.slice a k T = Value.slice a k' T := by rw [h]

theorem conv_k {L : List UInt8} {w : World} {B n k : Nat} (h : Buf L w B n) (hk : k = L.length) : (convert 23 9 (.slice (some ⟨B, 0, none⟩) k n)).run Try.prog w = .ok (.string ⟨L.toArray⟩) w := by
  subst hk
  exact h.conv

theorem c1_fit (x : Int) (n : Nat) : ∃ c : Nat, x % ((n : Int) + 1) = c ∧ c ≤ n :=
  ⟨(x % ((n : Int) + 1)).toNat, (Int.toNat_of_nonneg (Int.emod_nonneg _ (by omega))).symm, by have := Int.emod_lt_of_pos x (b := (n : Int) + 1) (by omega); have := Int.emod_nonneg x (b := (n : Int) + 1) (by omega); omega⟩

theorem two_cons {t : ByteArray} {a b : UInt8} {r : List UInt8} (h : t.data.toList = a :: b :: r) : ∃ h1 : 1 < t.size, t[0]'(by omega) = a ∧ t[1]'h1 = b := by
  obtain ⟨h0, e0, d1⟩ := drop_cons (s := t) (i := 0) (by simpa using h)
  obtain ⟨h1, e1, _⟩ := drop_cons d1
  exact ⟨h1, e0, e1⟩

theorem one_cons {t : ByteArray} {a : UInt8} {r : List UInt8} (h : t.data.toList = a :: r) : ∃ h1 : 0 < t.size, t[0]'h1 = a := by
  obtain ⟨h0, e0, d1⟩ := drop_cons (s := t) (i := 0) (by simpa using h)
  exact ⟨h0, e0⟩

theorem u8_ne {c : UInt8} {n : Nat} (hn : n < 256) (h : ((c.toNat : Int) == (n : Int)) = false) : c ≠ UInt8.ofNat n := by
  intro e
  rw [e] at h
  have : (UInt8.ofNat n).toNat = n := by simp; omega
  rw [this] at h
  simp at h

set_option maxRecDepth 100000 in
set_option maxHeartbeats 40000000 in
theorem law_any (hidx : IdxC) (ss : List ByteArray) (ks : List UInt8) (t : ByteArray) (ao ko : Option Addr) (c kc : Nat) (w : World) (hA : Row (scells ss) w ao w.heap.size) (hK : Row (bcells ks) w ko w.heap.size)
    (hss : ss.length ≤ maxLen) (hws : ∀ s ∈ ss, s.size ≤ maxLen) (hks : ks.length ≤ maxLen) (ht : t.size ≤ maxLen) :
    Calls Try.prog 5 #[.slice ao ss.length c, .slice ko ks.length kc, .string t] w fun e w' => e = .returned (.bool true) ∧ Below w.heap.size w w' := by
  have HA : Hid _ := hA
  have HK : Hid _ := hK
  have HW : Hid _ := hws
  have HZ : Hid _ := fun _ : Unit => zz10_any ss ks t ao ko c kc w.heap.size w hA hss hws hks ht
  have hs1 : ((ss.length : Int)) ≤ 9223372036854775807 := by unfold maxLen at hss; omega
  have hk1 : ((ks.length : Int)) ≤ 9223372036854775807 := by unfold maxLen at hks; omega
  have ht1 : ((t.size : Int)) ≤ 9223372036854775807 := by unfold maxLen at ht; omega
  clear hA hK hws hss hks ht
  go_enter Try.func5, Try.ntmps5
  go_wp2_with (go_at_call 10; refine (HZ.out ()).mono ?_; rintro e w' ⟨⟨b, rfl⟩, hw⟩; rw [hw]; clear hw)
  · go_ret
    exact ⟨rfl, Below.refl _ _⟩
  · go_ret
    exact ⟨rfl, Below.refl _ _⟩
  · go_ret
    exact ⟨rfl, Below.refl _ _⟩
  · go_ret
    exact ⟨rfl, Below.refl _ _⟩
  go_loopg [7, 8] ss.length (fun g tv iv wx => ∃ T i : Nat, tv = .int .i64 T ∧ iv = .int .i64 i ∧ T ≤ 3145728 ∧ i ≤ ss.length ∧ ss.length ≤ i + g ∧ T = ks.length + t.size + 16 * ss.length + szs (ss.take i) ∧ w = wx)
  case atStart => exact ⟨ks.length + t.size + 16 * ss.length, 0, by go_num, rfl, by omega, by omega, by omega, by simp [szs], rfl⟩
  case round =>
    obtain ⟨T, i, rfl, rfl, hT, hi, hg, hsum, rfl⟩ := hrel
    have HS : Hid _ := hsum
    clear hsum
    by_cases hlt : i < ss.length
    · obtain ⟨a, rfl, _, hcell⟩ := HA.out.str hlt
      have hsz : ((ss[i].size : Int)) ≤ 9223372036854775807 := by have := HW.out ss[i] (List.getElem_mem hlt); unfold maxLen at this; omega
      have HS2 : Hid _ := szs_take hlt
      generalize ss[i] = s at hcell hsz HS2
      go_wp2
      · go_ret
        exact ⟨rfl, Below.refl _ _⟩
      · go_ret
        exact ⟨rfl, Below.refl _ _⟩
      · go_roundg (ss.length - (i + 1))
        case measure => omega
        case rel =>
          have h1 := HS.out
          have h2 := HS2.out
          exact ⟨T + s.size, i + 1, by go_num, by go_num, by omega, by omega, by omega, by omega, rfl⟩
    · obtain rfl : i = ss.length := by omega
      have HT : Hid (T = ks.length + t.size + 16 * ss.length + szs ss) := by have h := HS.out; rw [List.take_length] at h; exact h
      clear HS
      go_upto_region 20 with fail
      · go_ret
        exact ⟨rfl, Below.refl _ _⟩
      go_cut [75] from 22 to 74 (fun v wc => ∃ bv : Bool, v = .bool bv ∧ Hid (bv = false → ∀ c r, t.data.toList = c :: r → ¬ isSp c) ∧ w = wc)
      case first =>
        by_cases h0 : 0 < t.size
        · by_cases hsp : isSp (t[0]'h0)
          · have hi : Hid _ := b1Space_yes (t[0]'h0) hsp
            clear hsp
            go_wp2_with (go_at_call 11; refine (hi.out _).mono ?_; rintro e w' ⟨rfl, hw⟩; rw [hw]; clear hw)
            go_meet
            case rel => exact ⟨true, rfl, (fun h => by cases h), rfl⟩
          · have hi : Hid _ := b1Space_no (t[0]'h0) hsp
            have HN : Hid _ := hsp
            clear hsp
            go_wp2_with (go_at_call 11; refine (hi.out _).mono ?_; rintro e w' ⟨rfl, hw⟩; rw [hw]; clear hw)
            go_meet
            case rel => exact ⟨false, rfl, fun _ c r e => by obtain ⟨_, e0⟩ := one_cons e; rw [← e0]; exact HN.out, rfl⟩
        · go_wp2
          go_meet
          case rel => exact ⟨false, rfl, fun _ c r e => by obtain ⟨h1, _⟩ := one_cons e; exact absurd h1 h0, rfl⟩
      case rest =>
        obtain ⟨bv, rfl, HN1, rfl⟩ := hcut
        cases bv with
        | true =>
          go_wp2
          go_ret
          exact ⟨rfl, Below.refl _ _⟩
        | false =>
          go_upto_region 22 with fail
          go_cut [88] from 22 to 87 (fun v wc => ∃ bv : Bool, v = .bool bv ∧ Hid (bv = false → ∀ r, t.data.toList ≠ 45 :: 45 :: r) ∧ w = wc)
          case first =>
            by_cases h1 : 1 < t.size
            · have h0 : 0 < t.size := by omega
              cases ha : (((t[0]'h0).toNat : Int) == 45) with
              | true =>
                cases hb : (((t[1]'h1).toNat : Int) == 45) with
                | true =>
                  go_wp2
                  go_meet
                  case rel => exact ⟨true, rfl, (fun h => by cases h), rfl⟩
                | false =>
                  go_wp2
                  go_meet
                  case rel => exact ⟨false, rfl, fun _ r e => by obtain ⟨_, _, e1⟩ := two_cons e; exact u8_ne (n := 45) (by omega) hb e1, rfl⟩
              | false =>
                go_wp2
                go_meet
                case rel => exact ⟨false, rfl, fun _ r e => by obtain ⟨_, e1, _⟩ := two_cons e; exact u8_ne (n := 45) (by omega) ha e1, rfl⟩
            · go_wp2
              go_meet
              case rel => exact ⟨false, rfl, fun _ r e => by obtain ⟨h2, _⟩ := two_cons e; exact absurd h2 h1, rfl⟩
          case rest =>
            obtain ⟨bv, rfl, HN2, rfl⟩ := hcut
            cases bv with
            | true =>
              go_wp2
              go_ret
              exact ⟨rfl, Below.refl _ _⟩
            | false =>
              go_upto_region 24 with fail
              go_cut [101] from 22 to 100 (fun v wc => ∃ bv : Bool, v = .bool bv ∧ Hid (bv = false → ∀ r, t.data.toList ≠ 47 :: 42 :: r) ∧ w = wc)
              case first =>
                by_cases h1 : 1 < t.size
                · have h0 : 0 < t.size := by omega
                  cases ha : (((t[0]'h0).toNat : Int) == 47) with
                  | true =>
                    cases hb : (((t[1]'h1).toNat : Int) == 42) with
                    | true =>
                      go_wp2
                      go_meet
                      case rel => exact ⟨true, rfl, (fun h => by cases h), rfl⟩
                    | false =>
                      go_wp2
                      go_meet
                      case rel => exact ⟨false, rfl, fun _ r e => by obtain ⟨_, _, e1⟩ := two_cons e; exact u8_ne (n := 42) (by omega) hb e1, rfl⟩
                  | false =>
                    go_wp2
                    go_meet
                    case rel => exact ⟨false, rfl, fun _ r e => by obtain ⟨_, e1, _⟩ := two_cons e; exact u8_ne (n := 47) (by omega) ha e1, rfl⟩
                · go_wp2
                  go_meet
                  case rel => exact ⟨false, rfl, fun _ r e => by obtain ⟨h2, _⟩ := two_cons e; exact absurd h2 h1, rfl⟩
              case rest =>
                obtain ⟨bv, rfl, HN3, rfl⟩ := hcut
                cases bv with
                | true =>
                  go_wp2
                  go_ret
                  exact ⟨rfl, Below.refl _ _⟩
                | false =>
                  have HST : Hid (Stop t.data.toList) := ⟨fun c r e => HN1.out rfl c r e, fun r e => HN2.out rfl r e, fun r e => HN3.out rfl r e⟩
                  clear HN1 HN2 HN3 HZ
                  have hmk := fun wx : World => make_strs wx ss.length (by omega)
                  go_upto_if 103 with fail
                  go_cut [0, 9, 10] from 22 to 120 (fun s0 _ _ wc => ∃ (ao' : Option Addr) (c' : Nat), s0 = .slice ao' ss.length c' ∧ Hid (Row (scells ss) wc ao' wc.heap.size) ∧ Hid (Below w.heap.size w wc))
                  case first =>
                    cases ao with
                    | none =>
                      go_wp2
                      go_meet
                      case rel => exact ⟨_, _, rfl, HA.out, Below.refl _ _⟩
                    | some a => as_aux_lemma =>
                        go_wp2
                        go_loopg [10] ss.length (fun g iv wx => ∃ i : Nat, iv = .int .i64 i ∧ i ≤ ss.length ∧ ss.length ≤ i + g ∧ Hid (VBuf (scells (ss.take i)) wx w.heap.size ss.length ∧ Below w.heap.size w wx))
                        case atStart => exact ⟨0, rfl, by omega, by omega, VBuf.start _ _ _ _, (Below.refl _ _).alloc (Nat.le_refl _) _⟩
                        case round =>
                          obtain ⟨i, rfl, hi2, hg2, HV⟩ := hrel
                          by_cases hlt2 : i < ss.length
                          · obtain ⟨x, hx⟩ := HV.out.1.room i hlt2
                            have hfr := HV.out.1.free i hlt2
                            obtain ⟨a', ha', hab, hcell⟩ := (HA.out.below HV.out.2).str hlt2
                            obtain rfl : a = a' := by injection ha'
                            have HV2 : Hid (VBuf (scells (ss.take (i + 1))) (wr.setCell ⟨w.heap.size, i, none⟩ (.string ss[i])) w.heap.size ss.length ∧ Below w.heap.size w (wr.setCell ⟨w.heap.size, i, none⟩ (.string ss[i]))) := by
                              have hl : (scells (ss.take i)).length = i := by simp [scells]; omega
                              have h1 := HV.out.1.store (by rw [hl]; exact hlt2) (.string ss[i])
                              rw [hl] at h1
                              exact ⟨by rw [scells_take hlt2]; exact h1, HV.out.2.setCell (p := ⟨w.heap.size, i, none⟩) (Nat.le_refl _) _⟩
                            clear ha' hab
                            generalize ss[i] = s at hcell HV2
                            go_wp2
                            go_roundg (ss.length - (i + 1))
                            case measure => omega
                            case rel => exact ⟨i + 1, by go_num, by omega, by omega, HV2⟩
                          · obtain rfl : i = ss.length := by omega
                            have HV2 : Hid (VBuf (scells ss) wr w.heap.size ss.length) := by have h := HV.out.1; rw [List.take_length] at h; exact h
                            go_wp2
                            go_meet
                            case rel => exact ⟨_, _, rfl, HV2.out.row HV2.out.lt, HV.out.2⟩
                  case rest =>
                    obtain ⟨ao', c', rfl, HA', HB'⟩ := hcut
                    have HK' : Hid (Row (bcells ks) wc ko wc.heap.size) := (HK.out.below HB'.out).mono HB'.out.size
                    clear HA HK hmk
                    have hmk := fun wx : World => make_bytes wx ks.length ks.length (Nat.le_refl _) (by omega)
                    go_upto_if 122 with fail
                    go_cut [1, 11, 12] from 22 to 139 (fun s1 _ _ wd => ∃ (ko' : Option Addr) (kc' : Nat), s1 = .slice ko' ks.length kc' ∧ Hid (Row (bcells ks) wd ko' wd.heap.size ∧ Row (scells ss) wd ao' wd.heap.size ∧ Below w.heap.size w wd))
                    case first =>
                      cases ko with
                      | none =>
                        go_wp2
                        go_meet
                        case rel => exact ⟨_, _, rfl, HK'.out, HA'.out, HB'.out⟩
                      | some a => as_aux_lemma =>
                          go_wp2
                          go_loopg [12] ks.length (fun g iv wx => ∃ i : Nat, iv = .int .i64 i ∧ i ≤ ks.length ∧ ks.length ≤ i + g ∧ Hid (VBuf (bcells (ks.take i)) wx wc.heap.size ks.length ∧ Below wc.heap.size wc wx))
                          case atStart => exact ⟨0, rfl, by omega, by omega, VBuf.start _ _ _ _, (Below.refl _ _).alloc (Nat.le_refl _) _⟩
                          case round =>
                            obtain ⟨i, rfl, hi2, hg2, HV⟩ := hrel
                            by_cases hlt2 : i < ks.length
                            · obtain ⟨x, hx⟩ := HV.out.1.room i hlt2
                              have hfr := HV.out.1.free i hlt2
                              obtain ⟨a', ha', hab, hcell⟩ := (HK'.out.below HV.out.2).byte hlt2
                              obtain rfl : a = a' := by injection ha'
                              have HV2 : Hid (VBuf (bcells (ks.take (i + 1))) (wr.setCell ⟨wc.heap.size, i, none⟩ (.int .u8 (ks[i].toNat : Int))) wc.heap.size ks.length ∧ Below wc.heap.size wc (wr.setCell ⟨wc.heap.size, i, none⟩ (.int .u8 (ks[i].toNat : Int)))) := by
                                have hl : (bcells (ks.take i)).length = i := by simp [bcells]; omega
                                have h1 := HV.out.1.store (by rw [hl]; exact hlt2) (.int .u8 (ks[i].toNat : Int))
                                rw [hl] at h1
                                exact ⟨by rw [bcells_take hlt2]; exact h1, HV.out.2.setCell (p := ⟨wc.heap.size, i, none⟩) (Nat.le_refl _) _⟩
                              clear ha' hab
                              generalize ks[i] = s at hcell HV2
                              go_wp2
                              go_roundg (ks.length - (i + 1))
                              case measure => omega
                              case rel => exact ⟨i + 1, by go_num, by omega, by omega, HV2⟩
                            · obtain rfl : i = ks.length := by omega
                              have HV2 : Hid (VBuf (bcells ks) wr wc.heap.size ks.length) := by have h := HV.out.1; rw [List.take_length] at h; exact h
                              go_wp2
                              go_meet
                              case rel => exact ⟨_, _, rfl, HV2.out.row HV2.out.lt, (HA'.out.below HV.out.2).mono HV.out.2.size, HB'.out.trans (HV.out.2.mono HB'.out.size)⟩
                    case rest =>
                      obtain ⟨ko', kc', rfl, HR⟩ := hcut
                      rename_i w1 _
                      clear HA' HB' HK' hmk
                      have hmk := fun wx : World => make_buf wx T (by omega)
                      go_wp2
                      go_loopg [13, 14] ss.length (fun g bv iv wx => ∃ (i : Nat) (L : List UInt8), iv = .int .i64 i ∧ bv = .slice (some ⟨wc.heap.size, 0, none⟩) L.length T ∧ i ≤ ss.length ∧ ss.length ≤ i + g ∧ Hid (Piece L ∧ L.length + 16 * (ss.length - i) + szs (ss.drop i) + t.size ≤ T ∧ Buf L wx wc.heap.size T ∧ Below wc.heap.size wc wx))
                      case atStart => exact ⟨0, [], rfl, rfl, by omega, by omega, Piece.nil, by have := HT.out; simp; omega, Buf.start _ _ _, (Below.refl _ _).alloc (Nat.le_refl _) _⟩
                      case round =>
                        obtain ⟨i, L, rfl, rfl, hi2, hg2, HV⟩ := hrel
                        by_cases hlt2 : i < ss.length
                        · obtain ⟨hpc, hlen, hbuf, hbel⟩ := HV.out
                          obtain ⟨a, rfl, _, hcell⟩ := (HR.out.2.1.below hbel).str hlt2
                          rw [szs_drop hlt2] at hlen
                          generalize ss[i] = b at hcell hlen
                          have hbT : L.length + b.size + 16 + (16 * (ss.length - (i + 1)) + szs (ss.drop (i + 1)) + t.size) ≤ T := by omega
                          have HBT : Hid _ := hbT
                          have HP : Hid (Piece L) := hpc
                          clear hlen hpc HV hmk
                          go_upto_if 151 with fail
                          go_cut [15] from 142 to 269 (fun s15 wx => ∃ r : UInt8, s15 = .int .u8 r.toNat ∧ wr = wx)
                          case first =>
                            by_cases hik : i < ks.length
                            · obtain ⟨a2, rfl, _, hkc⟩ := (HR.out.1.below hbel).byte hik
                              generalize ks[i] = r at hkc
                              go_wp2
                              go_meet
                              case rel => exact ⟨r, rfl, rfl⟩
                            · go_wp2
                              go_meet
                              case rel => exact ⟨0, rfl, rfl⟩
                          case rest =>
                            obtain ⟨r, rfl, rfl⟩ := hcut
                            go_upto_region 47 with fail
                            go_cut [16] from 142 to 269 (fun s16 wx => (∃ kz : Int, s16 = .int .u8 kz ∧ Hid (kz = (r.toNat : Int) % 5)) ∧ wr = wx)
                            case first =>
                              go_wp2
                              go_meet
                              case rel => exact ⟨⟨_, rfl, rfl⟩, rfl⟩
                            case rest =>
                            obtain ⟨⟨kz, rfl, HKZ⟩, rfl⟩ := hcut
                            have h5 : kz = 0 ∨ (kz = 1 ∨ kz = 2) ∨ kz = 3 ∨ kz = 4 := by have := HKZ.out; omega
                            clear HKZ
                            rcases h5 with rfl | h5 | rfl | rfl
                            · as_aux_lemma =>
                                go_wp2
                                go_loopg [13, 18] b.size (fun g bv jv wx => ∃ (j : Nat) (M : List UInt8), jv = .int .i64 j ∧ bv = .slice (some ⟨wc.heap.size, 0, none⟩) M.length T ∧ j ≤ b.size ∧ b.size ≤ j + g ∧ M.length ≤ L.length + j ∧ Hid (Piece M ∧ Buf M wx wc.heap.size T ∧ Below wc.heap.size wc wx))
                                case atStart => exact ⟨0, L, rfl, rfl, by omega, by omega, by omega, HP.out, hbuf, hbel⟩
                                case round =>
                                  obtain ⟨j, M, rfl, rfl, hj, hjg, hM, HM⟩ := hrel
                                  by_cases hjb : j < b.size
                                  · obtain ⟨hpm, hbm, hem⟩ := HM.out
                                    have HPM : Hid (Piece M) := hpm
                                    clear hpm HM hbuf hbel
                                    go_wp2_with (first | (go_at_call 12; refine (spaceOf_any (b[j]'hjb) _).mono ?_; rintro e w' ⟨⟨sp, hsp, rfl⟩, hw⟩; rw [hw]; clear hw) | (at_builtin; refine wpList_buf _ rfl (.tmp 216) (.tmp 221) rfl [sp] (hbm.alloc _) rfl rfl rfl rfl (by simp; omega) (cells_new _ _ _ _ rfl) ?_; intro w2 hbuf2 hbel2))
                                    go_roundg (b.size - (j + 1))
                                    case measure => omega
                                    case rel => exact ⟨j + 1, M ++ [sp], by go_num, by simp, by omega, by omega, by simp; omega, HPM.out.app (Piece.sp hsp), hbuf2, (hem.alloc (Nat.le_of_lt hbm.lt) _).trans hbel2⟩
                                  · go_wp2
                                    go_roundg (ss.length - (i + 1))
                                    case measure => omega
                                    case rel => exact ⟨i + 1, M, by go_num, rfl, by omega, by omega, HM.out.1, by have := HBT.out; omega, HM.out.2⟩
                            · as_aux_lemma =>
                                rcases h5 with rfl | rfl
                                all_goals
                                  go_wp2_with (at_builtin; refine wpList_buf _ rfl (.tmp 226) (.tmp 227) rfl [45, 45] (hbuf.alloc _) rfl rfl rfl rfl (by simp; omega) (cells_new _ _ _ _ rfl) ?_; intro w2 hb2 he2)
                                  go_loopg [13, 19] b.size (fun g bv jv wx => ∃ (j : Nat) (x : List UInt8), jv = .int .i64 j ∧ bv = .slice (some ⟨wc.heap.size, 0, none⟩) (L.length + 2 + x.length) T ∧ j ≤ b.size ∧ b.size ≤ j + g ∧ x.length ≤ j ∧ Hid ((∀ d ∈ x, d ≠ 10 ∧ d ≠ 13) ∧ Buf (L ++ [45, 45] ++ x) wx wc.heap.size T ∧ Below wc.heap.size wc wx))
                                  case atStart => exact ⟨0, [], rfl, by simp, by omega, by omega, by simp, by simp, by simpa using hb2, (hbel.alloc (Nat.le_of_lt hbuf.lt) _).trans he2⟩
                                  case round =>
                                    obtain ⟨j, x, rfl, rfl, hj, hjg, hxl, HM⟩ := hrel
                                    have hlx : (L ++ [45, 45] ++ x).length = L.length + 2 + x.length := (la _ _ (la _ _ rfl rfl) rfl).symm
                                    by_cases hjb : j < b.size
                                    · obtain ⟨hx, hbm, hem⟩ := HM.out
                                      have HX : Hid _ := hx
                                      clear hx hb2 he2 hbuf hbel
                                      cases h10 : (((b[j]'hjb).toNat : Int) != 10) with
                                      | false =>
                                        go_wp2
                                        go_roundg (b.size - (j + 1))
                                        case measure => omega
                                        case rel => exact ⟨j + 1, x, by go_num, rfl, by omega, by omega, by omega, HM⟩
                                      | true =>
                                        cases h13 : (((b[j]'hjb).toNat : Int) != 13) with
                                        | false =>
                                          go_wp2
                                          go_roundg (b.size - (j + 1))
                                          case measure => omega
                                          case rel => exact ⟨j + 1, x, by go_num, rfl, by omega, by omega, by omega, HM⟩
                                        | true =>
                                          have HN : Hid (b[j]'hjb ≠ 10 ∧ b[j]'hjb ≠ 13) := ⟨u8_ne (n := 10) (by omega) (by simpa using h10), u8_ne (n := 13) (by omega) (by simpa using h13)⟩
                                          go_wp2_with (at_builtin; refine wpList_buf _ rfl (.tmp 245) (.tmp 249) rfl [b[j]'hjb] (hbm.alloc _) rfl rfl hlx.symm rfl (by simp; omega) (cells_new _ _ _ _ rfl) ?_; intro w3 hb3 he3)
                                          go_roundg (b.size - (j + 1))
                                          case measure => omega
                                          case rel =>
                                            refine ⟨j + 1, x ++ [b[j]'hjb], by go_num, sl (by simp; omega), by omega, by omega, by simp; omega, ?_, by rw [← List.append_assoc]; exact hb3, (hem.alloc (Nat.le_of_lt hbm.lt) _).trans he3⟩
                                            intro d hd
                                            rcases List.mem_append.1 hd with hd | hd
                                            · exact HX.out d hd
                                            · rw [List.mem_singleton.1 hd]; exact HN.out
                                    · obtain ⟨hx, hbm, hem⟩ := HM.out
                                      have HX : Hid _ := hx
                                      clear hx hb2 he2 hbuf hbel HM
                                      go_wp2_with (first | (at_builtin; refine wpList_buf _ rfl (.tmp 253) (.tmp 254) rfl [10] (hbm.alloc _) rfl rfl hlx.symm rfl (by simp; omega) (cells_new _ _ _ _ rfl) ?_; intro w3 hb3 he3) | (at_builtin; refine wpList_buf _ rfl (.tmp 256) (.tmp 257) rfl [13] (hbm.alloc _) rfl rfl hlx.symm rfl (by simp; omega) (cells_new _ _ _ _ rfl) ?_; intro w3 hb3 he3))
                                      go_roundg (ss.length - (i + 1))
                                      case measure => omega
                                      case rel =>
                                        have hfit := HBT.out
                                        first
                                          | exact ⟨i + 1, L ++ [45, 45] ++ x ++ [10], by go_num, sl (la _ _ (la _ _ (la _ _ rfl rfl) rfl) rfl), by omega, by omega, by rw [show L ++ [45, 45] ++ x ++ [10] = L ++ ([45, 45] ++ x ++ [10]) from by simp]; exact HP.out.app (Piece.line HX.out (.inl rfl)), by simp; omega, hb3, (hem.alloc (Nat.le_of_lt hbm.lt) _).trans he3⟩
                                          | exact ⟨i + 1, L ++ [45, 45] ++ x ++ [13], by go_num, sl (la _ _ (la _ _ (la _ _ rfl rfl) rfl) rfl), by omega, by omega, by rw [show L ++ [45, 45] ++ x ++ [13] = L ++ ([45, 45] ++ x ++ [13]) from by simp]; exact HP.out.app (Piece.line HX.out (.inr rfl)), by simp; omega, hb3, (hem.alloc (Nat.le_of_lt hbm.lt) _).trans he3⟩
                            · as_aux_lemma =>
                                go_wp2_with (first | (at_builtin; refine wpList_buf _ rfl (.tmp 261) (.tmp 262) rfl [47, 42] (hbuf.alloc _) rfl rfl rfl rfl (by simp; omega) (cells_new _ _ _ _ rfl) ?_; intro w2 hb2 he2) | (go_at_call 13; refine (noslash_k (by omega) (la _ _ rfl rfl) (by simp; omega) hb2).mono ?_; rintro e w3 ⟨⟨x, hx, hxl, rfl, hb3⟩, he3⟩; have HX : Hid _ := hx; clear hx) | (at_builtin; refine wpList_buf _ rfl (.tmp 267) (.tmp 268) rfl [42, 47] (hb3.alloc _) rfl rfl (la _ _ (la _ _ rfl rfl) rfl) rfl (by simp; omega) (cells_new _ _ _ _ rfl) ?_; intro w4 hb4 he4))
                                go_roundg (ss.length - (i + 1))
                                case measure => omega
                                case rel =>
                                  have hfit := HBT.out
                                  exact ⟨i + 1, L ++ [47, 42] ++ x ++ [42, 47], by go_num, sl (la _ _ (la _ _ (la _ _ rfl rfl) rfl) rfl), by omega, by omega, by rw [show L ++ [47, 42] ++ x ++ [42, 47] = L ++ ([47, 42] ++ x ++ [42, 47]) from by simp]; exact HP.out.app (Piece.blk HX.out), by simp; omega, hb4, ((((hbel.alloc (Nat.le_of_lt hbuf.lt) _).trans he2).trans he3).alloc (Nat.le_of_lt hb3.lt) _).trans he4⟩
                            · as_aux_lemma =>
                                go_upto_region 50 with fail
                                go_cut [20] from 142 to 269 (fun s20 wx => (∃ c1 : Nat, s20 = .int .i64 c1 ∧ c1 ≤ b.size) ∧ wr = wx)
                                case first =>
                                  go_wp2
                                  go_meet
                                  case rel =>
                                    obtain ⟨c1, e1, h1⟩ := c1_fit ((r.toNat : Int) / 5 % 256) b.size
                                    exact ⟨⟨c1, by rw [e1], h1⟩, rfl⟩
                                case rest =>
                                obtain ⟨⟨c1, rfl, hc1⟩, rfl⟩ := hcut
                                go_upto_region 51 with fail
                                go_cut [21] from 142 to 269 (fun s21 wx => (∃ c2 : Nat, s21 = .int .i64 c2 ∧ c1 ≤ c2 ∧ c2 ≤ b.size) ∧ wr = wx)
                                case first =>
                                  have hr := r.toNat_lt
                                  have q1 : ((b.size : Int) - (c1 : Int) + 1) ≠ 0 := by omega
                                  have q2 : 0 ≤ (r.toNat : Int) % ((b.size : Int) - (c1 : Int) + 1) := Int.emod_nonneg _ q1
                                  have q3 : (r.toNat : Int) % ((b.size : Int) - (c1 : Int) + 1) < (b.size : Int) - (c1 : Int) + 1 := Int.emod_lt_of_pos _ (by omega)
                                  go_wp2
                                  go_meet
                                  case rel => exact ⟨⟨c1 + ((r.toNat : Int) % ((b.size : Int) - (c1 : Int) + 1)).toNat, by go_num, by omega, by omega⟩, rfl⟩
                                case rest =>
                                obtain ⟨⟨c2, rfl, hc2, hc3⟩, rfl⟩ := hcut
                                have z1 : (b.extract 0 c1).size = c1 := by simp; omega
                                have z2 : (b.extract c1 c2).size = c2 - c1 := by simp; omega
                                have z3 : (b.extract c2 b.size).size = b.size - c2 := by simp
                                have HZ1 : Hid _ := z1
                                have HZ2 : Hid _ := z2
                                have HZ3 : Hid _ := z3
                                have q1 : (c1 : Int) ≤ (b.size : Int) := by omega
                                have q2 : (c2 : Int) ≤ (b.size : Int) := by omega
                                have q3 : (c1 : Int) ≤ (c2 : Int) := by omega
                                clear z1 z2 z3
                                go_wp2_with (at_builtin; refine wpList_buf _ rfl (.tmp 180) (.tmp 181) rfl [47, 42] (hbuf.alloc _) rfl rfl rfl rfl (by simp; omega) (cells_new _ _ _ _ rfl) ?_; intro w2 hb2 he2)
                                have BE2 : Hid (Below wc.heap.size wc w2) := (hbel.alloc (Nat.le_of_lt hbuf.lt) _).trans he2
                                clear hbuf he2
                                refine (before_k (by omega) (la _ _ rfl rfl) (by rw [HZ1.out]; simp; omega) hb2).mono ?_
                                rintro e w3 ⟨⟨x, hx, hxs, hxl, rfl, hb3⟩, he3⟩
                                have BE3 : Hid (Below wc.heap.size wc w3) := BE2.out.trans he3
                                have HX : Hid _ := hx
                                have HXS : Hid _ := hxs
                                rw [HZ1.out] at hxl
                                clear hx hxs hb2 he3 BE2 hbel hcell
                                go_wp2_with (at_builtin; refine wpList_buf _ rfl (.tmp 188) (.tmp 189) rfl [47, 42] (hb3.alloc _) rfl rfl (la _ _ (la _ _ rfl rfl) rfl) rfl (by simp; omega) (cells_new _ _ _ _ rfl) ?_; intro w4 hb4 he4)
                                have BE4 : Hid (Below wc.heap.size wc w4) := (BE3.out.alloc (Nat.le_of_lt hb3.lt) _).trans he4
                                clear hb3 he4
                                refine (noslash_k (by omega) (la _ _ (la _ _ (la _ _ rfl rfl) rfl) rfl) (by rw [HZ2.out]; simp; omega) hb4).mono ?_
                                rintro e w5 ⟨⟨y, hy, hyl, rfl, hb5⟩, he5⟩
                                have BE5 : Hid (Below wc.heap.size wc w5) := BE4.out.trans he5
                                have HY : Hid _ := hy
                                rw [HZ2.out] at hyl
                                clear hy hb4 he5 BE4 BE3
                                go_wp2_with (at_builtin; refine wpList_buf _ rfl (.tmp 197) (.tmp 198) rfl [42, 47] (hb5.alloc _) rfl rfl (la _ _ (la _ _ (la _ _ (la _ _ rfl rfl) rfl) rfl) rfl) rfl (by simp; omega) (cells_new _ _ _ _ rfl) ?_; intro w6 hb6 he6)
                                have BE6 : Hid (Below wc.heap.size wc w6) := (BE5.out.alloc (Nat.le_of_lt hb5.lt) _).trans he6
                                clear hb5 he6
                                refine (noslash_k (by omega) (la _ _ (la _ _ (la _ _ (la _ _ (la _ _ rfl rfl) rfl) rfl) rfl) rfl) (by rw [HZ3.out]; simp; omega) hb6).mono ?_
                                rintro e w7 ⟨⟨z, hz, hzl, rfl, hb7⟩, he7⟩
                                have BE7 : Hid (Below wc.heap.size wc w7) := BE6.out.trans he7
                                have HZZ : Hid _ := hz
                                rw [HZ3.out] at hzl
                                clear hz hb6 he7 BE6 BE5
                                go_wp2_with (at_builtin; refine wpList_buf _ rfl (.tmp 205) (.tmp 206) rfl [42, 47] (hb7.alloc _) rfl rfl (la _ _ (la _ _ (la _ _ (la _ _ (la _ _ (la _ _ rfl rfl) rfl) rfl) rfl) rfl) rfl) rfl (by simp; omega) (cells_new _ _ _ _ rfl) ?_; intro w8 hb8 he8)
                                have BE8 : Hid (Below wc.heap.size wc w8) := (BE7.out.alloc (Nat.le_of_lt hb7.lt) _).trans he8
                                clear hb7 he8
                                go_roundg (ss.length - (i + 1))
                                case measure => omega
                                case rel =>
                                  have hfit := HBT.out
                                  exact ⟨i + 1, L ++ [47, 42] ++ x ++ [47, 42] ++ y ++ [42, 47] ++ z ++ [42, 47], by go_num, sl (la _ _ (la _ _ (la _ _ (la _ _ (la _ _ (la _ _ (la _ _ rfl rfl) rfl) rfl) rfl) rfl) rfl) rfl), by omega, by omega, by rw [show L ++ [47, 42] ++ x ++ [47, 42] ++ y ++ [42, 47] ++ z ++ [42, 47] = L ++ ([47, 42] ++ x ++ [47, 42] ++ y ++ [42, 47] ++ z ++ [42, 47]) from by simp]; exact HP.out.app (Piece.nest HX.out HXS.out HY.out HZZ.out), by simp; omega, hb8, BE8.out⟩
                        · as_aux_lemma =>
                            obtain rfl : i = ss.length := by omega
                            obtain ⟨hpc, hlen, hbuf, hbel⟩ := HV.out
                            have HSK : Hid (Skips (L ++ t.data.toList) t.data.toList) := hpc.skips HST.out
                            have hfit : L.length + t.size ≤ T := by omega
                            have htt : (t.toList == t.toList) = true := by simp
                            have hlt3 := list_len t
                            have HLL : Hid _ := hlt3
                            clear HV hmk hpc hlen hlt3
                            go_wp2_with (at_builtin; refine wpList_bufs _ rfl (.tmp 270) (.tmp 271) rfl hbuf rfl rfl rfl hfit ?_; intro w2 hb2 he2; have hcv := conv_k hb2 (la _ _ rfl HLL.out.symm))
                            have hsz2 : ByteArray.size ⟨(L ++ t.data.toList).toArray⟩ ≤ 1048576 := by
                              show (L ++ t.data.toList).toArray.size ≤ _
                              rw [List.size_toArray, List.length_append, HLL.out]
                              omega
                            refine (zz_any hidx ⟨(L ++ t.data.toList).toArray⟩ t w2 hsz2 HSK.out).mono ?_
                            rintro e w3 ⟨rfl, he3⟩
                            have HBB : Hid (Below w.heap.size w w3) := HR.out.2.2.trans (((hbel.trans he2).mono HR.out.2.2.size).trans (he3.mono (Nat.le_trans HR.out.2.2.size (hbel.trans he2).size)))
                            clear hb2 he2 he3 hcv hbuf hbel hsz2
                            go_wp2
                            go_ret
                            exact ⟨rfl, HBB.out⟩
end Go.Proofs.Qxb6601006a
