import Derived.Test.Qxb6601006aRows
import Derived.WalkKit
import Derived.ProofKit
import Derived.ShutString
import Derived.ChangeOld
import Derived.Below
import Derived.OpenShut
import Derived.SliceStrings
import Derived.Carry
import Derived.Test.Qxb6601006aIdxAt
import Derived.Test.Qxb6601006aW4
namespace Go.Proofs.Qxb6601006a.fnSkipSpaceSkipsBuiltBlank
open Go.ChangeShapes Go.WideShapes Go.ChangeAt Go.RowKit
open Go.ChangeMaps (open_string shut_string)
set_option linter.unusedVariables false

theorem own : ownKnob Try.prog.godebug = none := by kernel_rfl
theorem laidOut : laidOutB Try.prog = true := by kernel_rfl

theorem cell_lt {w : World} {a : Addr} {v : Value} (h : w.cell? a = some v) : a.block < w.heap.size := by
  rcases Nat.lt_or_ge a.block w.heap.size with h' | h'
  · exact h'
  · have e : w.heap[a.block]? = none := Array.getElem?_eq_none h'
    unfold World.cell? at h
    rw [e] at h
    simp at h

/-- A slice of strings that came in. -/
def Strs (w : World) (a : Option Addr) (len : Nat) (ss : List ByteArray) : Prop :=
  ss.length = len ∧ len ≤ maxLen ∧ (∀ s ∈ ss, s.size ≤ maxLen) ∧ Row (scells ss) w a w.heap.size

/-- A slice of bytes that came in. -/
def Bytes (w : World) (a : Option Addr) (len : Nat) (ks : List UInt8) : Prop :=
  ks.length = len ∧ len ≤ maxLen ∧ Row (bcells ks) w a w.heap.size

theorem strs_nil (w : World) : Strs w none 0 [] := ⟨rfl, by unfold maxLen; omega, by simp, fun _ => rfl, fun j u hu => by simp [scells] at hu⟩
theorem bytes_nil (w : World) : Bytes w none 0 [] := ⟨rfl, by unfold maxLen; omega, fun _ => rfl, fun j u hu => by simp [bcells] at hu⟩

theorem strs_some {w : World} {a : Addr} {len cap : Nat} {ss : List ByteArray} (hl : len ≤ cap) (hm : cap ≤ maxLen) (hz : ss.length = cap)
    (hc : ∀ i, i < ss.length → w.cell? (a.add i) = some (.string (ss.getD i ByteArray.empty))) (hw : ∀ s ∈ ss, s.size ≤ maxLen) : Strs w (some a) len (ss.take len) := by
  refine ⟨by simp; omega, Nat.le_trans hl hm, fun s hs => hw s (List.mem_of_mem_take hs), fun e => (by cases e), fun j u hu => ?_⟩
  unfold scells at hu
  rw [List.getElem?_map, Option.map_eq_some_iff] at hu
  obtain ⟨s, hs, rfl⟩ := hu
  have hj : j < len := by
    have := (List.getElem?_eq_some_iff.1 hs).1
    simp at this
    omega
  rw [List.getElem?_take, if_pos hj] at hs
  have hcj := hc j (by omega)
  have hd : ss.getD j ByteArray.empty = s := by simp [List.getD, hs]
  rw [hd] at hcj
  refine ⟨a, rfl, ?_, hcj⟩
  have := cell_lt hcj
  rw [add_block] at this
  exact this

theorem bytes_some {w : World} {a : Addr} {len cap : Nat} {zs : List Int} (hl : len ≤ cap) (hm : cap ≤ maxLen) (hz : zs.length = cap)
    (hc : ∀ i, i < zs.length → w.cell? (a.add i) = some (.int .u8 (zs.getD i 0))) (hw : ∀ n ∈ zs, (Lit.int .u8 n).wf = true) : Bytes w (some a) len ((zs.take len).map fun n => UInt8.ofNat n.toNat) := by
  refine ⟨by simp; omega, Nat.le_trans hl hm, fun e => (by cases e), fun j u hu => ?_⟩
  unfold bcells at hu
  rw [List.map_map, List.getElem?_map, Option.map_eq_some_iff] at hu
  obtain ⟨n, hn, rfl⟩ := hu
  have hj : j < len := by
    have := (List.getElem?_eq_some_iff.1 hn).1
    simp at this
    omega
  rw [List.getElem?_take, if_pos hj] at hn
  have hcj := hc j (by omega)
  have hd : zs.getD j 0 = n := by simp [List.getD, hn]
  rw [hd] at hcj
  have hb := bounds_u8 (hw n (List.mem_of_getElem? hn))
  have he : ((UInt8.ofNat n.toNat).toNat : Int) = n := by simp; omega
  refine ⟨a, rfl, ?_, ?_⟩
  · have := cell_lt hcj
    rw [add_block] at this
    exact this
  · rw [hcj]
    simp only [Function.comp]
    rw [he]

theorem walk (a0 : Option Addr) (len0 cap0 : Nat) (s0 : List ByteArray) (a1 : Option Addr) (len1 cap1 : Nat) (k1 : List UInt8) (t : ByteArray) (w : World) (w0 : Strs w a0 len0 s0) (w1 : Bytes w a1 len1 k1) (w2 : t.size ≤ maxLen) :
    Calls Try.prog 5 #[.slice a0 len0 cap0, .slice a1 len1 cap1, .string t] w fun e w' => e = .returned (.bool true) ∧ Below w.heap.size w w' := by
  obtain ⟨rfl, m0, z0, r0⟩ := w0
  obtain ⟨rfl, m1, r1⟩ := w1
  exact law_any idxC s0 k1 t a0 a1 cap0 cap1 w r0 r1 m0 z0 m1 w2

set_option maxRecDepth 100000 in
theorem lifted (os : Os) (started : os.Started) (H : Type) (enc : TypeId × Value → H) :
    ReturnsInHanded {} Try.checked os 5 .any (Rows.fnSkipSpaceSkipsBuiltBlankSpec.pre6 enc Try.prog Try.f5 Rows.fnSkipSpaceSkipsBuiltBlankRow.domain false) (Rows.fnSkipSpaceSkipsBuiltBlankSpec.post enc Try.prog Try.f5 false true false false) := by
  refine returnsInHanded_of_change (C := Try.checked) own started (by kernel_rfl) Try.func5
    (ChangeSpec.witness6 (enc := enc) (C := Try.checked) false ⟨#[], #[.slice none 0 0, .slice none 0 0, .string ByteArray.empty], []⟩ 8 (by kernel_rfl) (by kernel_rfl) (by kernel_rfl) (by kernel_rfl)) ?_
  intro W base args ds gs before hval0 hW hcnd _
  have hval : ∀ (j : Nat) t v, Try.f5.params[j]? = some t → args[j]? = some v → Value.okWide Try.prog W .any base t v := hval0
  have hW' := hW
  obtain ⟨p, q, hA0, hV, rfl, hfz, hnd⟩ := hW
  have hA : DataW.TrodAll enc Try.prog W 0 (fun _ => true) true Try.f5.params.toList args.toList ds p := hA0
  rw [Try.params5] at hA hval
  obtain ⟨v0, vs0, d0, ds0, p0, q0, hargs, rfl, rfl, h0, r0⟩ := trodAll_cons hA
  obtain ⟨v1, vs1, d1, ds1, p1, q1, rfl, rfl, rfl, h1, r1⟩ := trodAll_cons r0
  obtain ⟨v2, vs2, d2, ds2, p2, q2, rfl, rfl, rfl, h2, r2⟩ := trodAll_cons r1
  obtain ⟨rfl, rfl, rfl⟩ := trodAll_nil r2
  obtain rfl : args = #[v0, v1, v2] := by cases args; simp_all
  obtain ⟨rfl, rfl⟩ := trodVars_none hV
  obtain ⟨a0, len0, cap0, rfl⟩ := okWide_slice Try.underlying27 (hval 0 27 v0 rfl rfl)
  obtain ⟨a1, len1, cap1, rfl⟩ := okWide_slice Try.underlying23 (hval 1 23 v1 rfl rfl)
  have k0 := h0
  have k1 := h1
  have lt0 : ∀ x ∈ p0, x.block < W.heap.size := by obtain ⟨m, hm⟩ := k0; exact DataW.trod_lt m _ _ _ hm
  have lt1 : ∀ x ∈ p1, x.block < W.heap.size := by obtain ⟨m, hm⟩ := k1; exact DataW.trod_lt m _ _ _ hm
  obtain ⟨s0, w0⟩ : ∃ ss, Strs W a0 len0 ss := by
    obtain ⟨fuel, hf⟩ := h0
    rcases open_strings Try.underlying27 Try.underlying9 (by kernel_rfl) hf with ⟨hcs, _⟩ | ⟨x, l, c, ss, hcs, _, hl, hm, hz, _, hcell, hws⟩
    · simp [Value.cells] at hcs
      obtain ⟨rfl, rfl, rfl⟩ := hcs
      exact ⟨[], strs_nil W⟩
    · simp [Value.cells] at hcs
      obtain ⟨rfl, rfl, rfl⟩ := hcs
      exact ⟨_, strs_some hl hm (by simpa using hz) hcell hws⟩
  obtain ⟨z1, w1⟩ : ∃ ks, Bytes W a1 len1 ks := by
    obtain ⟨fuel, hf⟩ := h1
    rcases open_ints Try.underlying23 Try.underlying5 (by kernel_rfl) hf with ⟨hcs, _⟩ | ⟨x, l, c, zs, hcs, _, hl, hm, hz, _, hcell, hwz⟩
    · simp [Value.cells] at hcs
      obtain ⟨rfl, rfl, rfl⟩ := hcs
      exact ⟨[], bytes_nil W⟩
    · simp [Value.cells] at hcs
      obtain ⟨rfl, rfl, rfl⟩ := hcs
      exact ⟨_, bytes_some hl hm (by simpa using hz) hcell hwz⟩
  obtain ⟨t2, rfl, rfl, rfl, w2⟩ := open_string Try.underlying9 (hval 2 9 v2 rfl rfl) h2
  clear hA0 hval0
  refine (walk a0 len0 cap0 s0 a1 len1 cap1 z1 t2 W w0 w1 w2).mono fun e W' ⟨he, bel⟩ => ?_
  subst he
  exact ⟨_, rfl, _, _, _, [], _, [], hW', trodAll_mk1 (shut_bool Try.underlying4 _), (trodAll_cons_mk (Below.trod laidOut (by kernel_rfl) (of_decide_eq_true (by kernel_rfl)) k0 bel lt0) (trodAll_cons_mk (Below.trod laidOut (by kernel_rfl) (of_decide_eq_true (by kernel_rfl)) k1 bel lt1) (trodAll_cons_mk (shut_string Try.underlying9 w2) trodAll_mk0))), rfl, bel.frame _, fun h => by cases h⟩

theorem over : Rows.fnSkipSpaceSkipsBuiltBlankRow.holds Try.pinned (OpenSpec.ofChange Rows.fnSkipSpaceSkipsBuiltBlankSpec) :=
  OpenClaim.holds_of_wide 5 Try.f5 rfl rfl rfl rfl rfl rfl rfl ⟨rfl, rfl, rfl, rfl, rfl⟩ rfl rfl rfl rfl rfl (by kernel_rfl) Try.func5 (by kernel_rfl)
    (of_decide_eq_true (by kernel_rfl)) (by unfold Func.isWrapper; first | (rw [if_pos (by decide +kernel)]; kernel_rfl) | (rw [if_neg (by decide +kernel)]; exact ⟨rfl, rfl⟩))
    (fun os started H enc _ => lifted os started H enc)

/-- The statement. -/
theorem proved : Rows.FnSkipSpaceSkipsBuiltBlankSaid :=
  over
end Go.Proofs.Qxb6601006a.fnSkipSpaceSkipsBuiltBlank
