import Derived.Test.Qxb6600360aW1
import Derived.Deep.LoopGhost
import Derived.Deep.AppendSrc
import Derived.Laws.MakeOwn
import Derived.Laws.BytesArg
import Derived.Laws.IdiomCopy
import Derived.OwnWalk
namespace Go.Proofs.Qxb6600360a
open Go.RowKit

theorem spB_eq (s : ByteArray) (j : Nat) (h : j < s.size) : spB s j = ((((s[j]'h).toNat : Int) == 92) || (((s[j]'h).toNat : Int) == 38)) := by
  have hx : s.data.toList[j]? = some (s[j]'h) := by
    have h' : j < s.data.size := h
    rw [Array.getElem?_toList, Array.getElem?_eq_getElem h']; rfl
  unfold spB
  rw [hx]
  generalize s[j]'h = x
  rw [Bool.eq_iff_iff]
  simp [← UInt8.toNat_inj]
  omega

/-- How many of the places 1 .. k-1 are special. -/
def cnt (s : ByteArray) : Nat → Nat
  | 0 => 0
  | k + 1 => cnt s k + (if 1 ≤ k ∧ spB s k = true then 1 else 0)

theorem cnt_le (s : ByteArray) : ∀ k, cnt s k ≤ k
  | 0 => Nat.le_refl _
  | k + 1 => by have := cnt_le s k; unfold cnt; split <;> omega

theorem cnt_same (s : ByteArray) (i : Nat) : ∀ e, i + 1 ≤ e → (∀ j, i < j → j < e → spB s j = false) → cnt s e = cnt s (i + 1)
  | 0, h, _ => by omega
  | e + 1, h, hn => by
    by_cases he : e = i
    · rw [he]
    · rw [← cnt_same s i e (by omega) (fun j h1 h2 => hn j h1 (by omega)), cnt, if_neg (by rw [hn e (by omega) (by omega)]; simp)]
      rfl

/-- What the loop over the pieces keeps: i is where the next piece begins, p how many pieces have been read. -/
def Pcs (s : ByteArray) (i p : Nat) : Prop := (i = 0 ∧ p = 0) ∨ (0 < i ∧ i ≤ s.size ∧ p = 1 + cnt s i ∧ (i = s.size ∨ spB s i = true))

theorem Pcs.le {s : ByteArray} {i p : Nat} (h : Pcs s i p) : i ≤ s.size ∧ p ≤ 1 + i := by
  rcases h with ⟨rfl, rfl⟩ | ⟨h0, h1, h2, _⟩
  · exact ⟨by omega, by omega⟩
  · have := cnt_le s i; exact ⟨h1, by omega⟩

theorem Pcs.step {s : ByteArray} {i p e : Nat} (h : Pcs s i p) (hi : i < s.size) (hE : Ends s i e) : Pcs s e (p + 1) := by
  obtain ⟨e1, e2, e3, e4⟩ := hE
  refine .inr ⟨by omega, e2, ?_, e4⟩
  rw [cnt_same s i e e1 e3, cnt]
  rcases h with ⟨rfl, rfl⟩ | ⟨h0, h1, h2, h3⟩
  · simp [cnt]
  · have : spB s i = true := by rcases h3 with h3 | h3; omega; exact h3
    rw [if_pos ⟨h0, this⟩, h2]; omega

theorem Pcs.done {s : ByteArray} {p : Nat} (h : Pcs s s.size p) : p = if 0 < s.size then 1 + cnt s s.size else 0 := by
  rcases h with ⟨h0, rfl⟩ | ⟨h0, _, h2, _⟩
  · rw [if_neg (by omega)]
  · rw [if_pos h0, h2]

theorem Pcs.sp {s : ByteArray} {i p : Nat} (h : Pcs s i p) (hi : i < s.size) (h0 : 0 < i) : (((s[i]'hi).toNat : Int) = 92) ∨ (((s[i]'hi).toNat : Int) = 38) := by
  rcases h with ⟨h0, rfl⟩ | ⟨h0, _, h2, h3⟩
  · omega
  · have : spB s i = true := by rcases h3 with h3 | h3; omega; exact h3
    rw [spB_eq s i hi] at this
    simpa using this

/-- The buffer: block B, n cells, none frozen, the first i of them the text's first i bytes. -/
structure Buf (s : ByteArray) (w : World) (B n i : Nat) : Prop where
  room : ∀ j, j < n → (w.cell? ⟨B, j, none⟩).isSome = true
  free : ∀ j, j < n → w.frozen? ⟨B, j, none⟩ = false
  has : ∀ j (h : j < s.size), j < i → w.cell? ⟨B, j, none⟩ = some (.int .u8 (s[j]'h).toNat)

theorem Buf.below {s : ByteArray} {w w' : World} {B n i C : Nat} (h : Buf s w B n i) (hb : Below C w w') (hC : B < C) : Buf s w' B n i :=
  ⟨fun j hj => by rw [hb.cell (p := ⟨B, j, none⟩) hC]; exact h.room j hj, fun j hj => by rw [hb.frozen (p := ⟨B, j, none⟩) hC]; exact h.free j hj, fun j hs hj => by rw [hb.cell (p := ⟨B, j, none⟩) hC]; exact h.has j hs hj⟩

theorem Buf.start (s : ByteArray) (w : World) (n : Nat) (e : TypeId) : Buf s (w.alloc (.cells (madeCells #[.int .u8 0] n) e)) w.heap.size n 0 := by
  refine ⟨fun j hj => ?_, fun j hj => ?_, fun j _ hj => by omega⟩
  · rw [World.cell?_alloc_at _ _ _ _ rfl]
    simp [madeCells, hj]
  · simp

theorem size_ext (s : ByteArray) (i e : Nat) (he : e ≤ s.size) : (s.extract i e).size = e - i := by simp; omega

theorem byteCells_at (s : ByteArray) (i e j : Nat) (hj : i ≤ j) (hje : j < e) (he : e ≤ s.size) : (byteCells (s.extract i e))[j - i]? = some (.int .u8 (s[j]'(by omega)).toNat) := by
  have h' : j < s.data.size := by show j < s.size; omega
  unfold byteCells
  rw [List.getElem?_map, ByteArray.data_extract, Array.toList_extract, List.extract_eq_take_drop, List.getElem?_take, List.getElem?_drop, if_pos (by omega), show i + (j - i) = j from by omega, Array.getElem?_toList, Array.getElem?_eq_getElem h']
  rfl

theorem Buf.append {s : ByteArray} {w : World} {B i e : Nat} (h : Buf s w B s.size i) (hi : i ≤ e) (he : e ≤ s.size) : Buf s (w.setCells B i (byteCells (s.extract i e))) B s.size e := by
  have hl : (byteCells (s.extract i e)).length = e - i := by rw [byteCells_length, size_ext s i e he]
  have hin := World.cell?_setCells_in B (byteCells (s.extract i e)) i w (fun j hj => h.room _ (by omega))
  have hA : ∀ j (hs : j < s.size), i ≤ j → j < e → (w.setCells B i (byteCells (s.extract i e))).cell? ⟨B, j, none⟩ = some (.int .u8 (s[j]'hs).toNat) := by
    intro j hs h1 h2
    have := hin (j - i) (by omega)
    rw [show i + (j - i) = j from by omega] at this
    rw [this, ← List.getElem?_eq_getElem, byteCells_at s i e j h1 h2 he]
  have hO : ∀ j, (j < i ∨ e ≤ j) → (w.setCells B i (byteCells (s.extract i e))).cell? ⟨B, j, none⟩ = w.cell? ⟨B, j, none⟩ := by
    intro j hj
    exact World.cell?_setCells_out B _ _ _ _ (fun _ _ => by simp only; omega)
  refine ⟨fun j hj => ?_, fun j hj => by rw [World.frozen?_setCells]; exact h.free j hj, fun j hs hj => ?_⟩
  · by_cases hc : i ≤ j ∧ j < e
    · rw [hA j hj hc.1 hc.2]; rfl
    · rw [hO j (by omega)]; exact h.room j hj
  · by_cases hc : i ≤ j
    · exact hA j hs hc hj
    · rw [hO j (by omega)]; exact h.has j hs (by omega)

theorem strOf_all (s : ByteArray) : strOfNums (s.data.toList.map fun b => (b.toNat : Int)) = s := by
  apply ByteArray.ext
  apply Array.ext'
  rw [strOfNums_data, List.map_map]
  conv => rhs; rw [← List.map_id s.data.toList]
  apply List.map_congr_left
  intro a _
  simp

theorem conv_all {w : World} (s : ByteArray) (B : Nat) (h : Buf s w B s.size s.size) : (convert 26 9 (.slice (some ⟨B, 0, none⟩) s.size s.size)).run Try.prog w = .ok (.string s) w := by
  have := run_convert_bytes_arg (P := Try.prog) w 26 5 Try.underlying26 Try.underlying5 B 0 s.size s.size (s.data.toList.map fun b => (b.toNat : Int)) (by simp) (fun j hj => by
    rw [Nat.zero_add, h.has j hj hj]
    have h' : j < s.data.size := hj
    simp [List.getD, Array.getElem?_eq_getElem h']; rfl) 9 Try.underlying9
  rw [this, strOf_all]

theorem below_setCells {C B : Nat} {a w : World} (h : Below C a w) (hC : C ≤ B) : ∀ (vs : List Value) (o : Nat), Below C a (w.setCells B o vs) := by
  intro vs
  induction vs generalizing w with
  | nil => intro o; exact h
  | cons v vs ih => intro o; exact ih (h.setCell (p := ⟨B, o, none⟩) hC v) _

end Go.Proofs.Qxb6600360a
