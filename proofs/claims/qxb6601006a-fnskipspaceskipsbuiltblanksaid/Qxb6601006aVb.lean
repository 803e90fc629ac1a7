import Derived.Test.Qxb6601006aW3
namespace Go.Proofs.Qxb6601006a
open Go.RowKit

theorem Try.info9 : (Try.prog.info? 9).map (fun i => (i.zero, i.size, i.bytes)) = some (some (.string ⟨#[]⟩), 1, 16) := by kernel_rfl

/-- A new row: block B, n cells, none frozen, the first of them hold vs. -/
structure VBuf (vs : List Value) (w : World) (B n : Nat) : Prop where
  room : ∀ j, j < n → ∃ v, w.cell? ⟨B, j, none⟩ = some v
  free : ∀ j, j < n → w.frozen? ⟨B, j, none⟩ = false
  has : ∀ j u, vs[j]? = some u → w.cell? ⟨B, j, none⟩ = some u
  lt : B < w.heap.size

theorem VBuf.start (w : World) (z : Value) (n : Nat) (e : TypeId) : VBuf [] (w.alloc (.cells (madeCells #[z] n) e)) w.heap.size n := by
  refine ⟨fun j hj => ⟨z, ?_⟩, fun j hj => ?_, fun j u hu => by simp at hu, by simp⟩
  · rw [World.cell?_alloc_at _ _ _ _ rfl]
    simp [madeCells, hj, Nat.mod_one]
  · simp

theorem VBuf.store {vs : List Value} {w : World} {B n : Nat} (h : VBuf vs w B n) (hn : vs.length < n) (u : Value) : VBuf (vs ++ [u]) (w.setCell ⟨B, vs.length, none⟩ u) B n := by
  obtain ⟨v, hv⟩ := h.room _ hn
  have hsame : (w.setCell ⟨B, vs.length, none⟩ u).cell? ⟨B, vs.length, none⟩ = some u := World.cell?_setCell_same _ _ _ hv
  have hoth : ∀ j, j ≠ vs.length → (w.setCell ⟨B, vs.length, none⟩ u).cell? ⟨B, j, none⟩ = w.cell? ⟨B, j, none⟩ := fun j hj => World.cell?_setCell_other _ _ _ _ (by intro e; injection e with _ e _; exact hj e.symm)
  refine ⟨fun j hj => ?_, fun j hj => by simpa using h.free j hj, fun j x hx => ?_, Nat.lt_of_lt_of_le h.lt ((Below.refl B w).setCell (p := ⟨B, vs.length, none⟩) (Nat.le_refl _) _).size⟩
  · by_cases hc : j = vs.length
    · subst hc; exact ⟨u, hsame⟩
    · obtain ⟨x, hx⟩ := h.room j hj
      exact ⟨x, by rw [hoth j hc]; exact hx⟩
  · by_cases hc : j = vs.length
    · subst hc
      rw [List.getElem?_append_right (Nat.le_refl _)] at hx
      simp at hx
      rw [hsame, hx]
    · rw [hoth j hc]
      refine h.has j x ?_
      rw [← hx, List.getElem?_append]
      have := (List.getElem?_eq_some_iff.1 hx).1
      simp at this
      rw [if_pos (by omega)]

theorem VBuf.row {vs : List Value} {w : World} {B n K : Nat} (h : VBuf vs w B n) (hK : B < K) : Row vs w (some ⟨B, 0, none⟩) K :=
  ⟨fun e => (by cases e), fun j u hu => ⟨⟨B, 0, none⟩, rfl, hK, by rw [Addr.add_lit, Nat.zero_add]; exact h.has j u hu⟩⟩

theorem scells_take {ss : List ByteArray} {i : Nat} (h : i < ss.length) : scells (ss.take (i + 1)) = scells (ss.take i) ++ [.string ss[i]] := by
  unfold scells
  rw [List.take_add_one, List.getElem?_eq_getElem h, List.map_append]
  rfl

theorem bcells_take {ks : List UInt8} {i : Nat} (h : i < ks.length) : bcells (ks.take (i + 1)) = bcells (ks.take i) ++ [.int .u8 (ks[i].toNat : Int)] := by
  unfold bcells
  rw [List.take_add_one, List.getElem?_eq_getElem h, List.map_append]
  rfl

end Go.Proofs.Qxb6601006a
