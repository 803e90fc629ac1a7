import Derived.Test.Qxb6601006aRows
import Derived.Test.Qxb6601006aPl
import Derived.WalkKit
import Derived.Laws.MakeOwn
import Derived.Laws.BytesArg
import Derived.Laws.IdiomCopy
import Derived.OwnWalk
namespace Go.Proofs.Qxb6601006a
open Go.RowKit

theorem Try.info5 : (Try.prog.info? 5).map (fun i => (i.zero, i.size, i.bytes)) = some (some (.int .u8 0), 1, 1) := by kernel_rfl

/-- Bytes as cells. -/
def bcells (M : List UInt8) : List Value := M.map fun c => .int .u8 c.toNat
theorem bcells_length (M : List UInt8) : (bcells M).length = M.length := by simp [bcells]
theorem bcells_one (M : List UInt8) : ∀ u ∈ bcells M, u.oneCell' = true := fun u hu => by
  obtain ⟨_, _, rfl⟩ := List.mem_map.1 hu
  rfl

/-- The buffer: block B, n cells, none frozen, the first of them hold the bytes L. -/
structure Buf (L : List UInt8) (w : World) (B n : Nat) : Prop where
  room : ∀ j, j < n → (w.cell? ⟨B, j, none⟩).isSome = true
  free : ∀ j, j < n → w.frozen? ⟨B, j, none⟩ = false
  has : ∀ j u, (bcells L)[j]? = some u → w.cell? ⟨B, j, none⟩ = some u
  lt : B < w.heap.size

theorem Buf.below {L : List UInt8} {w w' : World} {B n C : Nat} (h : Buf L w B n) (hb : Below C w w') (hC : B < C) : Buf L w' B n :=
  ⟨fun j hj => by rw [hb.cell (p := ⟨B, j, none⟩) hC]; exact h.room j hj, fun j hj => by rw [hb.frozen (p := ⟨B, j, none⟩) hC]; exact h.free j hj, fun j u hu => by rw [hb.cell (p := ⟨B, j, none⟩) hC]; exact h.has j u hu, Nat.lt_of_lt_of_le h.lt hb.size⟩

theorem Buf.alloc {L : List UInt8} {w : World} {B n : Nat} (h : Buf L w B n) (o : Obj) : Buf L (w.alloc o) B n :=
  h.below ((Below.refl w.heap.size w).alloc (Nat.le_refl _) o) h.lt

theorem Buf.start (w : World) (n : Nat) (e : TypeId) : Buf [] (w.alloc (.cells (madeCells #[.int .u8 0] n) e)) w.heap.size n := by
  refine ⟨fun j hj => ?_, fun j hj => ?_, fun j u hu => by simp [bcells] at hu, by simp⟩
  · rw [World.cell?_alloc_at _ _ _ _ rfl]
    simp [madeCells, hj]
  · simp

theorem below_setCells {C B : Nat} {a w : World} (h : Below C a w) (hC : C ≤ B) : ∀ (vs : List Value) (o : Nat), Below C a (w.setCells B o vs) := by
  intro vs
  induction vs generalizing w with
  | nil => intro o; exact h
  | cons v vs ih => intro o; exact ih (h.setCell (p := ⟨B, o, none⟩) hC v) _

theorem Buf.app {L M : List UInt8} {w : World} {B n : Nat} (h : Buf L w B n) (hn : L.length + M.length ≤ n) : Buf (L ++ M) (w.setCells B L.length (bcells M)) B n := by
  have hl := bcells_length M
  have hin := World.cell?_setCells_in B (bcells M) L.length w (fun j hj => h.room _ (by omega))
  have hO : ∀ j, (j < L.length ∨ L.length + M.length ≤ j) → (w.setCells B L.length (bcells M)).cell? ⟨B, j, none⟩ = w.cell? ⟨B, j, none⟩ := by
    intro j hj
    exact World.cell?_setCells_out B _ _ _ _ (fun _ _ => by simp only; omega)
  have hI : ∀ j (hj : j < (bcells M).length), (w.setCells B L.length (bcells M)).cell? ⟨B, L.length + j, none⟩ = some ((bcells M)[j]) := fun j hj => hin j hj
  refine ⟨fun j hj => ?_, fun j hj => by rw [World.frozen?_setCells]; exact h.free j hj, fun j u hu => ?_, Nat.lt_of_lt_of_le h.lt (below_setCells (Below.refl B w) (Nat.le_refl _) _ _).size⟩
  · by_cases hc : L.length ≤ j ∧ j < L.length + M.length
    · have := hI (j - L.length) (by omega)
      rw [show L.length + (j - L.length) = j from by omega] at this
      rw [this]; rfl
    · rw [hO j (by omega)]; exact h.room j hj
  · have hu' : (bcells L ++ bcells M)[j]? = some u := by simpa [bcells] using hu
    have hlt : j < L.length + M.length := by
      have := (List.getElem?_eq_some_iff.1 hu').1
      simpa [bcells_length] using this
    by_cases hc : L.length ≤ j
    · have := hI (j - L.length) (by omega)
      rw [show L.length + (j - L.length) = j from by omega] at this
      rw [this]
      rw [List.getElem?_append_right (by rw [bcells_length]; exact hc), bcells_length] at hu'
      rw [← List.getElem?_eq_getElem]; exact hu'
    · rw [hO j (by omega)]
      rw [List.getElem?_append_left (by rw [bcells_length]; omega)] at hu'
      exact h.has j u hu'

theorem Buf.take {L : List UInt8} {c : UInt8} {w : World} {B n : Nat} (h : Buf (L ++ [c]) w B n) : Buf L w B n :=
  ⟨h.room, h.free, fun j u hu => h.has j u (by
    have : bcells (L ++ [c]) = bcells L ++ bcells [c] := by simp [bcells]
    rw [this, List.getElem?_append_left (List.getElem?_eq_some_iff.1 hu).1]
    exact hu), h.lt⟩

theorem Buf.last {L : List UInt8} {c : UInt8} {w : World} {B n : Nat} (h : Buf (L ++ [c]) w B n) : w.cell? ⟨B, L.length, none⟩ = some (.int .u8 c.toNat) :=
  h.has L.length _ (by simp [bcells])

/-- append's run, the bytes in a slice. -/
theorem Buf.run {L M : List UInt8} {w : World} {B n : Nat} (h : Buf L w B n) (hn : L.length + M.length ≤ n) (ad : Addr) (c : Nat) (hc : ∀ j u, (bcells M)[j]? = some u → w.cell? (ad.add j) = some u) (ty : TypeId) :
    (Builtin.append_ #[23, 23] ty #[.slice (some ⟨B, 0, none⟩) L.length n, .slice (some ad) M.length c]).run Try.prog w = .ok (.slice (some ⟨B, 0, none⟩) (L.length + M.length) n) (w.setCells B L.length (bcells M)) := by
  obtain ⟨i0, hi0, hz0, hz1, hz2⟩ := info_parts Try.info5
  have hl := bcells_length M
  have := run_append_room_cells (P := Try.prog) w 23 ty 5 i0 Try.underlying23 hi0 B 0 L.length n ad M.length c (bcells M) (by rw [hz1]; omega) hc (bcells_one M) hn (fun j hj => by rw [hz1]; exact h.room _ (by omega)) (fun j hj => by rw [hz1]; exact h.free _ (by omega))
  rw [this, hz1, show 0 + L.length * 1 = L.length from by omega]

/-- 'buf = append(buf, ..)' in the walk. -/
theorem wpList_buf (w : World) {ops : Array Oper} {rest : List Oper} {o : Oper} {a : Act} {Q : Exit → Act → World → Prop}
    (hg : o.guard = none) (x y : Operand) (hop : o.op = Op.call { callee := Callee.builtin Builtin.append, args := #[x, y], argTypes := #[23, 23] })
    {L : List UInt8} (M : List UInt8) {B n k m c : Nat} {ad : Addr} (h : Buf L w B n) (hx : a.eval x = .slice (some ⟨B, 0, none⟩) k n) (hy : a.eval y = .slice (some ad) m c)
    (hk : k = L.length) (hm : m = M.length) (hn : L.length + M.length ≤ n) (hc : ∀ j u, (bcells M)[j]? = some u → w.cell? (ad.add j) = some u)
    (hK : ∀ w', Buf (L ++ M) w' B n → Below B w w' → wpList Try.prog ops Q rest (a.put o.dst (.slice (some ⟨B, 0, none⟩) (k + m) n)) w') : wpList Try.prog ops Q (o :: rest) a w := by
  subst hk hm
  refine wpList_plain hg fun K hK' => ?_
  have hr := h.run hn ad c hc o.type
  unfold Oper.wp
  simp [execOp, hop, resolve, invoke, builtin, hx, hy, hr, Result.andThen]
  exact hK' _ _ (hK _ (h.app hn) (below_setCells (Below.refl B w) (Nat.le_refl _) _ _))

/-- The cells of a slice that was just laid. -/
theorem cells_new (w : World) (M : List UInt8) (cs : Array Value) (e : TypeId) (h : cs.toList = bcells M) : ∀ j u, (bcells M)[j]? = some u → (w.alloc (.cells cs e)).cell? ((⟨w.heap.size, 0, none⟩ : Addr).add j) = some u := by
  intro j u hu
  rw [← h, Array.getElem?_toList] at hu
  have : (⟨w.heap.size, 0, none⟩ : Addr).add j = ⟨w.heap.size, j, none⟩ := by simp [Addr.add]; exact fun h => h.symm
  rw [this, World.cell?_alloc_at _ _ _ _ rfl]
  exact hu

/-- string(buf). -/
theorem Buf.conv {L : List UInt8} {w : World} {B n : Nat} (h : Buf L w B n) : (convert 23 9 (.slice (some ⟨B, 0, none⟩) L.length n)).run Try.prog w = .ok (.string ⟨L.toArray⟩) w := by
  have := run_convert_bytes_arg (P := Try.prog) w 23 5 Try.underlying23 Try.underlying5 B 0 L.length n (L.map fun b => (b.toNat : Int)) (by simp) (fun j hj => by
    rw [Nat.zero_add]
    refine h.has j _ ?_
    simp [bcells, List.getD, hj]) 9 Try.underlying9
  rw [this]
  congr 2
  apply ByteArray.ext
  apply Array.ext'
  rw [strOfNums_data, List.map_map]
  conv => rhs; rw [← List.map_id L]
  apply List.map_congr_left
  intro a _
  simp

end Go.Proofs.Qxb6601006a
