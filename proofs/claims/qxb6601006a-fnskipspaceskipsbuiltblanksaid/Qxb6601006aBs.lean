import Derived.Test.Qxb6601006aBf
import Derived.Deep.AppendSrc
namespace Go.Proofs.Qxb6601006a
open Go.RowKit

/-- append's run, the bytes in a string. -/
theorem Buf.runs {L : List UInt8} {w : World} {B n : Nat} (h : Buf L w B n) (t : ByteArray) (hn : L.length + t.size ≤ n) (ty : TypeId) :
    (Builtin.append_ #[23, 9] ty #[.slice (some ⟨B, 0, none⟩) L.length n, .string t]).run Try.prog w = .ok (.slice (some ⟨B, 0, none⟩) (L.length + t.size) n) (w.setCells B L.length (bcells t.data.toList)) := by
  obtain ⟨i0, hi0, hz0, hz1, hz2⟩ := info_parts Try.info5
  have hl : (byteCells t).length = t.size := byteCells_length t
  have hsrc : Src Try.prog i0.size 9 (.string t) t.size (byteCells t) w := by rw [hz1]; exact Src.ofString w Try.underlying9 _
  have := run_append_room_src (P := Try.prog) w 23 9 ty 5 i0 Try.underlying23 hi0 B 0 L.length n (.string t) t.size (byteCells t) hsrc hn (fun j hj => by rw [hz1]; exact h.room _ (by omega)) (fun j hj => by rw [hz1]; exact h.free _ (by omega))
  rw [this, hz1, show 0 + L.length * 1 = L.length from by omega]
  rfl

/-- 'buf = append(buf, t...)' in the walk. -/
theorem wpList_bufs (w : World) {ops : Array Oper} {rest : List Oper} {o : Oper} {a : Act} {Q : Exit → Act → World → Prop}
    (hg : o.guard = none) (x y : Operand) (hop : o.op = Op.call { callee := Callee.builtin Builtin.append, args := #[x, y], argTypes := #[23, 9] })
    {L : List UInt8} {B n k : Nat} {t : ByteArray} (h : Buf L w B n) (hx : a.eval x = .slice (some ⟨B, 0, none⟩) k n) (hy : a.eval y = .string t)
    (hk : k = L.length) (hn : L.length + t.size ≤ n)
    (hK : ∀ w', Buf (L ++ t.data.toList) w' B n → Below B w w' → wpList Try.prog ops Q rest (a.put o.dst (.slice (some ⟨B, 0, none⟩) (k + t.size) n)) w') : wpList Try.prog ops Q (o :: rest) a w := by
  subst hk
  refine wpList_plain hg fun K hK' => ?_
  have hr := h.runs t hn o.type
  have hl : t.data.toList.length = t.size := by rw [Array.length_toList]; rfl
  unfold Oper.wp
  simp [execOp, hop, resolve, invoke, builtin, hx, hy, hr, Result.andThen]
  exact hK' _ _ (hK _ (h.app (by rw [hl]; exact hn)) (below_setCells (Below.refl B w) (Nat.le_refl _) _ _))

end Go.Proofs.Qxb6601006a
