import Derived.Test.Qxb6601006aIdx
import Derived.Test.Qxb6601006aShelf
import Derived.Test.Qxb6601006aW2
import Derived.Lib.IndexAny
namespace Go.Proofs.Qxb6601006a
open Go.RowKit

theorem idxC : IdxC := fun s x c r w hs hl hx hc => by
  refine (idxAny_two (P := Try.prog) Try.lays153 (by kernel_rfl) s 10 13 w (by decide) (by decide) (by omega)).mono ?_
  rintro e w' ⟨rfl, hb⟩
  refine ⟨?_, hb⟩
  rw [hl, Lib.indexAny_hit (i := x.length) (x := c)]
  · intro j y hj hy
    rw [List.getElem?_append_left hj] at hy
    have := hx y (List.mem_of_getElem? hy)
    simp [this.1, this.2]
  · simp
  · rcases hc with rfl | rfl <;> rfl

end Go.Proofs.Qxb6601006a
