import Derived.Laws.RangeAny
namespace Go.Proofs.Qxb6601006a

/-- The six bytes of space. -/
def isSp (c : UInt8) : Prop := c = 32 ∨ c = 9 ∨ c = 10 ∨ c = 13 ∨ c = 12 ∨ c = 11

/-- blockCommentLen's scan: at depth d, behind the next e bytes the depth is nought. -/
inductive Blk : Nat → List UInt8 → Nat → Prop
  | op {d : Nat} {r : List UInt8} {e : Nat} : Blk (d + 1) r e → Blk d (47 :: 42 :: r) (e + 2)
  | last {r : List UInt8} : Blk 1 (42 :: 47 :: r) 2
  | cl {d : Nat} {r : List UInt8} {e : Nat} : Blk (d + 1) r e → Blk (d + 2) (42 :: 47 :: r) (e + 2)
  | skip {d : Nat} {a b : UInt8} {r : List UInt8} {e : Nat} : ¬ (a = 47 ∧ b = 42) → ¬ (a = 42 ∧ b = 47) → Blk d (b :: r) e → Blk d (a :: b :: r) (e + 1)

/-- The text opens no space and no comment. -/
structure Stop (t : List UInt8) : Prop where
  sp : ∀ c r, t = c :: r → ¬ isSp c
  line : ∀ r, t ≠ 45 :: 45 :: r
  blk : ∀ r, t ≠ 47 :: 42 :: r

/-- skipSpace leaves t of s. -/
inductive Skips : List UInt8 → List UInt8 → Prop
  | done {t : List UInt8} : Stop t → Skips t t
  | sp {c : UInt8} {r t : List UInt8} : isSp c → Skips r t → Skips (c :: r) t
  | line {x : List UInt8} {c : UInt8} {r t : List UInt8} : (∀ b ∈ x, b ≠ 10 ∧ b ≠ 13) → (c = 10 ∨ c = 13) → Skips (c :: r) t → Skips (45 :: 45 :: (x ++ c :: r)) t
  | blk {x r t : List UInt8} : Blk 0 (47 :: 42 :: (x ++ r)) (x.length + 2) → Skips r t → Skips (47 :: 42 :: (x ++ r)) t

/-- A text that is skipped whatever follows. -/
def Piece (x : List UInt8) : Prop := ∀ r t, Skips r t → Skips (x ++ r) t

theorem Piece.nil : Piece [] := fun _ _ h => h
theorem Piece.app {x y : List UInt8} (hx : Piece x) (hy : Piece y) : Piece (x ++ y) := fun r t h => by rw [List.append_assoc]; exact hx _ _ (hy _ _ h)
theorem Piece.sp {c : UInt8} (h : isSp c) : Piece [c] := fun _ _ hr => .sp h hr
theorem Piece.line {x : List UInt8} {c : UInt8} (hx : ∀ b ∈ x, b ≠ 10 ∧ b ≠ 13) (hc : c = 10 ∨ c = 13) : Piece ([45, 45] ++ x ++ [c]) := fun r t h => by
  rw [show [45, 45] ++ x ++ [c] ++ r = 45 :: 45 :: (x ++ c :: r) from by simp]
  exact .line hx hc (.sp (by unfold isSp; rcases hc with h | h <;> simp [h]) h)

/-- Text without a slash ahead of a close. -/
theorem Blk.run {d e : Nat} {r : List UInt8} : ∀ {x : List UInt8}, (∀ c ∈ x, c ≠ 47) → Blk d (42 :: 47 :: r) e → Blk d (x ++ 42 :: 47 :: r) (x.length + e)
  | [], _, h => by simpa using h
  | [a], hx, h => by
    have := Blk.skip (a := a) (b := 42) (fun c => hx a (by simp) c.1) (fun c => by simpa using c.2) h
    simpa [Nat.add_comm] using this
  | a :: b :: x, hx, h => by
    have ih := Blk.run (x := b :: x) (fun c hc => hx c (by simp [hc])) h
    have := Blk.skip (a := a) (b := b) (r := x ++ 42 :: 47 :: r) (fun c => hx a (by simp) c.1) (fun c => hx b (by simp) c.2) ih
    simpa [Nat.add_comm, Nat.add_left_comm, Nat.add_assoc] using this

/-- Text without a slash, no star at its end, ahead of an opening. -/
theorem Blk.run2 {d e : Nat} {r : List UInt8} : ∀ {x : List UInt8}, (∀ c ∈ x, c ≠ 47) → (∀ y c, x = y ++ [c] → c ≠ 42) → Blk d (47 :: 42 :: r) e → Blk d (x ++ 47 :: 42 :: r) (x.length + e)
  | [], _, _, h => by simpa using h
  | [a], hx, hl, h => by
    have := Blk.skip (a := a) (b := 47) (fun c => hx a (by simp) c.1) (fun c => hl [] a rfl c.1) h
    simpa [Nat.add_comm] using this
  | a :: b :: x, hx, hl, h => by
    have ih := Blk.run2 (x := b :: x) (fun c hc => hx c (by simp [hc])) (fun y c e => hl (a :: y) c (by rw [e]; rfl)) h
    have := Blk.skip (a := a) (b := b) (r := x ++ 47 :: 42 :: r) (fun c => hx a (by simp) c.1) (fun c => hx b (by simp) c.2) ih
    simpa [Nat.add_comm, Nat.add_left_comm, Nat.add_assoc] using this

theorem Piece.blk {x : List UInt8} (hx : ∀ c ∈ x, c ≠ 47) : Piece ([47, 42] ++ x ++ [42, 47]) := fun r t h => by
  rw [show [47, 42] ++ x ++ [42, 47] ++ r = 47 :: 42 :: ((x ++ [42, 47]) ++ r) from by simp]
  refine .blk ?_ h
  have := Blk.op (Blk.run hx (Blk.last (r := r)))
  simpa [Nat.add_comm, Nat.add_left_comm, Nat.add_assoc] using this

theorem Piece.nest {x y z : List UInt8} (hx : ∀ c ∈ x, c ≠ 47) (hl : ∀ y c, x = y ++ [c] → c ≠ 42) (hy : ∀ c ∈ y, c ≠ 47) (hz : ∀ c ∈ z, c ≠ 47) :
    Piece ([47, 42] ++ x ++ [47, 42] ++ y ++ [42, 47] ++ z ++ [42, 47]) := fun r t h => by
  rw [show [47, 42] ++ x ++ [47, 42] ++ y ++ [42, 47] ++ z ++ [42, 47] ++ r = 47 :: 42 :: ((x ++ 47 :: 42 :: (y ++ 42 :: 47 :: (z ++ [42, 47]))) ++ r) from by simp]
  refine .blk ?_ h
  have := Blk.op (Blk.run2 hx hl (Blk.op (Blk.run hy (Blk.cl (Blk.run hz (Blk.last (r := r)))))))
  simpa [Nat.add_comm, Nat.add_left_comm, Nat.add_assoc] using this

theorem Piece.skips {x t : List UInt8} (h : Piece x) (ht : Stop t) : Skips (x ++ t) t := h t t (.done ht)

end Go.Proofs.Qxb6601006a
