/-
  Seat b6603026a: what the two appends and the store through the index do to the parser's state.
-/
import Derived.Test.Qxb6603026aDigits
import Derived.Deep.DeepCutAuto
namespace Go.Proofs.Qxb6603026a
open Go.RowKit Gram

/-- The state with the two lists apart (between the two appends). -/
structure PC (W : World) (P rb ro n cap : Nat) (w : World) (pos : Nat) (sv ev : Value) (S E : List Int) : Prop where
  below : Below P W w
  blk : w.heap[P]? = some (.cells #[.slice (some ⟨rb, ro, none⟩) n cap, .int .i64 (pos : Int), sv, ev] 44 (0, 0))
  so : w.ownsRow (P + 1) 21 1 sv S.length (S.map (Value.int .i32))
  eo : w.ownsRow (P + 1) 21 1 ev E.length (E.map (Value.int .i32))
  ap : sv.ownBlock = none ∨ sv.ownBlock ≠ ev.ownBlock

section
variable {W : World} {P rb ro n cap : Nat} {raw : List Int} {w w1 : World} {pos : Nat} {sv ev : Value} {T : List (Int × Int)} {S E : List Int}

theorem PS.toC (h : PS W P rb ro n cap w pos sv ev T) : PC W P rb ro n cap w pos sv ev (T.map (·.1)) (T.map (·.2)) :=
  ⟨h.below, h.blk, by simpa [Function.comp_def] using h.so, by simpa [Function.comp_def] using h.eo, h.ap⟩
theorem PC.toS (h : PC W P rb ro n cap w pos sv ev (T.map (·.1)) (T.map (·.2))) (h1 : T.length ≤ pos) (h2 : pos ≤ n) : PS W P rb ro n cap w pos sv ev T :=
  ⟨h.below, h.blk, by simpa [Function.comp_def] using h.so, by simpa [Function.comp_def] using h.eo, h.ap, h1, h2⟩

theorem PC.lt (h : PC W P rb ro n cap w pos sv ev S E) : P < w.heap.size := (Array.getElem?_eq_some_iff.1 h.blk).1
theorem PC.c0 (h : PC W P rb ro n cap w pos sv ev S E) : w.cell? ⟨P, 0, none⟩ = some (.slice (some ⟨rb, ro, none⟩) n cap) := by rw [cell_of_row w P 0 _ _ _ h.blk]; rfl
theorem PC.c1 (h : PC W P rb ro n cap w pos sv ev S E) : w.cell? ⟨P, 1, none⟩ = some (.int .i64 (pos : Int)) := by rw [cell_of_row w P 1 _ _ _ h.blk]; rfl
theorem PC.c2 (h : PC W P rb ro n cap w pos sv ev S E) : w.cell? ⟨P, 2, none⟩ = some sv := by rw [cell_of_row w P 2 _ _ _ h.blk]; rfl
theorem PC.c3 (h : PC W P rb ro n cap w pos sv ev S E) : w.cell? ⟨P, 3, none⟩ = some ev := by rw [cell_of_row w P 3 _ _ _ h.blk]; rfl
theorem PC.fz (h : PC W P rb ro n cap w pos sv ev S E) (j : Nat) : w.frozen? ⟨P, j, none⟩ = false := frozen_of_row w P j _ _ h.blk

theorem PC.alloc (h : PC W P rb ro n cap w pos sv ev S E) (o : Obj) : PC W P rb ro n cap (w.alloc o) pos sv ev S E := by
  refine ⟨h.below.alloc (Nat.le_of_lt h.lt) o, ?_, h.so.alloc o, h.eo.alloc o, h.ap⟩
  rw [Below.heap_alloc _ _ _ h.lt]; exact h.blk
theorem PC.drew (h : PC W P rb ro n cap w pos sv ev S E) : PC W P rb ro n cap w.drew pos sv ev S E :=
  ⟨h.below.drew, h.blk, h.so, h.eo, h.ap⟩
theorem PC.drewN (h : PC W P rb ro n cap w pos sv ev S E) (q : Nat) : PC W P rb ro n cap (w.drewN q) pos sv ev S E :=
  ⟨⟨h.below.os, h.below.tape, h.below.output, h.below.size, h.below.block⟩, h.blk, h.so, h.eo, h.ap⟩
theorem PC.setPos (h : PC W P rb ro n cap w pos sv ev S E) (pos' : Nat) (x : Int) (hx : x = (pos' : Int)) : PC W P rb ro n cap (w.setCell ⟨P, 1, none⟩ (.int .i64 x)) pos' sv ev S E := by
  subst hx
  refine ⟨h.below.setCell (Nat.le_refl _) _, ?_, ownsRow_setCell_below h.so (by simp) _, ownsRow_setCell_below h.eo (by simp) _, h.ap⟩
  rw [heap_setCell_same w P 1 _ 44 _ h.blk]; rfl

theorem own_ne {base : Nat} {v : Value} {m : Nat} {xs : List Value} (h : w.ownsRow base 21 1 v m xs) {k : Nat} (hk : k < base) : some k ≠ v.ownBlock := by
  intro e
  have := (h.lt k e.symm).1
  omega

/-- The parser's own block, behind an append to the starts. -/
theorem PC.blkS (h : PC W P rb ro n cap w pos sv ev S E) (hg : w.grownBy w1 sv.ownBlock) : w1.heap[P]? = some (.cells #[.slice (some ⟨rb, ro, none⟩) n cap, .int .i64 (pos : Int), sv, ev] 44 (0, 0)) := by
  rw [hg.block P h.lt (own_ne h.so (by omega))]; exact h.blk
theorem PC.blkE (h : PC W P rb ro n cap w pos sv ev S E) (hg : w.grownBy w1 ev.ownBlock) : w1.heap[P]? = some (.cells #[.slice (some ⟨rb, ro, none⟩) n cap, .int .i64 (pos : Int), sv, ev] 44 (0, 0)) := by
  rw [hg.block P h.lt (own_ne h.eo (by omega))]; exact h.blk
theorem blk_c {vs : Array Value} (h : w.heap[P]? = some (.cells vs 44 (0, 0))) (j : Nat) : w.cell? ⟨P, j, none⟩ = vs[j]? := cell_of_row w P j _ _ _ h
theorem blk_f {vs : Array Value} (h : w.heap[P]? = some (.cells vs 44 (0, 0))) (j : Nat) : w.frozen? ⟨P, j, none⟩ = false := frozen_of_row w P j _ _ h

theorem PC.appendS (h : PC W P rb ro n cap w pos sv ev S E) {g cp : Nat} {x : Int} {H : Nat} (hH : w.heap.size = H) (hown : w1.ownsRow (P + 1) 21 1 (.slice (some ⟨g, 0, none⟩) (S.length + 1) cp) (S.length + 1) (S.map (Value.int .i32) ++ [.int .i32 x]))
    (hg : w.grownBy w1 sv.ownBlock) (hat : sv.ownBlock = some g ∨ g = H) :
    PC W P rb ro n cap (w1.setCell ⟨P, 2, none⟩ (.slice (some ⟨g, 0, none⟩) (S.length + 1) cp)) pos (.slice (some ⟨g, 0, none⟩) (S.length + 1) cp) ev (S ++ [x]) E := by
  have hb1 : Below P W w1 := h.below.grown hg (Nat.le_of_lt h.lt) (fun k hk => by have := (h.so.lt k hk).1; omega)
  refine ⟨hb1.setCell (Nat.le_refl _) _, ?_, ?_, ?_, ?_⟩
  · rw [heap_setCell_same w1 P 2 _ 44 _ (h.blkS hg)]; rfl
  · rw [List.length_append]; exact ownsRow_setCell_below (by simpa using hown) (by simp) _
  · refine ownsRow_setCell_below (h.eo.kept hg ?_) (by simp) _
    rcases h.ap with h1 | h1
    · cases he : ev.ownBlock with
      | none => exact .inl rfl
      | some k => exact .inr (by rw [h1]; simp)
    · exact .inr (Ne.symm h1)
  · right
    show some g ≠ ev.ownBlock
    intro e
    have hk := (h.eo.lt g e.symm).2
    rcases hat with h1 | h1
    · rcases h.ap with h2 | h2
      · rw [h2] at h1; cases h1
      · exact h2 (h1.trans e)
    · omega

theorem PC.appendE (h : PC W P rb ro n cap w pos sv ev S E) {g cp : Nat} {x : Int} {H : Nat} (hH : w.heap.size = H) (hown : w1.ownsRow (P + 1) 21 1 (.slice (some ⟨g, 0, none⟩) (E.length + 1) cp) (E.length + 1) (E.map (Value.int .i32) ++ [.int .i32 x]))
    (hg : w.grownBy w1 ev.ownBlock) (hat : ev.ownBlock = some g ∨ g = H) :
    PC W P rb ro n cap (w1.setCell ⟨P, 3, none⟩ (.slice (some ⟨g, 0, none⟩) (E.length + 1) cp)) pos sv (.slice (some ⟨g, 0, none⟩) (E.length + 1) cp) S (E ++ [x]) := by
  have hb1 : Below P W w1 := h.below.grown hg (Nat.le_of_lt h.lt) (fun k hk => by have := (h.eo.lt k hk).1; omega)
  refine ⟨hb1.setCell (Nat.le_refl _) _, ?_, ?_, ?_, ?_⟩
  · rw [heap_setCell_same w1 P 3 _ 44 _ (h.blkE hg)]; rfl
  · refine ownsRow_setCell_below (h.so.kept hg ?_) (by simp) _
    rcases h.ap with h1 | h1
    · exact .inl h1
    · exact .inr h1
  · rw [List.length_append]; exact ownsRow_setCell_below (by simpa using hown) (by simp) _
  · show sv.ownBlock = none ∨ sv.ownBlock ≠ some g
    cases hs : sv.ownBlock with
    | none => exact .inl rfl
    | some k =>
      right
      intro e
      have hk := (h.so.lt k hs).2
      have e' : k = g := Option.some.inj e
      subst e'
      rcases hat with h1 | h1
      · rcases h.ap with h2 | h2
        · rw [hs] at h2; cases h2
        · exact h2 (hs.trans h1.symm)
      · omega
end
end Go.Proofs.Qxb6603026a
