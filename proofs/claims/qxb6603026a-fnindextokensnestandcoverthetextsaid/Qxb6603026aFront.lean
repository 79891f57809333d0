/-
  Seat b6603026a: what both laws share: the parser made, the document read, the clone, the two lists of numbers.
-/
import Derived.Test.Qxb6603026aDoc
import Derived.Test.Qxb6603026aStr
import Derived.Test.Qxb6603026aZZ
import Derived.Test.Qxb6603026aClone
namespace Go.Proofs.Qxb6603026a
open Go.RowKit Gram

theorem ownsRow_below {w w' : World} {B : Nat} {e : TypeId} {size : Nat} {v : Value} {n : Nat} {xs : List Value} (h : w.ownsRow B e size v n xs) (hb : Below w.heap.size w w') : w'.ownsRow B e size v n xs := by
  refine ⟨h.1, ?_⟩
  rcases h.2 with h2 | ⟨g, cap, cur, rfl, hg, hh, r⟩
  · exact .inl h2
  · refine .inr ⟨g, cap, cur, rfl, hg, ?_, r⟩
    rw [hb.block g (Array.getElem?_eq_some_iff.1 hh).1]; exact hh

/-- The text as it came in, in the parser's words. -/
theorem ctx_of {w : World} {b off n : Nat} {z : List Int} (hbig : n ≤ 1048576) (hn : n ≤ z.length) (h0 : 0 < n) (hc : ∀ j, j < z.length → w.cell? ⟨b, off + j, none⟩ = some (.int .u8 (z.getD j 0))) (hw : ∀ x ∈ z, (Lit.int .u8 x).wf = true) :
    Ctx w w.heap.size b off n z := by
  refine ⟨World.block_lt_of_cell? w _ (hc 0 (by omega)), hbig, fun k hk => ?_, fun k hk => hc k (by omega)⟩
  have hm : z[k]'(by omega) ∈ z := List.getElem_mem _
  have := bounds_u8 (hw _ hm)
  unfold rd
  rw [List.getD_eq_getElem?_getD, List.getElem?_eq_getElem (by omega), Option.getD_some]
  omega

/-- The parser as it is made. -/
theorem ps_start (w : World) (b off n cap : Nat) : PS w w.heap.size b off n cap (w.alloc (.cells #[.slice (some ⟨b, off, none⟩) n cap, .int .i64 0, .slice none 0 0, .slice none 0 0] 44)) 0 (.slice none 0 0) (.slice none 0 0) [] :=
  ⟨(Below.refl _ _).alloc (Nat.le_refl _) _, heap_alloc_new w _, World.ownsRow_nil _ _ _ _, World.ownsRow_nil _ _ _ _, .inl rfl, Nat.le_refl _, Nat.zero_le _⟩

/-- The clone, in the scanner's words. -/
theorem txt_of {w : World} {B g n : Nat} {z : List Int} (hbig : n ≤ 1048576) (hn : n ≤ z.length) (hb : ∀ k, k < n → 0 ≤ rd z k ∧ rd z k < 256)
    (h : w.ownsRow B 5 1 (.slice (some ⟨g, 0, none⟩) n n) n ((z.take n).map (Value.int .u8))) : Txt g n z w := by
  refine ⟨(h.lt g rfl).2, hbig, hb, fun k hk => ?_⟩
  rw [h.cellAt k (by omega), List.getElem?_map, List.getElem?_take, if_pos hk, List.getElem?_eq_getElem (by omega)]
  unfold rd
  rw [List.getD_eq_getElem?_getD, List.getElem?_eq_getElem (by omega)]
  rfl

theorem str_said {W : World} {P rb ro n cap : Nat} {raw : List Int} (C : Ctx W P rb ro n raw) : SSaid W P rb ro n cap raw := fun _ _ _ _ _ h hl => str_any C h hl

/-- The cell of a token's number in a row of starts or ends. -/
theorem row_cell {w : World} {B g L c : Nat} {T : List (Int × Int)} {f : Int × Int → Int} (h : w.ownsRow B 21 1 (.slice (some ⟨g, 0, none⟩) L c) L (T.map fun t => Value.int .i32 (f t))) (k : Nat) (hk : k < L) : w.cell? ⟨g, k, none⟩ = some (.int .i32 (f (T.getD k (0, 0)))) := by
  have hl : T.length = L := by have := h.1; simpa using this
  rw [h.cellAt k (by omega), List.getElem?_map, List.getElem?_eq_getElem (by omega), List.getD_eq_getElem?_getD, List.getElem?_eq_getElem (by omega)]
  rfl
end Go.Proofs.Qxb6603026a
