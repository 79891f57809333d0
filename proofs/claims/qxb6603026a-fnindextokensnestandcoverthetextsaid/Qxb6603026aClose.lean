/-
  Seat b6603026a: the forms of the two lists, and what the store of an end does.
-/
import Derived.Test.Qxb6603026aState
namespace Go.Proofs.Qxb6603026a
open Go.RowKit Gram

section
variable {W : World} {P rb ro n cap : Nat} {raw : List Int} {w : World} {pos : Nat} {sv ev : Value} {T : List (Int × Int)}

theorem PS.svform (h : PS W P rb ro n cap w pos sv ev T) : ∃ a c, sv = .slice a T.length c := by
  rcases h.so.2 with ⟨h1, h2⟩ | ⟨g, cp, cur, h1, _⟩
  · exact ⟨none, 0, by rw [h1, h2]⟩
  · exact ⟨_, cp, h1⟩
theorem PS.evform (h : PS W P rb ro n cap w pos sv ev T) (hT : 0 < T.length) : ∃ g c, ev = .slice (some ⟨g, 0, none⟩) T.length c ∧ P < g := by
  rcases h.eo.2 with ⟨h1, h2⟩ | ⟨g, cp, cur, h1, h2, _⟩
  · omega
  · exact ⟨g, cp, h1, h2⟩

theorem PS.drew1 (h : PS W P rb ro n cap w pos sv ev T) : PS W P rb ro n cap w.drew pos sv ev T := h.drewN 1

theorem PS.setEnd {g c : Nat} {a b x : Int} {T1 : List (Int × Int)} {L : Nat} (h : PS W P rb ro n cap w pos sv (.slice (some ⟨g, 0, none⟩) L c) (T ++ (a, b) :: T1)) (hL : L = (T ++ (a, b) :: T1).length) :
    PS W P rb ro n cap (w.setCell ⟨g, T.length, none⟩ (.int .i32 x)) pos sv (.slice (some ⟨g, 0, none⟩) L c) (T ++ (a, x) :: T1) := by
  have hl : (T ++ (a, x) :: T1).length = (T ++ (a, b) :: T1).length := by simp
  have hg : P + 1 ≤ g ∧ g < w.heap.size := h.eo.lt g rfl
  have heo : w.ownsRow (P + 1) 21 1 (.slice (some ⟨g, 0, none⟩) L c) L ((T ++ (a, b) :: T1).map (fun t => Value.int .i32 t.2)) := by have h0 := h.eo; rw [← hL] at h0; exact h0
  have hst := heo.stored T.length (.int .i32 x)
  have hPg : P ≠ g := by omega
  refine ⟨h.below.setCell (by show P ≤ g; omega) _, ?_, ?_, ?_, h.ap, by rw [hl]; exact h.le, h.pn⟩
  · rw [Below.heap_setCell _ _ _ _ hPg]; exact h.blk
  · rw [hl]
    have e : (T ++ (a, x) :: T1).map (fun t => Value.int .i32 t.1) = (T ++ (a, b) :: T1).map (fun t => Value.int .i32 t.1) := by simp
    rw [e]
    refine h.so.kept hst.2 ?_
    rcases h.ap with h1 | h1
    · exact .inl h1
    · exact .inr h1
  · rw [hl, ← hL]
    have e : (T ++ (a, x) :: T1).map (fun t => Value.int .i32 t.2) = ((T ++ (a, b) :: T1).map (fun t => Value.int .i32 t.2)).set T.length (.int .i32 x) := by
      simp only [List.map_append, List.map_cons]
      rw [List.set_append_right _ _ (by simp)]
      simp
    rw [e]
    exact hst.1

theorem PS.endCell {g c L : Nat} {a b : Int} {T1 : List (Int × Int)} (h : PS W P rb ro n cap w pos sv (.slice (some ⟨g, 0, none⟩) L c) (T ++ (a, b) :: T1)) (hL : L = (T ++ (a, b) :: T1).length) :
    w.cell? ⟨g, T.length, none⟩ = some (.int .i32 b) ∧ w.frozen? ⟨g, T.length, none⟩ = false := by
  have heo : w.ownsRow (P + 1) 21 1 (.slice (some ⟨g, 0, none⟩) L c) L ((T ++ (a, b) :: T1).map (fun t => Value.int .i32 t.2)) := by have h0 := h.eo; rw [← hL] at h0; exact h0
  refine ⟨?_, heo.frozenAt _⟩
  rw [heo.cellAt T.length (by rw [hL]; simp)]
  simp

theorem PC.toPS2 {S E : List Int} {pos' b : Int} (h : PC W P rb ro n cap w pos sv ev (S ++ [pos']) (E ++ [b])) (hS : T.map (·.1) = S) (hE : T.map (·.2) = E) (h1 : T.length + 1 ≤ pos) (h2 : pos ≤ n) : PS W P rb ro n cap w pos sv ev (T ++ [(pos', b)]) := by
  subst hS hE
  exact PC.toS (by simpa using h) (by simp; omega) h2

/-- What 'value', 'object' and 'list' leave. -/
def ValPost (W : World) (P rb ro n cap : Nat) (raw : List Int) (pos : Nat) (T : List (Int × Int)) (e : Ending) (w' : World) : Prop :=
  ∃ b, e = .returned (.bool b) ∧ Below P W w' ∧ (b = true → ∃ sv' ev' p T1, PS W P rb ro n cap w' p sv' ev' (T ++ T1) ∧ pos < p ∧ (Follow raw n p → Val raw n pos T.length p T1))

/-- What 'str' leaves. -/
def StrPost (W : World) (P rb ro n cap : Nat) (raw : List Int) (pos : Nat) (T : List (Int × Int)) (e : Ending) (w' : World) : Prop :=
  ∃ b, e = .returned (.bool b) ∧ Below P W w' ∧ (b = true → ∃ sv' ev' r, PS W P rb ro n cap w' (r + 1) sv' ev' (T ++ [((pos : Int), ((r + 1 : Nat) : Int))]) ∧ StrEnd raw n (pos + 1) r)
def SSaid (W : World) (P rb ro n cap : Nat) (raw : List Int) : Prop :=
  ∀ (w : World) (pos : Nat) (sv ev : Value) (T : List (Int × Int)), PS W P rb ro n cap w pos sv ev T → pos < n → Calls Try.prog 42 #[.pointer (some ⟨P, 0, none⟩)] w fun e w' => StrPost W P rb ro n cap raw pos T e w'

/-- 'value' at a depth. -/
def VSaid (W : World) (P rb ro n cap : Nat) (raw : List Int) (d : Nat) : Prop :=
  ∀ (w : World) (pos : Nat) (sv ev : Value) (T : List (Int × Int)), PS W P rb ro n cap w pos sv ev T → Calls Try.prog 34 #[.pointer (some ⟨P, 0, none⟩), .int .i64 (d : Int)] w fun e w' => ValPost W P rb ro n cap raw pos T e w'
end
end Go.Proofs.Qxb6603026a
