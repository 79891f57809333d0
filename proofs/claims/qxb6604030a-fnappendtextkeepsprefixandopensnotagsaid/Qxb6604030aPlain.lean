/-
  The plain law of the escaped text: lists of numbers alone; nothing of the program.
-/
import Derived.Lib.Bytes
import Derived.Lib.Bytealg
namespace Go.Proofs.Qxb6604030a
namespace Plain

/-- A byte that makes a '<' before it open a tag. -/
def tag (c : Int) : Bool := (decide (97 ≤ c) && decide (c ≤ 122)) || (decide (65 ≤ c) && decide (c ≤ 90)) || c == 47 || c == 33 || c == 63
def nextTag : List Int → Bool
  | [] => false
  | d :: _ => tag d
def lt4 : List Int := [38, 108, 116, 59]
def piece (c : Int) (r : List Int) : List Int := if c = 60 ∧ nextTag r = true then lt4 else [c]
def mdl : List Int → List Int
  | [] => []
  | c :: r => piece c r ++ mdl r

theorem piece_len (c : Int) (r : List Int) : 1 ≤ (piece c r).length ∧ (piece c r).length ≤ 4 := by
  unfold piece; split <;> simp [lt4]
theorem mdl_len (l : List Int) : l.length ≤ (mdl l).length ∧ (mdl l).length ≤ 4 * l.length := by
  induction l with
  | nil => simp [mdl]
  | cons c r ih => have := piece_len c r; simp [mdl]; omega

/-- What stands ahead of the first '<' goes over as it is. -/
theorem mdl_plain (l v : List Int) (hn : (60 : Int) ∉ l) : mdl (l ++ v) = l ++ mdl v := by
  induction l with
  | nil => rfl
  | cons c r ih =>
    have hc : ¬ c = 60 := fun h => hn (by simp [h])
    rw [List.cons_append, mdl, ih (fun h => hn (List.mem_cons_of_mem _ h))]
    unfold piece
    rw [if_neg (by intro h; exact hc h.1)]
    rfl
theorem mdl_none (l : List Int) (hn : (60 : Int) ∉ l) : mdl l = l := by
  have h := mdl_plain l [] hn
  rw [List.append_nil] at h
  rw [h]; simp [mdl]
theorem mdl_last (l : List Int) (hn : (60 : Int) ∉ l) : mdl (l ++ [60]) = l ++ [60] := by
  rw [mdl_plain l [60] hn]
  simp [mdl, piece, nextTag]
theorem mdl_step (l : List Int) (d : Int) (r : List Int) (hn : (60 : Int) ∉ l) : mdl (l ++ 60 :: d :: r) = l ++ (if tag d = true then lt4 else [60]) ++ mdl (d :: r) := by
  rw [mdl_plain l _ hn, mdl, List.append_assoc]
  congr 1
  unfold piece
  simp [nextTag]

/-- The library's search for '<'. -/
theorem index_lt : ∀ (l : List Int), (∀ x ∈ l, 0 ≤ x ∧ x < 256) →
    (Lib.indexByte (Lib.bytesOf l) 60 = -1 ∧ (60 : Int) ∉ l) ∨ ∃ a b, l = a ++ 60 :: b ∧ (60 : Int) ∉ a ∧ Lib.indexByte (Lib.bytesOf l) 60 = (a.length : Int) := by
  intro l
  induction l with
  | nil => intro _; left; exact ⟨rfl, by simp⟩
  | cons c r ih =>
    intro hb
    have hc := hb c (List.mem_cons_self ..)
    by_cases h60 : c = 60
    · subst h60
      right
      exact ⟨[], r, rfl, by simp, by simp [Lib.bytesOf, Lib.indexByte]⟩
    · have hbeq : (UInt8.ofNat c.toNat == 60) = false := by
        rw [beq_eq_false_iff_ne]
        intro h
        have := congrArg UInt8.toNat h
        simp at this
        omega
      have hun : Lib.indexByte (Lib.bytesOf (c :: r)) 60 = if Lib.indexByte (Lib.bytesOf r) 60 == -1 then -1 else Lib.indexByte (Lib.bytesOf r) 60 + 1 := by
        show Lib.indexByte (UInt8.ofNat c.toNat :: Lib.bytesOf r) 60 = _
        rw [Lib.indexByte, hbeq]
        rfl
      rcases ih (fun x hx => hb x (List.mem_cons_of_mem _ hx)) with ⟨h1, h2⟩ | ⟨a, b, h1, h2, h3⟩
      · left
        rw [hun, h1]
        refine ⟨rfl, fun h => ?_⟩
        rcases List.mem_cons.1 h with h | h
        · exact h60 h.symm
        · exact h2 h
      · right
        refine ⟨c :: a, b, by rw [h1]; rfl, fun h => ?_, ?_⟩
        · rcases List.mem_cons.1 h with h | h
          · exact h60 h.symm
          · exact h2 h
        · rw [hun, h3]
          have : ((a.length : Int) == -1) = false := by rw [beq_eq_false_iff_ne]; omega
          rw [this]
          simp

/-- No '<' of the escaped text stands ahead of a byte that starts a tag. -/
def NoTag (l : List Int) : Prop := ∀ j, j + 1 < l.length → l.getD j 0 = 60 → tag (l.getD (j + 1) 0) = false
theorem mdl_head (l : List Int) : nextTag l = false → nextTag (mdl l) = false := by
  cases l with
  | nil => intro _; rfl
  | cons c r =>
    intro h
    unfold mdl piece
    split
    · rfl
    · exact h
theorem noTag_cons {c : Int} {l : List Int} (h : NoTag l) (hc : c = 60 → nextTag l = false) : NoTag (c :: l) := by
  intro j hj h60
  cases j with
  | zero =>
    have := hc (by simpa using h60)
    cases l with
    | nil => simp at hj
    | cons d r => simpa [nextTag] using this
  | succ j => exact h j (by simpa using hj) (by simpa using h60)
theorem mdl_noTag (l : List Int) : NoTag (mdl l) := by
  induction l with
  | nil => intro j hj; simp [mdl] at hj
  | cons c r ih =>
    unfold mdl piece
    split
    · exact noTag_cons (noTag_cons (noTag_cons (noTag_cons ih (fun h => absurd h (by decide))) (fun h => absurd h (by decide))) (fun h => absurd h (by decide))) (fun h => absurd h (by decide))
    · rename_i hn
      refine noTag_cons ih (fun hc => mdl_head r ?_)
      cases hr : nextTag r with
      | false => rfl
      | true => exact absurd ⟨hc, hr⟩ hn

end Plain
end Go.Proofs.Qxb6604030a
