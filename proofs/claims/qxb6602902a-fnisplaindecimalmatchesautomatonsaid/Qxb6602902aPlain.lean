/-
  The plain law of the plain decimal: lists of numbers alone; nothing of the program.
-/
import Derived.Lib.Bytealg
import Derived.Lib.Strings
namespace Go.Proofs.Qxb6602902a
namespace Plain

def dig (x : Int) : Bool := decide (48 ≤ x ∧ x ≤ 57)
def allDig (l : List Int) : Bool := l.all dig && !l.isEmpty
def trim : List Int → List Int
  | [] => []
  | c :: r => if c = 45 then r else c :: r
def cutA : List Int → List Int
  | [] => []
  | c :: r => if c = 46 then [] else c :: cutA r
def cutB : List Int → List Int
  | [] => []
  | c :: r => if c = 46 then r else cutB r
def cutP : List Int → Bool
  | [] => false
  | c :: r => if c = 46 then true else cutP r

/-- The recogniser. -/
def aut : Nat → List Int → Bool
  | st, [] => st == 2 || st == 4
  | st, c :: r =>
    if st = 0 then (if c = 45 then aut 1 r else if dig c = true then aut 2 r else false)
    else if st = 1 then (if dig c = true then aut 2 r else false)
    else if st = 2 then (if c = 46 then aut 3 r else if dig c = true then aut 2 r else false)
    else if st = 3 then (if dig c = true then aut 4 r else false)
    else (if dig c = true then aut st r else false)

theorem aut4 (l : List Int) : aut 4 l = l.all dig := by
  induction l with
  | nil => rfl
  | cons c r ih => cases h : dig c <;> simp [aut, h, ih]

theorem aut3 (l : List Int) : aut 3 l = allDig l := by
  cases l with
  | nil => rfl
  | cons c r => cases h : dig c <;> simp [aut, allDig, h, aut4]

theorem dig46 : dig 46 = false := by decide
theorem dig45 : dig 45 = false := by decide

theorem aut2 (l : List Int) : aut 2 l = ((cutA l).all dig && (!cutP l || allDig (cutB l))) := by
  induction l with
  | nil => rfl
  | cons c r ih =>
    by_cases hc : c = 46
    · subst hc; simp [aut, cutA, cutB, cutP, aut3]
    · cases h : dig c <;> simp [aut, cutA, cutB, cutP, h, hc, ih]

theorem aut1 (l : List Int) : aut 1 l = (allDig (cutA l) && (!cutP l || allDig (cutB l))) := by
  cases l with
  | nil => rfl
  | cons c r =>
    by_cases hc : c = 46
    · subst hc; simp [aut, cutA, allDig, dig46]
    · cases h : dig c <;> simp [aut, cutA, cutB, cutP, h, hc, aut2, allDig]

/-- What isPlainDecimal computes. -/
def plain (l : List Int) : Bool := allDig (cutA (trim l)) && (!cutP (trim l) || allDig (cutB (trim l)))

theorem law (l : List Int) : plain l = aut 0 l := by
  unfold plain
  rw [← aut1]
  cases l with
  | nil => rfl
  | cons c r =>
    by_cases hc : c = 45
    · subst hc; simp [trim, aut]
    · simp [trim, aut, hc]

/-- A string's bytes as numbers. -/
def nums (s : ByteArray) : List Int := s.data.toList.map fun c => (c.toNat : Int)

theorem nums_length (s : ByteArray) : (nums s).length = s.size := by simp [nums]

theorem nums_get (s : ByteArray) (k : Nat) (h : k < s.size) : (nums s).drop k = (s[k].toNat : Int) :: (nums s).drop (k + 1) := by
  have hk : k < (nums s).length := by rw [nums_length]; exact h
  rw [List.drop_eq_getElem_cons hk]
  congr 1
  simp [nums]
  rfl

theorem nums_extract (s : ByteArray) (a b : Nat) : nums (s.extract a b) = ((nums s).drop a).take (b - a) := by
  unfold nums
  rw [Lib.extract_data, List.map_take, List.map_drop]

/-- The library's search for the point, in the cut's words. -/
theorem index_cut (l : List UInt8) :
    (Lib.indexByte l 46 = -1 ∧ cutA (l.map fun c => (c.toNat : Int)) = l.map (fun c => (c.toNat : Int)) ∧ cutP (l.map fun c => (c.toNat : Int)) = false) ∨
    ∃ i : Nat, Lib.indexByte l 46 = (i : Int) ∧ i < l.length ∧ cutA (l.map fun c => (c.toNat : Int)) = (l.map fun c => (c.toNat : Int)).take i ∧
      cutB (l.map fun c => (c.toNat : Int)) = (l.map fun c => (c.toNat : Int)).drop (i + 1) ∧ cutP (l.map fun c => (c.toNat : Int)) = true := by
  induction l with
  | nil => left; exact ⟨rfl, rfl, rfl⟩
  | cons b r ih =>
    by_cases hb : b = 46
    · subst hb
      right
      exact ⟨0, by simp [Lib.indexByte], by simp, by simp [cutA], by simp [cutB], by simp [cutP]⟩
    · have hne : ¬ ((b.toNat : Int) = 46) := by
        intro h
        apply hb
        apply UInt8.toNat_inj.1
        simp
        omega
      have hbeq : (b == 46) = false := by simpa using hb
      rcases ih with ⟨h1, h2, h3⟩ | ⟨i, h1, h2, h3, h4, h5⟩
      · left
        refine ⟨by simp [Lib.indexByte, hbeq, h1], ?_, ?_⟩
        · simp only [List.map_cons, cutA, if_neg hne, h2]
        · simp only [List.map_cons, cutP, if_neg hne, h3]
      · right
        refine ⟨i + 1, ?_, by simp; omega, ?_, ?_, ?_⟩
        · unfold Lib.indexByte
          rw [hbeq, h1]
          have : ((i : Int) == -1) = false := by rw [beq_eq_false_iff_ne]; omega
          simp [this]
        · simp only [List.map_cons, cutA, if_neg hne, h3, List.take_succ_cons]
        · simp only [List.map_cons, cutB, if_neg hne, h4, List.drop_succ_cons]
        · simp only [List.map_cons, cutP, if_neg hne, h5]

end Plain
end Go.Proofs.Qxb6602902a
