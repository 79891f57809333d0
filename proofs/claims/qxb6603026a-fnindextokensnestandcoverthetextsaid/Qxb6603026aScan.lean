/-
  The plain law of the scanner: over every text that the rules read, its run comes to the same tokens.
-/
import Derived.Test.Qxb6603026aGram
namespace Go.Proofs.Qxb6603026a
namespace Gram

/-- Where a number or a word ends, by the scanner's own test. -/
def LitEnd (raw : List Int) (n a r : Nat) : Prop := a ≤ r ∧ r ≤ n ∧ (∀ j, a ≤ j → j < r → ¬ isStop (rd raw j)) ∧ (r = n ∨ isStop (rd raw r))

/-- From place i, with the tokens T and the open ones O: k rounds on, the scan has ended with the tokens F. -/
def runK (raw : List Int) (n : Nat) (F : List (Int × Int)) : Nat → Nat → List (Int × Int) → List Nat → Prop
  | 0, i, T, O => i = n ∧ T = F ∧ O = []
  | k + 1, i, T, O => i < n ∧
    ((isGap (rd raw i) ∧ runK raw n F k (i + 1) T O) ∨
     ((rd raw i = 123 ∨ rd raw i = 91) ∧ runK raw n F k (i + 1) (T ++ [((i : Int), 0)]) (O ++ [T.length])) ∨
     ((rd raw i = 125 ∨ rd raw i = 93) ∧ ∃ O0 j, O = O0 ++ [j] ∧ j < T.length ∧ runK raw n F k (i + 1) (T.set j ((T.getD j (0, 0)).1, (T.length : Int))) O0) ∨
     (rd raw i = 34 ∧ ∃ r, StrEnd raw n (i + 1) r ∧ runK raw n F k (r + 1) (T ++ [((i : Int), ((r + 1 : Nat) : Int))]) O) ∨
     (isLit (rd raw i) ∧ ∃ r, LitEnd raw n (i + 1) r ∧ runK raw n F k r (T ++ [((i : Int), (r : Int))]) O))
def Run (raw : List Int) (n : Nat) (F : List (Int × Int)) (i : Nat) (T : List (Int × Int)) (O : List Nat) : Prop := ∃ k, runK raw n F k i T O

section
variable {raw : List Int} {n : Nat} {F : List (Int × Int)}
theorem Run.gap {i : Nat} {T : List (Int × Int)} {O : List Nat} (h : i < n) (hc : isGap (rd raw i)) (hr : Run raw n F (i + 1) T O) : Run raw n F i T O := by
  obtain ⟨k, hk⟩ := hr; exact ⟨k + 1, h, .inl ⟨hc, hk⟩⟩

theorem isLit_stop {c : Int} (h : isLit c) : ¬ isStop c := by unfold isLit at h; unfold isStop; omega

theorem set_mid (T T1 : List (Int × Int)) (x y : Int × Int) : (T ++ x :: T1).set T.length y = T ++ y :: T1 := by
  rw [List.set_append_right _ _ (Nat.le_refl _), Nat.sub_self]; rfl

theorem scan_rules : Rules raw n
    (fun pos m pos' T1 => ∀ T O, T.length = m → Run raw n F pos' (T ++ T1) O → Run raw n F pos T O)
    (fun m p0 pos T1 => ∀ T O, T.length = m → Run raw n F pos (T ++ ((p0 : Int), 0) :: T1) (O ++ [m]) → Run raw n F p0 T O) where
  str := by
    intro pos m r hp hq hs T O _ ⟨k, hk⟩
    exact ⟨k + 1, hp, .inr (.inr (.inr (.inl ⟨hq, r, hs, hk⟩)))⟩
  lit := by
    intro pos m pos' hp hn hl hf T O _ ⟨k, hk⟩
    refine ⟨k + 1, by omega, .inr (.inr (.inr (.inr ⟨hl pos (Nat.le_refl _) hp, pos', ⟨by omega, hn, fun j h1 h2 => isLit_stop (hl j (by omega) h2), ?_⟩, hk⟩)))⟩
    rcases hf with hf | ⟨_, hf⟩
    · exact .inl hf
    · exact .inr hf
  begin := by
    intro m p0 hp hc T O hT ⟨k, hk⟩
    refine ⟨k + 1, hp, .inr (.inl ⟨hc, ?_⟩)⟩
    rw [hT]; exact hk
  gap := by
    intro m p0 pos T1 hI hp hc T O hT hr
    exact hI T O hT (.gap hp hc hr)
  val := by
    intro m p0 pos T1 pos' T2 hI hV T O hT hr
    refine hI T O hT (hV _ _ (by simp; omega) ?_)
    simpa using hr
  close := by
    intro m p0 pos T1 hI hp hc T O hT ⟨k, hk⟩
    refine hI T O hT ⟨k + 1, hp, .inr (.inr (.inl ⟨hc, O, m, rfl, by simp; omega, ?_⟩))⟩
    have e1 : (T ++ ((p0 : Int), 0) :: T1).getD m (0, 0) = ((p0 : Int), 0) := by
      rw [List.getD_eq_getElem?_getD, ← hT]; simp
    have e2 : (T ++ ((p0 : Int), 0) :: T1).length = m + 1 + T1.length := by simp; omega
    rw [e1, e2, ← hT, set_mid, hT]
    exact hk

theorem run_spaces {a b : Nat} {T : List (Int × Int)} {O : List Nat} (hs : Spaces raw n a b) (hr : Run raw n F b T O) : Run raw n F a T O := by
  obtain ⟨h1, h2, h3⟩ := hs
  obtain ⟨d, rfl⟩ := Nat.exists_eq_add_of_le h1
  clear h1
  induction d with
  | zero => exact hr
  | succ d ih => exact ih (.gap (by omega) (gap_of_ws (h3 _ (by omega) (by omega))) hr) (by omega) (fun j ha hb => h3 j ha (by omega))

/-- The law. -/
theorem scan_doc (h : Doc raw n F) : Run raw n F 0 [] [] := by
  obtain ⟨p, q, h1, h2, h3⟩ := h
  refine run_spaces h1 (h2 _ _ scan_rules [] [] rfl (run_spaces h3 ⟨0, rfl, by simp, rfl⟩))
end
end Gram
end Go.Proofs.Qxb6603026a
