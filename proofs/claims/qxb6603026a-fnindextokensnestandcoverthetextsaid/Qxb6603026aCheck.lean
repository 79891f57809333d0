/-
  The plain law of the checker: over every text that the rules read, the tokens nest and cover the text.
-/
import Derived.Test.Qxb6603026aGram
namespace Go.Proofs.Qxb6603026a
namespace Gram

/-- A byte that may stand between tokens. -/
def gapB (c : Int) : Prop := c = 32 ∨ c = 9 ∨ c = 13 ∨ c = 10 ∨ c = 44 ∨ c = 58 ∨ c = 93 ∨ c = 125
def Gaps (raw : List Int) (a b : Nat) : Prop := ∀ q, a ≤ q → q < b → gapB (rd raw q)

/-- The open ones that end here are taken off the stack (its top is the list's head). -/
def popAll (k : Nat) : List Nat → List Nat
  | [] => []
  | x :: r => if x = k then popAll k r else x :: r

/-- The check of the tokens that are left, the first of them number k, under the stack O, the text being read up to pe. -/
def chk (raw : List Int) (n t : Nat) : List (Int × Int) → Nat → List Nat → Nat → Prop
  | [], _, _, pe => Gaps raw pe n
  | tk :: rest, k, O, pe => ∃ s e : Nat, tk = ((s : Int), (e : Int)) ∧ pe ≤ s ∧ s < n ∧ Gaps raw pe s ∧ (k = 0 ∨ popAll k O ≠ []) ∧ ¬ gapB (rd raw s) ∧
    (((rd raw s = 123 ∨ rd raw s = 91) ∧ k < e ∧ e ≤ t ∧ (∀ x r, popAll k O = x :: r → e ≤ x) ∧ chk raw n t rest (k + 1) (e :: popAll k O) (s + 1)) ∨
     ((rd raw s ≠ 123 ∧ rd raw s ≠ 91) ∧ s < e ∧ e ≤ n ∧ (rd raw s = 34 → s + 2 ≤ e ∧ rd raw (e - 1) = 34) ∧ chk raw n t rest (k + 1) (popAll k O) e))

theorem popAll_le (k : Nat) : ∀ (O : List Nat) (x : Nat), x ∈ popAll k O → x ∈ O := by
  intro O
  induction O with
  | nil => intro x h; simp [popAll] at h
  | cons y r ih =>
    intro x h
    unfold popAll at h
    split at h
    · exact List.mem_cons_of_mem _ (ih x h)
    · exact h
theorem popAll_top {k x : Nat} {r : List Nat} (h : x ≠ k) : popAll k (x :: r) = x :: r := by rw [popAll, if_neg h]
theorem popAll_eq {k : Nat} {r : List Nat} : popAll k (k :: r) = popAll k r := by rw [popAll, if_pos rfl]

section
variable {raw : List Int} {n t : Nat}

theorem Gaps.snoc {a b : Nat} (h : Gaps raw a b) (hb : gapB (rd raw b)) : Gaps raw a (b + 1) := fun q h1 h2 => by
  by_cases e : q = b
  · subst e; exact hb
  · exact h q h1 (by omega)
theorem gapB_of_gap {c : Int} (h : isGap c) : gapB c := by unfold isGap at h; unfold gapB; omega
theorem gapB_of_ws {c : Int} (h : isWs c) : gapB c := by unfold isWs at h; unfold gapB; omega
theorem lit_gap {c : Int} (h : isLit c) : ¬ gapB c ∧ c ≠ 123 ∧ c ≠ 91 ∧ c ≠ 34 := by unfold isLit at h; unfold gapB; omega

/-- What is asked ahead of a token number m that holds the tokens up to number e: the text read up to pe. -/
def Pre (raw : List Int) (t m e pos : Nat) (O : List Nat) (pe : Nat) : Prop :=
  pe ≤ pos ∧ Gaps raw pe pos ∧ (m = 0 ∨ popAll m O ≠ []) ∧ (∀ x ∈ popAll m O, e ≤ x) ∧ e ≤ t
/-- What is handed on behind it. -/
def Next (raw : List Int) (n t k pos : Nat) (O : List Nat) (rest : List (Int × Int)) : Prop :=
  ∀ O' pe', popAll k O' = popAll k O → pe' ≤ pos → Gaps raw pe' pos → chk raw n t rest k O' pe'

theorem check_rules : Rules raw n
    (fun pos m pos' T => 0 < T.length ∧ ∀ rest O pe, Pre raw t m (m + T.length) pos O pe → Next raw n t (m + T.length) pos' (popAll m O) rest → chk raw n t (T ++ rest) m O pe)
    (fun m p0 pos T => ∀ e rest O pe, m + 1 + T.length ≤ e → Pre raw t m e p0 O pe → Next raw n t (m + 1 + T.length) pos (e :: popAll m O) rest → chk raw n t ((((p0 : Int), (e : Int)) :: T) ++ rest) m O pe) where
  str := by
    intro pos m r hp hq hs
    refine ⟨by simp, fun rest O pe hpre hnx => ?_⟩
    obtain ⟨h1, h2, h3, h4, h5⟩ := hpre
    have hr := hs.le
    refine ⟨pos, r + 1, rfl, h1, hp, h2, h3, by rw [hq]; unfold gapB; decide, .inr ⟨by rw [hq]; decide, by omega, by omega, fun _ => ⟨by omega, by rw [Nat.add_sub_cancel]; exact hr.2.2⟩, ?_⟩⟩
    exact hnx _ _ rfl (Nat.le_refl _) (fun q h6 h7 => by omega)
  lit := by
    intro pos m pos' hp hn hl hf
    refine ⟨by simp, fun rest O pe hpre hnx => ?_⟩
    obtain ⟨h1, h2, h3, h4, h5⟩ := hpre
    have hlt := lit_gap (hl pos (Nat.le_refl _) hp)
    refine ⟨pos, pos', rfl, h1, by omega, h2, h3, hlt.1, .inr ⟨⟨hlt.2.1, hlt.2.2.1⟩, hp, hn, fun h => absurd h hlt.2.2.2, ?_⟩⟩
    exact hnx _ _ rfl (Nat.le_refl _) (fun q h6 h7 => by omega)
  begin := by
    intro m p0 hp hc e rest O pe he hpre hnx
    obtain ⟨h1, h2, h3, h4, h5⟩ := hpre
    refine ⟨p0, e, rfl, h1, hp, h2, h3, by unfold gapB; omega, .inl ⟨hc, by simp at he; omega, h5, fun x r hx => h4 x (by rw [hx]; exact List.mem_cons_self ..), ?_⟩⟩
    exact hnx _ _ rfl (Nat.le_refl _) (fun q h6 h7 => by omega)
  gap := by
    intro m p0 pos T hI hp hg e rest O pe he hpre hnx
    refine hI e rest O pe he hpre (fun O' pe' h1 h2 h3 => hnx O' pe' h1 (by omega) (h3.snoc (gapB_of_gap hg)))
  val := by
    intro m p0 pos T pos' T1 hI hV e rest O pe he hpre hnx
    obtain ⟨hT1, hV⟩ := hV
    rw [List.length_append] at he
    have e1 : (((p0 : Int), (e : Int)) :: (T ++ T1)) ++ rest = (((p0 : Int), (e : Int)) :: T) ++ (T1 ++ rest) := by simp
    rw [e1]
    refine hI e (T1 ++ rest) O pe (by omega) hpre (fun O' pe' h1 h2 h3 => ?_)
    have hne : e ≠ m + 1 + T.length := by omega
    rw [popAll_top hne] at h1
    refine hV rest O' pe' ⟨h2, h3, .inr (by rw [h1]; simp), ?_, by have := hpre.2.2.2.2; omega⟩ (fun O2 pe2 h4 h5 h6 => ?_)
    · rw [h1]
      intro x hx
      rcases List.mem_cons.1 hx with hx | hx
      · omega
      · have := hpre.2.2.2.1 x hx; omega
    · rw [h1] at h4
      have e2 : m + 1 + T.length + T1.length = m + 1 + (T ++ T1).length := by rw [List.length_append]; omega
      rw [e2] at h4 ⊢
      exact hnx O2 pe2 h4 h5 h6
  close := by
    intro m p0 pos T hI hp hc
    refine ⟨by simp, fun rest O pe hpre hnx => ?_⟩
    have e1 : m + (((p0 : Int), ((m + 1 + T.length : Nat) : Int)) :: T).length = m + 1 + T.length := by simp; omega
    rw [e1] at hpre hnx
    refine hI (m + 1 + T.length) rest O pe (Nat.le_refl _) hpre (fun O' pe' h1 h2 h3 => ?_)
    rw [popAll_eq] at h1
    exact hnx O' pe' h1 (by omega) (h3.snoc (by unfold gapB; omega))

/-- The law. -/
theorem check_doc {T : List (Int × Int)} (h : Doc raw n T) : chk raw n T.length T 0 [] 0 := by
  obtain ⟨p, q, h1, h2, h3⟩ := h
  obtain ⟨_, h5⟩ := h2 _ _ (check_rules (t := T.length))
  have h6 := h5 [] [] 0 ⟨Nat.zero_le _, fun j _ hj => gapB_of_ws (h1.2.2 j (Nat.zero_le _) hj), .inl rfl, fun x hx => by simp [popAll] at hx, by omega⟩ (fun O' pe' h7 h8 h9 j hj1 hj2 => by
    by_cases hq : j < q
    · exact h9 j hj1 hq
    · exact gapB_of_ws (h3.2.2 j (by omega) hj2))
  rw [List.append_nil] at h6
  exact h6
end
end Gram
end Go.Proofs.Qxb6603026a
