/-
  What the parser reads, as plain rules over a list of numbers; nothing of the program.
-/
import Derived.Lib.Bytealg
namespace Go.Proofs.Qxb6603026a
namespace Gram

/-- The byte at a place. -/
def rd (raw : List Int) (k : Nat) : Int := raw.getD k 0

def isWs (c : Int) : Prop := c = 32 ∨ c = 9 ∨ c = 13 ∨ c = 10
def isGap (c : Int) : Prop := c = 32 ∨ c = 9 ∨ c = 13 ∨ c = 10 ∨ c = 44 ∨ c = 58
def isStop (c : Int) : Prop := c = 32 ∨ c = 9 ∨ c = 13 ∨ c = 10 ∨ c = 44 ∨ c = 93 ∨ c = 125
def isLit (c : Int) : Prop := c ≠ 32 ∧ c ≠ 9 ∧ c ≠ 13 ∧ c ≠ 10 ∧ c ≠ 44 ∧ c ≠ 58 ∧ c ≠ 123 ∧ c ≠ 91 ∧ c ≠ 125 ∧ c ≠ 93 ∧ c ≠ 34

/-- What may stand behind a number or a word. -/
def Follow (raw : List Int) (n p : Nat) : Prop := p = n ∨ (p < n ∧ isStop (rd raw p))

/-- Inside a string, at a place: k steps on, the closing quote stands at r. -/
def strK (raw : List Int) (n : Nat) : Nat → Nat → Nat → Prop
  | 0, a, r => a = r ∧ a < n ∧ rd raw a = 34
  | k + 1, a, r => a < n ∧ rd raw a ≠ 34 ∧ ((rd raw a = 92 ∧ strK raw n k (a + 2) r) ∨ (rd raw a ≠ 92 ∧ strK raw n k (a + 1) r))
def StrEnd (raw : List Int) (n a r : Nat) : Prop := ∃ k, strK raw n k a r

theorem StrEnd.here {raw : List Int} {n a : Nat} (h : a < n) (hq : rd raw a = 34) : StrEnd raw n a a := ⟨0, rfl, h, hq⟩
theorem StrEnd.plain {raw : List Int} {n a r : Nat} (h : a < n) (hq : rd raw a ≠ 34) (hb : rd raw a ≠ 92) (hr : StrEnd raw n (a + 1) r) : StrEnd raw n a r := by
  obtain ⟨k, hk⟩ := hr
  exact ⟨k + 1, h, hq, .inr ⟨hb, hk⟩⟩
theorem StrEnd.esc {raw : List Int} {n a r : Nat} (h : a < n) (hb : rd raw a = 92) (hr : StrEnd raw n (a + 2) r) : StrEnd raw n a r := by
  obtain ⟨k, hk⟩ := hr
  exact ⟨k + 1, h, by omega, .inl ⟨hb, hk⟩⟩
theorem strK_le {raw : List Int} {n : Nat} : ∀ {k a r : Nat}, strK raw n k a r → a ≤ r ∧ r < n ∧ rd raw r = 34 := by
  intro k
  induction k with
  | zero => rintro a r ⟨rfl, h1, h2⟩; exact ⟨Nat.le_refl _, h1, h2⟩
  | succ k ih =>
    rintro a r ⟨h1, h2, ⟨_, h3⟩ | ⟨_, h3⟩⟩
    · have := ih h3; omega
    · have := ih h3; omega
theorem StrEnd.le {raw : List Int} {n a r : Nat} (h : StrEnd raw n a r) : a ≤ r ∧ r < n ∧ rd raw r = 34 := by
  obtain ⟨k, hk⟩ := h
  exact strK_le hk

/-- Nothing between two places of a string ends it. -/
def Mid (raw : List Int) (n a b : Nat) : Prop := ∀ r, StrEnd raw n b r → StrEnd raw n a r
theorem Mid.refl (raw : List Int) (n a : Nat) : Mid raw n a a := fun _ h => h
theorem Mid.plain {raw : List Int} {n a b : Nat} (h : Mid raw n a b) (hb : b < n) (h1 : rd raw b ≠ 34) (h2 : rd raw b ≠ 92) : Mid raw n a (b + 1) := fun r hr => h r (.plain hb h1 h2 hr)
theorem Mid.esc {raw : List Int} {n a b : Nat} (h : Mid raw n a b) (hb : b < n) (h2 : rd raw b = 92) : Mid raw n a (b + 2) := fun r hr => h r (.esc hb h2 hr)

/-- The rules: 'V pos m pos' T': from pos to pos' a value, the tokens T, the first of them number m; 'I m p0 pos T': an object or a list, token number m, open since p0, read up to pos, the tokens T inside it so far. -/
structure Rules (raw : List Int) (n : Nat) (V : Nat → Nat → Nat → List (Int × Int) → Prop) (I : Nat → Nat → Nat → List (Int × Int) → Prop) : Prop where
  str : ∀ pos m r, pos < n → rd raw pos = 34 → StrEnd raw n (pos + 1) r → V pos m (r + 1) [((pos : Int), ((r + 1 : Nat) : Int))]
  lit : ∀ pos m pos', pos < pos' → pos' ≤ n → (∀ j, pos ≤ j → j < pos' → isLit (rd raw j)) → Follow raw n pos' → V pos m pos' [((pos : Int), (pos' : Int))]
  begin : ∀ m p0, p0 < n → (rd raw p0 = 123 ∨ rd raw p0 = 91) → I m p0 (p0 + 1) []
  gap : ∀ m p0 pos T, I m p0 pos T → pos < n → isGap (rd raw pos) → I m p0 (pos + 1) T
  val : ∀ m p0 pos T pos' T1, I m p0 pos T → V pos (m + 1 + T.length) pos' T1 → I m p0 pos' (T ++ T1)
  close : ∀ m p0 pos T, I m p0 pos T → pos < n → (rd raw pos = 125 ∨ rd raw pos = 93) → V p0 m (pos + 1) (((p0 : Int), ((m + 1 + T.length : Nat) : Int)) :: T)

def Val (raw : List Int) (n pos m pos' : Nat) (T : List (Int × Int)) : Prop := ∀ V I, Rules raw n V I → V pos m pos' T
def In (raw : List Int) (n m p0 pos : Nat) (T : List (Int × Int)) : Prop := ∀ V I, Rules raw n V I → I m p0 pos T

section
variable {raw : List Int} {n : Nat}
theorem Val.str (pos m r : Nat) (h : pos < n) (hq : rd raw pos = 34) (hs : StrEnd raw n (pos + 1) r) : Val raw n pos m (r + 1) [((pos : Int), ((r + 1 : Nat) : Int))] := fun _ _ R => R.str pos m r h hq hs
theorem Val.lit (pos m pos' : Nat) (h : pos < pos') (hn : pos' ≤ n) (hl : ∀ j, pos ≤ j → j < pos' → isLit (rd raw j)) (hf : Follow raw n pos') : Val raw n pos m pos' [((pos : Int), (pos' : Int))] := fun _ _ R => R.lit pos m pos' h hn hl hf
theorem In.begin (m p0 : Nat) (h : p0 < n) (hc : rd raw p0 = 123 ∨ rd raw p0 = 91) : In raw n m p0 (p0 + 1) [] := fun _ _ R => R.begin m p0 h hc
theorem In.gap {m p0 pos : Nat} {T : List (Int × Int)} (h : In raw n m p0 pos T) (hp : pos < n) (hg : isGap (rd raw pos)) : In raw n m p0 (pos + 1) T := fun V I R => R.gap m p0 pos T (h V I R) hp hg
theorem In.val {m p0 pos pos' : Nat} {T T1 : List (Int × Int)} (h : In raw n m p0 pos T) (hv : Val raw n pos (m + 1 + T.length) pos' T1) : In raw n m p0 pos' (T ++ T1) := fun V I R => R.val m p0 pos T pos' T1 (h V I R) (hv V I R)
theorem In.close {m p0 pos : Nat} {T : List (Int × Int)} (h : In raw n m p0 pos T) (hp : pos < n) (hc : rd raw pos = 125 ∨ rd raw pos = 93) : Val raw n p0 m (pos + 1) (((p0 : Int), ((m + 1 + T.length : Nat) : Int)) :: T) := fun V I R => R.close m p0 pos T (h V I R) hp hc

theorem gap_of_ws {c : Int} (h : isWs c) : isGap c := by unfold isWs at h; unfold isGap; omega
theorem stop_of_ws {c : Int} (h : isWs c) : isStop c := by unfold isWs at h; unfold isStop; omega

/-- A run of white space. -/
def Spaces (raw : List Int) (n a b : Nat) : Prop := a ≤ b ∧ b ≤ n ∧ ∀ j, a ≤ j → j < b → isWs (rd raw j)
theorem In.spaces {m p0 a b : Nat} {T : List (Int × Int)} (h : In raw n m p0 a T) (hs : Spaces raw n a b) : In raw n m p0 b T := by
  obtain ⟨h1, h2, h3⟩ := hs
  obtain ⟨d, rfl⟩ := Nat.exists_eq_add_of_le h1
  clear h1
  induction d with
  | zero => exact h
  | succ d ih => exact (ih (by omega) (fun j ha hb => h3 j ha (by omega))).gap (by omega) (gap_of_ws (h3 _ (by omega) (by omega)))

/-- Behind a run of white space, or at what ends it, a word or a number may end. -/
theorem follow_of {a b : Nat} (hs : Spaces raw n a b) (hb : b = n ∨ (b < n ∧ isStop (rd raw b))) : Follow raw n a := by
  obtain ⟨h1, h2, h3⟩ := hs
  by_cases h : a = b
  · subst h; exact hb
  · exact .inr ⟨by omega, stop_of_ws (h3 a (Nat.le_refl _) (by omega))⟩

/-- The document. -/
def Doc (raw : List Int) (n : Nat) (T : List (Int × Int)) : Prop := ∃ p q, Spaces raw n 0 p ∧ Val raw n p 0 q T ∧ Spaces raw n q n
end

end Gram
end Go.Proofs.Qxb6603026a
