/-
  The plain law of the quoted text: lists of numbers alone; nothing of the program.
-/
import Derived.Lib.Bytes
import Derived.Lib.Bytealg
namespace Go.Proofs.Qxb6602901a
namespace Plain

/-- One byte as the encoder writes it. -/
def tok (c : Int) : List Int := if c = 34 ∨ c = 92 then [92, c] else [c]
def esc : List Int → List Int
  | [] => []
  | c :: r => tok c ++ esc r

theorem esc_append (a b : List Int) : esc (a ++ b) = esc a ++ esc b := by
  induction a with
  | nil => rfl
  | cons c r ih => simp [esc, ih]

theorem tok_len (c : Int) : 1 ≤ (tok c).length ∧ (tok c).length ≤ 2 := by
  unfold tok; split <;> simp

theorem esc_len (l : List Int) : l.length ≤ (esc l).length ∧ (esc l).length ≤ 2 * l.length := by
  induction l with
  | nil => simp [esc]
  | cons c r ih => have := tok_len c; simp [esc]; omega

theorem tok_mem {c x : Int} (h : x ∈ tok c) : x = c ∨ x = 92 := by
  unfold tok at h; split at h <;> simp at h <;> omega

/-- The bytes in front of a place, the last one first: how many of them are backslashes on end. -/
def run : List Int → Nat
  | [] => 0
  | c :: r => if c = 92 then run r + 1 else 0

def back : List Int → List Int
  | [] => [34]
  | c :: r => (tok c).reverse ++ back r

theorem back_eq (r : List Int) : back r = (34 :: esc r.reverse).reverse := by
  induction r with
  | nil => simp [back, esc]
  | cons c r ih => simp [back, ih, esc_append, esc]

theorem run_even (r : List Int) : run (back r) % 2 = 0 := by
  induction r with
  | nil => simp [back, run]
  | cons c r ih =>
    unfold back tok
    by_cases h : c = 34 ∨ c = 92
    · rcases h with h | h <;> subst h
      · simp [run]
      · simp [run]; omega
    · rw [if_neg h]
      have h2 : ¬ c = 92 := by omega
      simp [run, h2]

theorem run_lt (r : List Int) : run (back r) < (back r).length := by
  induction r with
  | nil => simp [back, run]
  | cons c r ih =>
    unfold back tok
    by_cases h : c = 34 ∨ c = 92
    · rcases h with h | h <;> subst h
      · simp [run]
      · simp [run]; omega
    · rw [if_neg h]
      have h2 : ¬ c = 92 := by omega
      simp [run, h2]

theorem run_yes : ∀ (l : List Int) (t : Nat), t < run l → l.getD t 0 = 92 := by
  intro l
  induction l with
  | nil => intro t h; simp [run] at h
  | cons c r ih =>
    intro t h
    unfold run at h
    split at h
    · cases t with
      | zero => simpa
      | succ t => simpa using ih t (by omega)
    · omega

theorem run_no : ∀ (l : List Int), run l < l.length → l.getD (run l) 0 ≠ 92 := by
  intro l
  induction l with
  | nil => intro h; simp [run] at h
  | cons c r ih =>
    intro h
    unfold run at h ⊢
    split
    · rename_i hc
      rw [if_pos hc] at h
      simpa using ih (by simpa using h)
    · rename_i hc
      simpa using hc

/-- Reading the list 'd' backwards from the place 'p': 'n' backslashes on end, then something else. -/
def Slashes (d : List Int) (p n : Nat) : Prop :=
  n < p ∧ (∀ t, t < n → d.getD (p - 1 - t) 0 = 92) ∧ d.getD (p - 1 - n) 0 ≠ 92

theorem slashes_of (u v : List Int) (h : run u.reverse < u.length) : Slashes (u ++ v) u.length (run u.reverse) := by
  have key : ∀ t, t < u.length → (u ++ v).getD (u.length - 1 - t) 0 = u.reverse.getD t 0 := by
    intro t ht
    have e1 : u.length - 1 - t < (u ++ v).length := by simp; omega
    have e2 : t < u.reverse.length := by simpa using ht
    rw [List.getD_eq_getElem?_getD, List.getD_eq_getElem?_getD, List.getElem?_eq_getElem e1, List.getElem?_eq_getElem e2]
    simp only [Option.getD_some]
    rw [List.getElem_append_left (by omega), List.getElem_reverse]
  refine ⟨h, fun t ht => ?_, ?_⟩
  · rw [key t (by omega)]; exact run_yes _ _ ht
  · rw [key _ h]; exact run_no _ (by simpa using h)

/-- In front of the closing quote: an even number of backslashes. -/
theorem slashes_even (c v : List Int) : ∃ n, Slashes (34 :: esc c ++ v) (1 + (esc c).length) n ∧ n % 2 = 0 := by
  have e : (34 :: esc c).reverse = back c.reverse := by rw [back_eq, List.reverse_reverse]
  have hl := run_lt c.reverse
  have hev := run_even c.reverse
  rw [← e] at hl hev
  refine ⟨run (34 :: esc c).reverse, ?_, hev⟩
  have := slashes_of (34 :: esc c) v (by simpa using hl)
  simpa [Nat.add_comm] using this

/-- In front of an escaped quote: an odd number. -/
theorem slashes_odd (c v : List Int) : ∃ n, Slashes (34 :: esc c ++ 92 :: v) (1 + (esc c).length + 1) n ∧ n % 2 = 1 := by
  have e : (34 :: esc c ++ [92]).reverse = 92 :: back c.reverse := by rw [back_eq, List.reverse_reverse]; simp
  have hl := run_lt c.reverse
  have hev := run_even c.reverse
  have hr : run (34 :: esc c ++ [92]).reverse = run (back c.reverse) + 1 := by rw [e]; simp [run]
  refine ⟨run (34 :: esc c ++ [92]).reverse, ?_, by omega⟩
  have hlen : (back c.reverse).length = (esc c).length + 1 := by rw [back_eq]; simp
  have := slashes_of (34 :: esc c ++ [92]) v (by rw [hr]; simp; omega)
  simpa [Nat.add_comm, Nat.add_assoc] using this

/-- The library's search, over numbers that are bytes. -/
theorem index_none_or (l v : List Int) (hb : ∀ x ∈ l, 0 ≤ x ∧ x < 256) (hn : (34 : Int) ∉ l) :
    Lib.indexByte (Lib.bytesOf (l ++ 34 :: v)) 34 = (l.length : Int) := by
  induction l with
  | nil => simp [Lib.bytesOf, Lib.indexByte]
  | cons c r ih =>
    have ih' := ih (fun x hx => hb x (List.mem_cons_of_mem _ hx)) (fun h => hn (List.mem_cons_of_mem _ h))
    have hc := hb c (List.mem_cons_self ..)
    have hne : c ≠ 34 := fun h => hn (by simp [h])
    have hbeq : (UInt8.ofNat c.toNat == 34) = false := by
      rw [beq_eq_false_iff_ne]
      intro h
      have := congrArg UInt8.toNat h
      simp at this
      omega
    show Lib.indexByte (UInt8.ofNat c.toNat :: Lib.bytesOf (r ++ 34 :: v)) 34 = _
    unfold Lib.indexByte
    rw [hbeq, ih']
    simp

/-- Where the next quote stands, seen from a boundary between two written bytes. -/
theorem next_quote (c s : List Int) (hb : ∀ x ∈ c, 0 ≤ x ∧ x < 256) :
    ((34 : Int) ∉ c ∧ Lib.indexByte (Lib.bytesOf (esc c ++ 34 :: s)) 34 = ((esc c).length : Int)) ∨
    ∃ a b, c = a ++ 34 :: b ∧ Lib.indexByte (Lib.bytesOf (esc c ++ 34 :: s)) 34 = ((esc a).length : Int) + 1 := by
  have bnd : ∀ l : List Int, (∀ x ∈ l, 0 ≤ x ∧ x < 256) → ∀ x ∈ esc l, 0 ≤ x ∧ x < 256 := by
    intro l
    induction l with
    | nil => intro _ x hx; simp [esc] at hx
    | cons c r ih =>
      intro h x hx
      simp only [esc, List.mem_append] at hx
      rcases hx with hx | hx
      · rcases tok_mem hx with hx | hx
        · subst hx; exact h _ (List.mem_cons_self ..)
        · subst hx; decide
      · exact ih (fun y hy => h y (List.mem_cons_of_mem _ hy)) x hx
  have nq : ∀ l : List Int, (34 : Int) ∉ l → (34 : Int) ∉ esc l := by
    intro l
    induction l with
    | nil => intro _ h; simp [esc] at h
    | cons c r ih =>
      intro h hx
      simp only [esc, List.mem_append] at hx
      rcases hx with hx | hx
      · rcases tok_mem hx with hx | hx
        · exact h (by simp [hx])
        · omega
      · exact ih (fun hh => h (List.mem_cons_of_mem _ hh)) hx
  by_cases hq : (34 : Int) ∈ c
  · right
    obtain ⟨a, b, hab, hna⟩ := List.eq_append_cons_of_mem hq
    refine ⟨a, b, hab, ?_⟩
    subst hab
    have hesc : esc (a ++ 34 :: b) ++ 34 :: s = (esc a ++ [92]) ++ 34 :: (esc b ++ 34 :: s) := by
      rw [esc_append]; simp [esc, tok]
    rw [hesc, index_none_or]
    · simp
    · intro x hx
      rcases List.mem_append.1 hx with hx | hx
      · exact bnd a (fun y hy => hb y (List.mem_append_left _ hy)) x hx
      · simp at hx; subst hx; decide
    · intro hx
      rcases List.mem_append.1 hx with hx | hx
      · exact nq a hna hx
      · simp at hx
  · left
    exact ⟨hq, index_none_or _ _ (bnd c hb) (nq c hq)⟩

/-- A place at which a written byte ends. -/
def At (c : List Int) (i : Nat) : Prop := ∃ pre rest, c = pre ++ rest ∧ i = 1 + (esc pre).length

/-- The quoted text and what follows. -/
def text (c s : List Int) : List Int := 34 :: esc c ++ 34 :: s

theorem text_length (c s : List Int) : (text c s).length = (esc c).length + 2 + s.length := by simp [text]; omega

theorem round_law (c s : List Int) (hb : ∀ x ∈ c, 0 ≤ x ∧ x < 256) (i : Nat) (h : At c i) :
    ∃ q n : Nat, Lib.indexByte (Lib.bytesOf ((text c s).drop i)) 34 = (q : Int) ∧ 1 ≤ i ∧ i + q < (text c s).length ∧ Slashes (text c s) (i + q) n ∧
      ((n % 2 = 0 ∧ i + q + 1 = (esc c).length + 2) ∨ (n % 2 = 1 ∧ At c (i + q + 1))) := by
  obtain ⟨pre, rest, rfl, rfl⟩ := h
  have hd : (text (pre ++ rest) s).drop (1 + (esc pre).length) = esc rest ++ 34 :: s := by
    unfold text
    rw [esc_append, Nat.add_comm]
    simp
  rw [hd]
  have hl : (esc (pre ++ rest)).length = (esc pre).length + (esc rest).length := by rw [esc_append, List.length_append]
  rw [text_length]
  rcases next_quote rest s (fun x hx => hb x (List.mem_append_right _ hx)) with ⟨_, hq⟩ | ⟨a, b, rfl, hq⟩
  · obtain ⟨n, hs, hn⟩ := slashes_even (pre ++ rest) (34 :: s)
    refine ⟨(esc rest).length, n, hq, by omega, by omega, ?_, .inl ⟨hn, by omega⟩⟩
    have e : 1 + (esc pre).length + (esc rest).length = 1 + (esc (pre ++ rest)).length := by omega
    rw [e]; exact hs
  · obtain ⟨n, hs, hn⟩ := slashes_odd (pre ++ a) (34 :: (esc b ++ 34 :: s))
    have hl2 : (esc (pre ++ a)).length = (esc pre).length + (esc a).length := by rw [esc_append, List.length_append]
    have hl3 : (esc (a ++ 34 :: b)).length = (esc a).length + 2 + (esc b).length := by rw [esc_append]; simp [esc, tok]; omega
    have hl4 : (esc (pre ++ a ++ [34])).length = (esc pre).length + (esc a).length + 2 := by rw [esc_append, esc_append]; simp [esc, tok]; omega
    have ht : text (pre ++ (a ++ 34 :: b)) s = 34 :: esc (pre ++ a) ++ 92 :: (34 :: (esc b ++ 34 :: s)) := by
      unfold text
      rw [← List.append_assoc, esc_append]
      simp [esc, tok]
    refine ⟨(esc a).length + 1, n, by rw [hq]; rfl, by omega, by omega, ?_, .inr ⟨hn, pre ++ a ++ [34], b, by simp, by omega⟩⟩
    rw [ht]
    have e : 1 + (esc pre).length + ((esc a).length + 1) = 1 + (esc (pre ++ a)).length + 1 := by omega
    rw [e]; exact hs

end Plain
end Go.Proofs.Qxb6602901a
