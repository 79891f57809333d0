/-
  Seat b6602902a: isPlainDecimal, the recogniser, the law's own walk.
-/
import Derived.Test.Qxb6602902aBase
namespace Go.Proofs.Qxb6602902a
open Go.RowKit Plain

theorem autStep {st : Nat} {l : List Int} {k : Nat} {x : Int} {r : List Int} {b : Bool} (h : aut st (l.drop k) = b) (h2 : l.drop k = x :: r) : aut st (x :: r) = b := by rw [← h2]; exact h

/-- A byte is the sign, the point, a digit, or none of them. -/
theorem classes (x : Int) : ∃ b45 b46 bd : Bool, ((b45 = true ∧ b46 = false ∧ bd = false) ∨ (b45 = false ∧ b46 = true ∧ bd = false) ∨ (b45 = false ∧ b46 = false ∧ bd = true) ∨ (b45 = false ∧ b46 = false ∧ bd = false)) ∧
    (x == 45) = b45 ∧ (x == 46) = b46 ∧ dig x = bd := by
  by_cases h45 : x = 45
  · subst h45; exact ⟨true, false, false, .inl ⟨rfl, rfl, rfl⟩, rfl, rfl, rfl⟩
  · by_cases h46 : x = 46
    · subst h46; exact ⟨false, true, false, .inr (.inl ⟨rfl, rfl, rfl⟩), rfl, rfl, rfl⟩
    · cases h : dig x with
      | true => exact ⟨false, false, true, .inr (.inr (.inl ⟨rfl, rfl, rfl⟩)), by simpa using h45, by simpa using h46, rfl⟩
      | false => exact ⟨false, false, false, .inr (.inr (.inr ⟨rfl, rfl, rfl⟩)), by simpa using h45, by simpa using h46, rfl⟩

/-- One step of the recogniser, off the byte's kind. -/
def nextOf (st : Nat) (b45 b46 bd : Bool) (r : List Int) : Bool :=
  match st with
  | 0 => if b45 then aut 1 r else if bd then aut 2 r else false
  | 1 => if bd then aut 2 r else false
  | 2 => if b46 then aut 3 r else if bd then aut 2 r else false
  | 3 => if bd then aut 4 r else false
  | _ => if bd then aut 4 r else false

theorem aut_next (st : Nat) (x : Int) (r : List Int) (hst : st ≤ 4) (b45 b46 bd : Bool) (e45 : (x == 45) = b45) (e46 : (x == 46) = b46) (hd : dig x = bd) : aut st (x :: r) = nextOf st b45 b46 bd r := by
  subst e45 e46 hd
  rcases (show st = 0 ∨ st = 1 ∨ st = 2 ∨ st = 3 ∨ st = 4 by omega) with h | h | h | h | h <;> subst h <;> simp [aut, nextOf]

set_option maxHeartbeats 1600000 in
/-- zzQ1PlainDecimalAutomaton. -/
theorem automaton_any (s : ByteArray) (w : World) (hs : s.size ≤ 1048576) :
    Calls Try.prog 12 #[.string s] w fun e w' => e = .returned (.bool (aut 0 (nums s))) ∧ w' = w := by
  have HG : Hid (∀ k (h : k < s.size), (nums s).drop k = (s[k].toNat : Int) :: (nums s).drop (k + 1)) := nums_get s
  have HE : Hid ((nums s).drop s.size = []) := List.drop_of_length_le (by rw [nums_length]; exact Nat.le_refl _)
  have HD := digit_any
  generalize hb : aut 0 (nums s) = b
  have HB : Hid (aut 0 (nums s) = b) := hb
  clear hb
  go_enter Try.func12, Try.ntmps12
  go_wp2
  go_loop [3, 4] (fun t i => ∃ k st : Nat, k ≤ s.size ∧ st ≤ 4 ∧ i = .int .i64 k ∧ t = .int .i64 st ∧ aut st ((nums s).drop k) = b) (fun _ i => s.size - (intOf i).toNat)
  case atStart => exact ⟨0, 0, Nat.zero_le _, Nat.zero_le _, rfl, rfl, HB.out⟩
  case round =>
    obtain ⟨k, st, hk, hst, rfl, rfl, haut⟩ := hrel
    have HA : Hid (aut st ((nums s).drop k) = b) := haut
    clear haut
    by_cases hlt : k < s.size
    · have HGK : Hid (aut st ((s[k].toNat : Int) :: (nums s).drop (k + 1)) = b) := autStep HA.out (HG.out k hlt)
      clear HA
      have hx0 : (0 : Int) ≤ (s[k].toNat : Int) := by omega
      obtain ⟨b45, b46, bd, hcls, e45, e46, hbd⟩ := classes (s[k].toNat : Int)
      have HX : Hid (aut st ((s[k].toNat : Int) :: (nums s).drop (k + 1)) = nextOf st b45 b46 bd ((nums s).drop (k + 1))) := aut_next st _ _ hst b45 b46 bd e45 e46 hbd
      have HR : Hid (nextOf st b45 b46 bd ((nums s).drop (k + 1)) = b) := HX.out.symm.trans HGK.out
      have hdd := HD (s[k].toNat : Int)
      rw [hbd] at hdd
      clear HGK HX hbd HD HB HG HE
      rcases hcls with ⟨rfl, rfl, rfl⟩ | ⟨rfl, rfl, rfl⟩ | ⟨rfl, rfl, rfl⟩ | ⟨rfl, rfl, rfl⟩
      all_goals
        rcases (show st = 0 ∨ st = 1 ∨ st = 2 ∨ st = 3 ∨ st = 4 by omega) with h | h | h | h | h
        all_goals
          subst h
          go_wp2_with (go_at_call 8; refine (hdd _).mono ?_; rintro e w ⟨rfl, rfl⟩)
          first
            | (go_ret; exact ⟨ret_bool HR.out, rfl⟩)
            | (go_round
               case rel => first | exact ⟨k + 1, 1, by omega, by omega, by go_num, rfl, HR.out⟩ | exact ⟨k + 1, 2, by omega, by omega, by go_num, rfl, HR.out⟩ | exact ⟨k + 1, 3, by omega, by omega, by go_num, rfl, HR.out⟩ | exact ⟨k + 1, 4, by omega, by omega, by go_num, rfl, HR.out⟩
               case measure => simp [intOf]; omega)
    · obtain rfl : k = s.size := by omega
      have HR : Hid (aut st [] = b) := by have h := HA.out; rw [HE.out] at h; exact h
      clear HA HD HB HG HE
      rcases (show st = 0 ∨ st = 1 ∨ st = 2 ∨ st = 3 ∨ st = 4 by omega) with h | h | h | h | h
      all_goals
        subst h
        go_wp2
        go_ret
        exact ⟨ret_bool HR.out, rfl⟩

/-- strings.TrimPrefix(s, "-"). -/
theorem trim_any (s : ByteArray) (hs : s.size ≤ 1048576) : ∃ t : ByteArray, t.size ≤ 1048576 ∧ nums t = trim (nums s) ∧
    ∀ w, Calls Try.prog 17 #[.string s, .string ⟨#[45]⟩] w fun e w' => e = .returned (.string t) ∧ w' = w := by
  have h := trim_hp s
  cases hb : hp s with
  | true =>
    rw [hb, if_pos rfl] at h
    refine ⟨s.extract 1 s.size, ?_, h.symm, fun w => trim_yes s w hs hb⟩
    rw [← nums_length, nums_extract]
    simp [nums_length]
    omega
  | false =>
    rw [hb, if_neg (by decide)] at h
    exact ⟨s, hs, h.symm, fun w => trim_no s w hs hb⟩

/-- strings.Cut(s, "."). -/
theorem cut_any (s : ByteArray) (hs : s.size ≤ 1048576) : ∃ (A B : ByteArray) (p : Bool), A.size ≤ 1048576 ∧ B.size ≤ 1048576 ∧ nums A = cutA (nums s) ∧ (p = true → nums B = cutB (nums s)) ∧ p = cutP (nums s) ∧
    ∀ w, Calls Try.prog 16 #[.string s, .string ⟨#[46]⟩] w fun e w' => e = .returned (.tuple #[.string A, .string B, .bool p]) ∧ ∃ n, w' = w.drewN n := by
  have hsz : ∀ a b, (s.extract a b).size ≤ 1048576 := by
    intro a b
    rw [← nums_length, nums_extract]
    simp [nums_length]
    omega
  rcases index_cut s.data.toList with ⟨h1, h2, h3⟩ | ⟨i, h1, h2, h3, h4, h5⟩
  · refine ⟨s, ⟨#[]⟩, false, hs, by decide, h2.symm, fun h => (by cases h), h3.symm, fun w => (cut_no s w h1).mono ?_⟩
    rintro e w' ⟨rfl, rfl⟩
    exact ⟨rfl, 0, rfl⟩
  · have hl : i < s.size := by simpa using h2
    refine ⟨s.extract 0 i, s.extract (i + 1) s.size, true, hsz _ _, hsz _ _, ?_, fun _ => ?_, h5.symm, fun w => cut_yes s w i h1 hl hs⟩
    · rw [nums_extract, List.drop_zero, Nat.sub_zero]; exact h3.symm
    · rw [nums_extract, List.take_of_length_le]
      · exact h4.symm
      · rw [List.length_drop, nums_length]; exact Nat.le_refl _

set_option maxHeartbeats 1600000 in
/-- isPlainDecimal. -/
theorem plain_any (s : ByteArray) (w : World) (hs : s.size ≤ 1048576) :
    Calls Try.prog 15 #[.string s] w fun e w' => e = .returned (.bool (plain (nums s))) ∧ ∃ n, w' = w.drewN n := by
  obtain ⟨t, ht, hnt, htrim⟩ := trim_any s hs
  obtain ⟨A, B, p, hA, hB, hnA, hnB, hp, hcut⟩ := cut_any t ht
  have hplain : plain (nums s) = (allDig (nums A) && (!p || allDig (nums B))) := by
    unfold plain
    rw [← hnt, hnA, hp]
    cases hc : cutP (nums t) with
    | false => simp
    | true => rw [hnB (hp.trans hc)]
  rw [hplain]
  have hdA := fun w => digits_any A w hA
  have hdB := fun w => digits_any B w hB
  generalize allDig (nums A) = bA at *
  generalize allDig (nums B) = bB at *
  clear hplain hnA hnB hp hnt hA hB ht hs
  cases bA with
  | false =>
    go_enter Try.func15, Try.ntmps15
    go_wp2_with (first
      | (go_at_call 17; refine (htrim _).mono ?_; rintro e w ⟨rfl, rfl⟩)
      | (go_at_call 16; refine (hcut _).mono ?_; rintro e w' ⟨rfl, n, rfl⟩)
      | (go_at_call 14; refine (hdA _).mono ?_; rintro e w' ⟨rfl, rfl⟩))
    go_ret
    exact ⟨rfl, _, rfl⟩
  | true =>
    cases p with
    | false =>
      go_enter Try.func15, Try.ntmps15
      go_wp2_with (first
        | (go_at_call 17; refine (htrim _).mono ?_; rintro e w ⟨rfl, rfl⟩)
        | (go_at_call 16; refine (hcut _).mono ?_; rintro e w' ⟨rfl, n, rfl⟩)
        | (go_at_call 14; refine (hdA _).mono ?_; rintro e w' ⟨rfl, rfl⟩))
      go_ret
      exact ⟨rfl, _, rfl⟩
    | true =>
      go_enter Try.func15, Try.ntmps15
      go_wp2_with (first
        | (go_at_call 17; refine (htrim _).mono ?_; rintro e w ⟨rfl, rfl⟩)
        | (go_at_call 16; refine (hcut _).mono ?_; rintro e w' ⟨rfl, n, rfl⟩))
      refine (hdA _).mono ?_
      rintro e w' ⟨rfl, rfl⟩
      go_wp2_with fail
      refine (hdB _).mono ?_
      rintro e w' ⟨rfl, rfl⟩
      go_wp2_with fail
      go_ret
      exact ⟨by simp, _, rfl⟩

theorem zzplain_any (s : ByteArray) (w : World) (hs : s.size ≤ 1048576) :
    Calls Try.prog 11 #[.string s] w fun e w' => e = .returned (.bool (plain (nums s))) ∧ ∃ n, w' = w.drewN n := by
  have H := plain_any s w hs
  go_enter Try.func11, Try.ntmps11
  go_wp2_with (go_at_call 15; refine H.mono ?_; rintro e w' ⟨rfl, n, rfl⟩)
  go_ret
  exact ⟨rfl, _, rfl⟩

theorem bytes_yes (s : ByteArray) (w : World) (hs : s.size ≤ 1048576) : Calls Try.prog 10 #[.string s] w fun e w' => e = .returned (.bool true) ∧ w' = w := by
  go_enter Try.func10, Try.ntmps10
  go_wp2
  go_ret
  exact ⟨rfl, rfl⟩

theorem bytes_no (s : ByteArray) (w : World) (hs : ¬ s.size ≤ 1048576) : Calls Try.prog 10 #[.string s] w fun e w' => e = .returned (.bool false) ∧ w' = w := by
  go_enter Try.func10, Try.ntmps10
  go_wp2
  go_ret
  exact ⟨rfl, rfl⟩

theorem grown_drewN (w : World) (n : Nat) : Grown w (w.drewN n) := by
  induction n with
  | zero => exact Grown.refl _
  | succ n ih => exact ih.drew

theorem law_any (s : ByteArray) (w : World) : Calls Try.prog 5 #[.string s] w fun e w' => e = .returned (.bool true) ∧ Grown w w' := by
  by_cases hs : s.size ≤ 1048576
  · have hb := bytes_yes s w hs
    have hp := fun w => zzplain_any s w hs
    have ha := fun w => automaton_any s w hs
    rw [law] at hp
    generalize aut 0 (nums s) = b at *
    go_enter Try.func5, Try.ntmps5
    go_wp2_with (first
      | (go_at_call 10; refine hb.mono ?_; rintro e w ⟨rfl, rfl⟩)
      | (go_at_call 11; refine (hp _).mono ?_; rintro e w' ⟨rfl, n, rfl⟩)
      | (go_at_call 12; refine (ha _).mono ?_; rintro e w' ⟨rfl, rfl⟩))
    go_ret
    exact ⟨by simp, grown_drewN _ _⟩
  · have hb := bytes_no s w hs
    go_enter Try.func5, Try.ntmps5
    go_wp2_with (go_at_call 10; refine hb.mono ?_; rintro e w ⟨rfl, rfl⟩)
    go_ret
    exact ⟨rfl, Grown.refl _⟩

end Go.Proofs.Qxb6602902a
