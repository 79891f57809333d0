/-
  Walks of seat b6603026a: isDigit, isHex, digits.
-/
import Derived.Test.Qxb6603026aBase
namespace Go.Proofs.Qxb6603026a
open Go.RowKit Gram

def dgB (c : Int) : Bool := decide (48 ≤ c) && decide (c ≤ 57)
theorem dgB_iff (c : Int) : dgB c = true ↔ 48 ≤ c ∧ c ≤ 57 := by simp [dgB]

theorem digit_any (c : Int) (w : World) : Calls Try.prog 49 #[.int .u8 c] w fun e w' => e = .returned (.bool (dgB c)) ∧ w' = w := by
  unfold dgB
  by_cases h1 : 48 ≤ c
  · by_cases h2 : c ≤ 57
    · go_enter Try.func49, Try.ntmps49
      go_wp2
      go_ret
      exact ⟨by simp [h1, h2], rfl⟩
    · go_enter Try.func49, Try.ntmps49
      go_wp2
      go_ret
      exact ⟨by simp [h2], rfl⟩
  · have h1' : decide (48 ≤ c) = false := by simpa using h1
    go_enter Try.func49, Try.ntmps49
    go_wp2
    go_ret
    exact ⟨by simp, rfl⟩

def hexB (c : Int) : Bool := (decide (48 ≤ c) && decide (c ≤ 57)) || (decide (97 ≤ c) && decide (c ≤ 102)) || (decide (65 ≤ c) && decide (c ≤ 70))
theorem hexB_ne (c : Int) (h : hexB c = true) : c ≠ 34 ∧ c ≠ 92 := by simp [hexB] at h; omega

theorem hex_any (c : Int) (w : World) : Calls Try.prog 46 #[.int .u8 c] w fun e w' => e = .returned (.bool (hexB c)) ∧ w' = w := by
  rcases (show (c < 48) ∨ (48 ≤ c ∧ c ≤ 57) ∨ (57 < c ∧ c < 65) ∨ (65 ≤ c ∧ c ≤ 70) ∨ (70 < c ∧ c < 97) ∨ (97 ≤ c ∧ c ≤ 102) ∨ (102 < c) by omega) with h | h | h | h | h | h | h
  · have e1 : hexB c = false := by simp [hexB]; omega
    have d1 : decide (48 ≤ c) = false := by simp; omega
    have d2 : decide (97 ≤ c) = false := by simp; omega
    have d3 : decide (65 ≤ c) = false := by simp; omega
    rw [e1]
    clear e1
    go_enter Try.func46, Try.ntmps46
    go_wp2
    go_ret
    exact ⟨rfl, rfl⟩
  · have e1 : hexB c = true := by simp [hexB]; omega
    have d1 : decide (48 ≤ c) = true := by simp; omega
    have d4 : decide (c ≤ 57) = true := by simp; omega
    rw [e1]
    clear e1
    go_enter Try.func46, Try.ntmps46
    go_wp2
    go_ret
    exact ⟨rfl, rfl⟩
  · have e1 : hexB c = false := by simp [hexB]; omega
    have d1 : decide (48 ≤ c) = true := by simp; omega
    have d4 : decide (c ≤ 57) = false := by simp; omega
    have d2 : decide (97 ≤ c) = false := by simp; omega
    have d3 : decide (65 ≤ c) = false := by simp; omega
    rw [e1]
    clear e1
    go_enter Try.func46, Try.ntmps46
    go_wp2
    go_ret
    exact ⟨rfl, rfl⟩
  · have e1 : hexB c = true := by simp [hexB]; omega
    have d1 : decide (48 ≤ c) = true := by simp; omega
    have d4 : decide (c ≤ 57) = false := by simp; omega
    have d2 : decide (97 ≤ c) = false := by simp; omega
    have d3 : decide (65 ≤ c) = true := by simp; omega
    have d5 : decide (c ≤ 70) = true := by simp; omega
    rw [e1]
    clear e1
    go_enter Try.func46, Try.ntmps46
    go_wp2
    go_ret
    exact ⟨rfl, rfl⟩
  · have e1 : hexB c = false := by simp [hexB]; omega
    have d1 : decide (48 ≤ c) = true := by simp; omega
    have d4 : decide (c ≤ 57) = false := by simp; omega
    have d2 : decide (97 ≤ c) = false := by simp; omega
    have d3 : decide (65 ≤ c) = true := by simp; omega
    have d5 : decide (c ≤ 70) = false := by simp; omega
    rw [e1]
    clear e1
    go_enter Try.func46, Try.ntmps46
    go_wp2
    go_ret
    exact ⟨rfl, rfl⟩
  · have e1 : hexB c = true := by simp [hexB]; omega
    have d1 : decide (48 ≤ c) = true := by simp; omega
    have d4 : decide (c ≤ 57) = false := by simp; omega
    have d2 : decide (97 ≤ c) = true := by simp; omega
    have d3 : decide (c ≤ 102) = true := by simp; omega
    rw [e1]
    clear e1
    go_enter Try.func46, Try.ntmps46
    go_wp2
    go_ret
    exact ⟨rfl, rfl⟩
  · have e1 : hexB c = false := by simp [hexB]; omega
    have d1 : decide (48 ≤ c) = true := by simp; omega
    have d4 : decide (c ≤ 57) = false := by simp; omega
    have d2 : decide (97 ≤ c) = true := by simp; omega
    have d6 : decide (c ≤ 102) = false := by simp; omega
    have d3 : decide (65 ≤ c) = true := by simp; omega
    have d5 : decide (c ≤ 70) = false := by simp; omega
    rw [e1]
    clear e1
    go_enter Try.func46, Try.ntmps46
    go_wp2
    go_ret
    exact ⟨rfl, rfl⟩

section
variable {W : World} {P rb ro n cap : Nat} {raw : List Int} {w : World} {pos : Nat} {sv ev : Value} {T : List (Int × Int)}

/-- A run of digits. -/
def Digs (raw : List Int) (n a b : Nat) : Prop := a ≤ b ∧ b ≤ n ∧ ∀ j, a ≤ j → j < b → 48 ≤ rd raw j ∧ rd raw j ≤ 57
theorem digs_succ {a b : Nat} (h : Digs raw n a b) (hb : b < n) (hw : 48 ≤ rd raw b ∧ rd raw b ≤ 57) : Digs raw n a (b + 1) :=
  ⟨by have := h.1; omega, by omega, fun j h1 h2 => by
    by_cases e : j = b
    · subst e; exact hw
    · exact h.2.2 j h1 (by omega)⟩

def digAt (raw : List Int) (n pos : Nat) : Bool := decide (pos < n) && dgB (rd raw pos)

set_option maxHeartbeats 1000000 in
theorem digits_any (C : Ctx W P rb ro n raw) (h : PS W P rb ro n cap w pos sv ev T) :
    Calls Try.prog 47 #[.pointer (some ⟨P, 0, none⟩)] w fun e w' => e = .returned (.bool (digAt raw n pos)) ∧ ∃ pos', PS W P rb ro n cap w' pos' sv ev T ∧ Digs raw n pos pos' ∧ (digAt raw n pos = true → pos < pos') := by
  have hbig := C.big
  have hpn := h.pn
  have HC : Hid (Ctx W P rb ro n raw) := C
  have HP0 : Hid (PS W P rb ro n cap w pos sv ev T) := h
  have c0 := h.c0
  have c1 := h.c1
  by_cases hlt : pos < n
  · have c := h.rc C pos hlt
    have hdA : digAt raw n pos = dgB (rd raw pos) := by simp [digAt, hlt]
    have HDA : Hid (digAt raw n pos = dgB (rd raw pos)) := hdA
    rw [hdA]
    have hw := digit_any (rd raw pos)
    have i1 : (0 : Int) ≤ (pos : Int) := by omega
    have i2 : (pos : Int) < (n : Int) := by omega
    have i3 : decide ((n : Int) ≤ (pos : Int)) = false := by simp; omega
    clear h C hdA
    generalize hx : rd raw pos = x at *
    have HX : Hid (rd raw pos = x) := hx
    clear hx
    cases hd : dgB x with
    | false =>
      rw [hd] at hw
      go_enter Try.func47, Try.ntmps47
      go_wp2_with fail
      go_quiet ((go_at_call 49; exact Calls.quiet_of_same (hw _)))
      go_wp2
      go_ret
      exact ⟨rfl, pos, HP0.out.drewN _, ⟨Nat.le_refl _, by omega, fun j h1 h2 => by omega⟩, fun h => by cases h⟩
    | true =>
      rw [hd] at hw
      have HD : Hid (48 ≤ rd raw pos ∧ rd raw pos ≤ 57) := by rw [Hid, HX.out]; exact (dgB_iff x).1 hd
      go_enter Try.func47, Try.ntmps47
      go_wp2_with fail
      go_quiet ((go_at_call 49; exact Calls.quiet_of_same (hw _)))
      go_wp2
      go_loopg [] (n - pos) (fun k wr => ∃ p : Nat, k = n - p ∧ PS W P rb ro n cap wr p sv ev T ∧ Digs raw n pos p)
      case atStart => exact ⟨pos, rfl, HP0.out.drewN _, Nat.le_refl _, by omega, fun j h1 h2 => by omega⟩
      case round =>
        clear hw c c0 c1
        obtain ⟨p, rfl, hp, hs⟩ := hrel
        have HP : Hid (PS W P rb ro n cap wr p sv ev T) := hp
        have HS : Hid (Digs raw n pos p) := hs
        have hpn' := hp.pn
        have c0 := hp.c0
        have c1 := hp.c1
        have fz := hp.fz 1
        by_cases hlt' : p < n
        · have c := hp.rc HC.out p hlt'
          have hw := digit_any (rd raw p)
          have HW : Hid (dgB (rd raw p) = true ↔ 48 ≤ rd raw p ∧ rd raw p ≤ 57) := dgB_iff _
          have j1 : (0 : Int) ≤ (p : Int) := by omega
          have j2 : (p : Int) < (n : Int) := by omega
          clear hp hs
          generalize hy : rd raw p = y at *
          have HY : Hid (rd raw p = y) := hy
          clear hy
          cases hdy : dgB y with
          | true =>
            rw [hdy] at hw
            go_wp2_with fail
            go_quiet ((go_at_call 49; exact Calls.quiet_of_same (hw _)))
            go_wp2
            go_roundg (n - (p + 1))
            case measure => omega
            case rel => exact ⟨p + 1, rfl, (HP.out.drewN _).setPos (p + 1) _ (by omega) (by have := HP.out.le; omega) (by omega), digs_succ HS.out hlt' (by rw [HY.out]; exact HW.out.1 hdy)⟩
          | false =>
            rw [hdy] at hw
            have hne : pos < p := by
              rcases Nat.lt_or_ge pos p with hh | hh
              · exact hh
              · have e : p = pos := Nat.le_antisymm hh HS.out.1
                have := HD.out
                rw [← e, HY.out, ← dgB_iff, hdy] at this
                cases this
            go_wp2_with fail
            go_quiet ((go_at_call 49; exact Calls.quiet_of_same (hw _)))
            go_wp2
            go_ret
            exact ⟨rfl, p, HP.out.drewN _, HS.out, fun _ => hne⟩
        · have j2 : decide ((p : Int) < (n : Int)) = false := by simp; omega
          clear hp hs
          go_wp2_with fail
          go_quiet (fail)
          go_wp2
          go_ret
          exact ⟨rfl, p, HP.out.drewN _, HS.out, fun _ => by omega⟩
  · have hdA : digAt raw n pos = false := by simp [digAt, hlt]
    rw [hdA]
    have i3 : decide ((n : Int) ≤ (pos : Int)) = true := by simp; omega
    clear h C hdA
    go_enter Try.func47, Try.ntmps47
    go_wp2_with fail
    go_quiet (fail)
    go_wp2
    go_ret
    exact ⟨rfl, pos, HP0.out.drewN _, ⟨Nat.le_refl _, by omega, fun j h1 h2 => by omega⟩, fun h => by cases h⟩
end
end Go.Proofs.Qxb6603026a
