/-
  Walks of seat b6603026a: value.
-/
import Derived.Test.Qxb6603026aObject
import Derived.Test.Qxb6603026aList
namespace Go.Proofs.Qxb6603026a
open Go.RowKit Gram

section
variable {W : World} {P rb ro n cap : Nat} {raw : List Int} {w : World} {pos : Nat} {sv ev : Value} {T : List (Int × Int)}

theorem str_to_val (hp : pos < n) (hq : rd raw pos = 34) {e : Ending} {w' : World} (h : StrPost W P rb ro n cap raw pos T e w') : ValPost W P rb ro n cap raw pos T e w' := by
  obtain ⟨b, h1, h2, h3⟩ := h
  refine ⟨b, h1, h2, fun hb => ?_⟩
  obtain ⟨s, v, r, h4, h5⟩ := h3 hb
  exact ⟨s, v, r + 1, _, h4, by have := h5.le.1; omega, fun _ => Val.str _ _ _ hp hq h5⟩

theorem num_to_val {e : Ending} {w' : World} (h : NumPost W P rb ro n cap raw pos T e w') : ValPost W P rb ro n cap raw pos T e w' := by
  obtain ⟨b, h1, h2, h3⟩ := h
  refine ⟨b, h1, h2, fun hb => ?_⟩
  obtain ⟨s, v, p, h4, h5, h6⟩ := h3 hb
  exact ⟨s, v, p, _, h4, h5, fun hf => Val.lit _ _ _ h5 h6.2.1 h6.2.2 hf⟩

/-- A word whose letters are none of the marks. -/
theorem word_val (C : Ctx W P rb ro n raw) (h : PS W P rb ro n cap w pos sv ev T) (s : ByteArray) (h0 : 0 < s.size) (h5 : s.size ≤ 5) (hl : ∀ j (hj : j < s.size), isLit (s[j].toNat : Int)) :
    Calls Try.prog 44 #[.pointer (some ⟨P, 0, none⟩), .string s] w fun e w' => ValPost W P rb ro n cap raw pos T e w' := by
  refine (word_tail C h s h0 h5).mono ?_
  rintro e w' ⟨b, h1, h2, h3⟩
  refine ⟨b, h1, h2, fun hb => ?_⟩
  obtain ⟨s', v', h4, h6⟩ := h3 hb
  refine ⟨s', v', pos + s.size, _, h4, by omega, fun hf => Val.lit _ _ _ (by omega) h4.pn (fun j h7 h8 => ?_) hf⟩
  have := h6 (j - pos) (by omega)
  rw [show pos + (j - pos) = j by omega] at this
  rw [this]
  exact hl _ _

theorem true_lit : ∀ j (hj : j < (⟨#[116, 114, 117, 101]⟩ : ByteArray).size), isLit (((⟨#[116, 114, 117, 101]⟩ : ByteArray)[j]).toNat : Int) := by
  intro j hj
  have hj4 : j < 4 := hj
  match j, hj4 with
  | 0, _ => show isLit ((116 : UInt8).toNat : Int); unfold isLit; decide
  | 1, _ => show isLit ((114 : UInt8).toNat : Int); unfold isLit; decide
  | 2, _ => show isLit ((117 : UInt8).toNat : Int); unfold isLit; decide
  | 3, _ => show isLit ((101 : UInt8).toNat : Int); unfold isLit; decide
theorem false_lit : ∀ j (hj : j < (⟨#[102, 97, 108, 115, 101]⟩ : ByteArray).size), isLit (((⟨#[102, 97, 108, 115, 101]⟩ : ByteArray)[j]).toNat : Int) := by
  intro j hj
  have hj4 : j < 5 := hj
  match j, hj4 with
  | 0, _ => show isLit ((102 : UInt8).toNat : Int); unfold isLit; decide
  | 1, _ => show isLit ((97 : UInt8).toNat : Int); unfold isLit; decide
  | 2, _ => show isLit ((108 : UInt8).toNat : Int); unfold isLit; decide
  | 3, _ => show isLit ((115 : UInt8).toNat : Int); unfold isLit; decide
  | 4, _ => show isLit ((101 : UInt8).toNat : Int); unfold isLit; decide
theorem null_lit : ∀ j (hj : j < (⟨#[110, 117, 108, 108]⟩ : ByteArray).size), isLit (((⟨#[110, 117, 108, 108]⟩ : ByteArray)[j]).toNat : Int) := by
  intro j hj
  have hj4 : j < 4 := hj
  match j, hj4 with
  | 0, _ => show isLit ((110 : UInt8).toNat : Int); unfold isLit; decide
  | 1, _ => show isLit ((117 : UInt8).toNat : Int); unfold isLit; decide
  | 2, _ => show isLit ((108 : UInt8).toNat : Int); unfold isLit; decide
  | 3, _ => show isLit ((108 : UInt8).toNat : Int); unfold isLit; decide

theorem object_deep (d : Nat) (hd : 10000 < d) (hd2 : d ≤ 10001) (a : Option Addr) (w : World) : Calls Try.prog 40 #[.pointer a, .int .i64 (d : Int)] w fun e w' => e = .returned (.bool false) ∧ w' = w := by
  go_enter Try.func40, Try.ntmps40
  go_wp2
  go_ret
  exact ⟨rfl, rfl⟩
theorem list_deep (d : Nat) (hd : 10000 < d) (hd2 : d ≤ 10001) (a : Option Addr) (w : World) : Calls Try.prog 41 #[.pointer a, .int .i64 (d : Int)] w fun e w' => e = .returned (.bool false) ∧ w' = w := by
  go_enter Try.func41, Try.ntmps41
  go_wp2
  go_ret
  exact ⟨rfl, rfl⟩

/-- 'object' and 'list' one deeper. -/
def OSaid (W : World) (P rb ro n cap : Nat) (raw : List Int) (d : Nat) (f : Nat) (c : Int) : Prop :=
  ∀ (w : World) (pos : Nat) (sv ev : Value) (T : List (Int × Int)), PS W P rb ro n cap w pos sv ev T → pos < n → rd raw pos = c → Calls Try.prog f #[.pointer (some ⟨P, 0, none⟩), .int .i64 ((d : Int) + 1)] w fun e w' => ValPost W P rb ro n cap raw pos T e w'

set_option maxHeartbeats 1000000 in
theorem value_step (C : Ctx W P rb ro n raw) (d : Nat) (hd : d ≤ 10000) (hO : OSaid W P rb ro n cap raw d 40 123) (hL : OSaid W P rb ro n cap raw d 41 91) (hSt : SSaid W P rb ro n cap raw) : VSaid W P rb ro n cap raw d := by
  intro w pos sv ev T h
  have hpk := peek_any C h
  have HC : Hid (Ctx W P rb ro n raw) := C
  generalize hx : pk raw n pos = x at hpk
  have HX : Hid (pk raw n pos = x) := hx
  clear hx C h
  by_cases h1 : x = 123
  · subst h1
    obtain ⟨hl, hr⟩ := pk_hit HX.out (by decide)
    have HR : Hid (rd raw pos = 123) := hr
    clear hr
    go_enter Try.func34, Try.ntmps34
    go_wp2_with (go_at_call 39; refine hpk.mono ?_; rintro e w1 ⟨rfl, hps⟩)
    refine (hO w1 pos sv ev T hps hl HR.out).mono ?_
    rintro e w2 ⟨b, rfl, h3, h4⟩
    clear hpk hps
    go_wp2_with fail
    go_ret
    exact ⟨b, rfl, h3, h4⟩
  by_cases h2 : x = 91
  · subst h2
    obtain ⟨hl, hr⟩ := pk_hit HX.out (by decide)
    have HR : Hid (rd raw pos = 91) := hr
    clear hr h1
    go_enter Try.func34, Try.ntmps34
    go_wp2_with (go_at_call 39; refine hpk.mono ?_; rintro e w1 ⟨rfl, hps⟩)
    refine (hL w1 pos sv ev T hps hl HR.out).mono ?_
    rintro e w2 ⟨b, rfl, h3, h4⟩
    clear hpk hps
    go_wp2_with fail
    go_ret
    exact ⟨b, rfl, h3, h4⟩
  by_cases h3 : x = 34
  · subst h3
    obtain ⟨hl, hr⟩ := pk_hit HX.out (by decide)
    have HR : Hid (rd raw pos = 34) := hr
    clear hr h1 h2
    go_enter Try.func34, Try.ntmps34
    go_wp2_with (go_at_call 39; refine hpk.mono ?_; rintro e w1 ⟨rfl, hps⟩)
    refine (hSt w1 pos sv ev T hps hl).mono ?_
    rintro e w2 hpost
    obtain ⟨b, rfl, h3, h4⟩ := str_to_val hl HR.out hpost
    clear hpk hps hpost
    go_wp2_with fail
    go_ret
    exact ⟨b, rfl, h3, h4⟩
  have e1 : (x == 123) = false := by simpa using h1
  have e2 : (x == 91) = false := by simpa using h2
  have e3 : (x == 34) = false := by simpa using h3
  clear h1 h2 h3
  by_cases h4 : x = 45
  · subst h4
    go_enter Try.func34, Try.ntmps34
    go_wp2_with (go_at_call 39; refine hpk.mono ?_; rintro e w1 ⟨rfl, hps⟩)
    refine (number_any HC.out hps).mono ?_
    rintro e w2 hpost
    obtain ⟨b, rfl, h3, h4⟩ := num_to_val hpost
    clear hpk hps hpost
    go_wp2_with fail
    go_ret
    exact ⟨b, rfl, h3, h4⟩
  have e4 : (x == 45) = false := by simpa using h4
  clear h4
  by_cases h5 : 48 ≤ x
  · by_cases h6 : x ≤ 57
    · go_enter Try.func34, Try.ntmps34
      go_wp2_with (go_at_call 39; refine hpk.mono ?_; rintro e w1 ⟨rfl, hps⟩)
      refine (number_any HC.out hps).mono ?_
      rintro e w2 hpost
      obtain ⟨b, rfl, h3, h4⟩ := num_to_val hpost
      clear hpk hps hpost
      go_wp2_with fail
      go_ret
      exact ⟨b, rfl, h3, h4⟩
    · have e6 : decide (x ≤ 57) = false := by simpa using h6
      clear h6
      by_cases h7 : x = 116
      · subst h7
        go_enter Try.func34, Try.ntmps34
        go_wp2_with (go_at_call 39; refine hpk.mono ?_; rintro e w1 ⟨rfl, hps⟩)
        refine (word_val HC.out hps ⟨#[116, 114, 117, 101]⟩ (by decide) (by decide) true_lit).mono ?_
        rintro e w2 ⟨b, rfl, h3, h4⟩
        clear hpk hps
        go_wp2_with fail
        go_ret
        exact ⟨b, rfl, h3, h4⟩
      have e7 : (x == 116) = false := by simpa using h7
      clear h7
      by_cases h8 : x = 102
      · subst h8
        go_enter Try.func34, Try.ntmps34
        go_wp2_with (go_at_call 39; refine hpk.mono ?_; rintro e w1 ⟨rfl, hps⟩)
        refine (word_val HC.out hps ⟨#[102, 97, 108, 115, 101]⟩ (by decide) (by decide) false_lit).mono ?_
        rintro e w2 ⟨b, rfl, h3, h4⟩
        clear hpk hps
        go_wp2_with fail
        go_ret
        exact ⟨b, rfl, h3, h4⟩
      have e8 : (x == 102) = false := by simpa using h8
      clear h8
      by_cases h9 : x = 110
      · subst h9
        go_enter Try.func34, Try.ntmps34
        go_wp2_with (go_at_call 39; refine hpk.mono ?_; rintro e w1 ⟨rfl, hps⟩)
        refine (word_val HC.out hps ⟨#[110, 117, 108, 108]⟩ (by decide) (by decide) null_lit).mono ?_
        rintro e w2 ⟨b, rfl, h3, h4⟩
        clear hpk hps
        go_wp2_with fail
        go_ret
        exact ⟨b, rfl, h3, h4⟩
      have e9 : (x == 110) = false := by simpa using h9
      clear h9
      go_enter Try.func34, Try.ntmps34
      go_wp2_with (go_at_call 39; refine hpk.mono ?_; rintro e w1 ⟨rfl, hps⟩)
      go_ret
      exact ⟨false, rfl, hps.below, fun h => by cases h⟩
  · have e5 : decide (48 ≤ x) = false := by simpa using h5
    have e7 : (x == 116) = false := by rw [beq_eq_false_iff_ne]; omega
    have e8 : (x == 102) = false := by rw [beq_eq_false_iff_ne]; omega
    have e9 : (x == 110) = false := by rw [beq_eq_false_iff_ne]; omega
    clear h5
    go_enter Try.func34, Try.ntmps34
    go_wp2_with (go_at_call 39; refine hpk.mono ?_; rintro e w1 ⟨rfl, hps⟩)
    go_ret
    exact ⟨false, rfl, hps.below, fun h => by cases h⟩

/-- 'value' at every depth, by the depth that is left. -/
theorem value_all (C : Ctx W P rb ro n raw) (hSt : SSaid W P rb ro n cap raw) : ∀ (f d : Nat), d + f = 10000 → VSaid W P rb ro n cap raw d := by
  intro f
  induction f with
  | zero =>
    intro d hd
    have e : ((d + 1 : Nat) : Int) = (d : Int) + 1 := by omega
    refine value_step C d (by omega) ?_ ?_ hSt
    · intro w pos sv ev T h _ _
      have := object_deep (d + 1) (by omega) (by omega) (some ⟨P, 0, none⟩) w
      rw [e] at this
      refine this.mono ?_
      rintro _ w' ⟨rfl, rfl⟩
      exact ⟨false, rfl, h.below, fun h => by cases h⟩
    · intro w pos sv ev T h _ _
      have := list_deep (d + 1) (by omega) (by omega) (some ⟨P, 0, none⟩) w
      rw [e] at this
      refine this.mono ?_
      rintro _ w' ⟨rfl, rfl⟩
      exact ⟨false, rfl, h.below, fun h => by cases h⟩
  | succ f ih =>
    intro d hd
    have e : ((d + 1 : Nat) : Int) = (d : Int) + 1 := by omega
    have hV := ih (d + 1) (by omega)
    refine value_step C d (by omega) ?_ ?_ hSt
    · intro w pos sv ev T h h1 h2
      have := object_any C (d + 1) (by omega) hSt hV h h1 h2
      rw [e] at this
      exact this
    · intro w pos sv ev T h h1 h2
      have := list_any C (d + 1) (by omega) hV h h1 h2
      rw [e] at this
      exact this
end
end Go.Proofs.Qxb6603026a
