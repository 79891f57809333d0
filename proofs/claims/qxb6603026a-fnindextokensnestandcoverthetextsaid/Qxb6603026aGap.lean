/-
  Walks of seat b6603026a: isGapByte.
-/
import Derived.Test.Qxb6603026aFront
import Derived.Test.Qxb6603026aCheck
namespace Go.Proofs.Qxb6603026a
open Go.RowKit Gram

def gpB (c : Int) : Bool := wsB c || c == 44 || c == 58 || c == 93 || c == 125
theorem gpB_iff (c : Int) : gpB c = true ↔ gapB c := by
  unfold gpB gapB
  simp only [Bool.or_eq_true, beq_iff_eq, wsB_iff, isWs]
  omega

theorem gap_any (c : Int) (w : World) : Calls Try.prog 30 #[.int .u8 c] w fun e w' => e = .returned (.bool (gpB c)) ∧ w' = w := by
  have hws := ws_any c
  unfold gpB
  cases h0 : wsB c with
  | true =>
    rw [h0] at hws
    go_enter Try.func30, Try.ntmps30
    go_wp2_with (go_at_call 36; refine (hws _).mono ?_; rintro e w ⟨rfl, rfl⟩)
    go_ret
    exact ⟨rfl, rfl⟩
  | false =>
    rw [h0] at hws
    cases h1 : c == 44 with
    | true =>
      go_enter Try.func30, Try.ntmps30
      go_wp2_with (go_at_call 36; refine (hws _).mono ?_; rintro e w ⟨rfl, rfl⟩)
      go_ret
      exact ⟨rfl, rfl⟩
    | false =>
      cases h2 : c == 58 with
      | true =>
        go_enter Try.func30, Try.ntmps30
        go_wp2_with (go_at_call 36; refine (hws _).mono ?_; rintro e w ⟨rfl, rfl⟩)
        go_ret
        exact ⟨rfl, rfl⟩
      | false =>
        cases h3 : c == 93 with
        | true =>
          go_enter Try.func30, Try.ntmps30
          go_wp2_with (go_at_call 36; refine (hws _).mono ?_; rintro e w ⟨rfl, rfl⟩)
          go_ret
          exact ⟨rfl, rfl⟩
        | false =>
          go_enter Try.func30, Try.ntmps30
          go_wp2_with (go_at_call 36; refine (hws _).mono ?_; rintro e w ⟨rfl, rfl⟩)
          go_ret
          exact ⟨by simp, rfl⟩
end Go.Proofs.Qxb6603026a
