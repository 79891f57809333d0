/-
  Walks of seat b6603026a: document.
-/
import Derived.Test.Qxb6603026aValue
namespace Go.Proofs.Qxb6603026a
open Go.RowKit Gram

section
variable {W : World} {P rb ro n cap : Nat} {raw : List Int} {w : World} {pos : Nat} {sv ev : Value} {T : List (Int × Int)}

/-- What 'document' leaves. -/
def DocPost (W : World) (P rb ro n cap : Nat) (raw : List Int) (e : Ending) (w' : World) : Prop :=
  ∃ b, e = .returned (.bool b) ∧ Below P W w' ∧ (b = true → ∃ sv ev T, PS W P rb ro n cap w' n sv ev T ∧ Doc raw n T)

set_option maxHeartbeats 1000000 in
theorem doc_any (C : Ctx W P rb ro n raw) (hSt : SSaid W P rb ro n cap raw) (h : PS W P rb ro n cap w 0 sv ev []) :
    Calls Try.prog 26 #[.pointer (some ⟨P, 0, none⟩)] w fun e w' => DocPost W P rb ro n cap raw e w' := by
  have hV : VSaid W P rb ro n cap raw 0 := value_all C hSt 10000 0 (by omega)
  have HC : Hid (Ctx W P rb ro n raw) := C
  have hsp := space_any C h
  clear C h
  go_enter Try.func26, Try.ntmps26
  go_wp2_with fail
  refine hsp.mono ?_
  rintro e w1 ⟨rfl, p1, hps1, hs1⟩
  have HS1 : Hid (Spaces raw n 0 p1) := hs1
  clear hsp hs1
  go_wp2_with fail
  have hv := hV w1 p1 sv ev [] hps1
  rw [show (((0 : Nat)) : Int) = 0 from rfl] at hv
  refine hv.mono ?_
  rintro e w2 ⟨b, rfl, hb2, hval⟩
  clear hps1 hv
  cases b with
  | false =>
    go_wp2_with fail
    go_ret
    exact ⟨false, rfl, hb2, fun h => by cases h⟩
  | true =>
    obtain ⟨s2, v2, p2, T2, hps2, hlt2, hv2⟩ := hval rfl
    have HV2 : Hid (Follow raw n p2 → Val raw n p1 ([] : List (Int × Int)).length p2 T2) := hv2
    have hsp := space_any HC.out hps2
    clear hval hv2
    go_wp2_with fail
    refine hsp.mono ?_
    rintro e w3 ⟨rfl, p3, hps3, hs3⟩
    have HS3 : Hid (Spaces raw n p2 p3) := hs3
    have HP3 : Hid (PS W P rb ro n cap w3 p3 s2 v2 ([] ++ T2)) := hps3
    have c0 := hps3.c0
    have c1 := hps3.c1
    have hpn := hps3.pn
    clear hsp hs3 hps2 hps3
    go_wp2_with fail
    go_quiet (fail)
    go_wp2
    go_ret
    refine ⟨_, rfl, (HP3.out.drewN _).below, fun hb => ?_⟩
    have hpe : p3 = n := by
      have h0 : (p3 : Int) = (n : Int) := by simpa using hb
      omega
    subst hpe
    refine ⟨s2, v2, T2, HP3.out.drewN _, p1, p2, HS1.out, HV2.out (follow_of HS3.out (.inl rfl)), HS3.out⟩

/-! ### The text without a byte -/
theorem space_empty (P cap : Nat) (a : Option Addr) (w : World) (c0 : w.cell? ⟨P, 0, none⟩ = some (.slice a 0 cap)) (c1 : w.cell? ⟨P, 1, none⟩ = some (.int .i64 0)) :
    Calls Try.prog 33 #[.pointer (some ⟨P, 0, none⟩)] w fun e w' => e = .returned (.tuple #[]) ∧ ∃ q, w' = w.drewN q := by
  go_enter Try.func33, Try.ntmps33
  go_wp2
  refine wp_loop_rounds 1 ?_
  rw [rounds_succ]
  go_wp2_with fail
  go_quiet (fail)
  go_wp2
  go_end0
  exact ⟨rfl, _, rfl⟩

theorem peek_empty (P cap : Nat) (a : Option Addr) (w : World) (c0 : w.cell? ⟨P, 0, none⟩ = some (.slice a 0 cap)) (c1 : w.cell? ⟨P, 1, none⟩ = some (.int .i64 0)) :
    Calls Try.prog 39 #[.pointer (some ⟨P, 0, none⟩)] w fun e w' => e = .returned (.int .i64 (-1)) ∧ ∃ q, w' = w.drewN q := by
  go_enter Try.func39, Try.ntmps39
  go_wp2_with fail
  go_quiet (fail)
  go_wp2
  go_ret
  exact ⟨rfl, _, rfl⟩

theorem value_empty (P cap : Nat) (a : Option Addr) (w : World) (c0 : w.cell? ⟨P, 0, none⟩ = some (.slice a 0 cap)) (c1 : w.cell? ⟨P, 1, none⟩ = some (.int .i64 0)) :
    Calls Try.prog 34 #[.pointer (some ⟨P, 0, none⟩), .int .i64 0] w fun e w' => e = .returned (.bool false) ∧ ∃ q, w' = w.drewN q := by
  have H := peek_empty P cap a w c0 c1
  go_enter Try.func34, Try.ntmps34
  go_wp2_with (go_at_call 39; refine H.mono ?_; rintro e w1 ⟨rfl, q, rfl⟩)
  go_ret
  exact ⟨rfl, _, rfl⟩

theorem doc_empty (P cap : Nat) (a : Option Addr) (w : World) (c0 : w.cell? ⟨P, 0, none⟩ = some (.slice a 0 cap)) (c1 : w.cell? ⟨P, 1, none⟩ = some (.int .i64 0)) :
    Calls Try.prog 26 #[.pointer (some ⟨P, 0, none⟩)] w fun e w' => e = .returned (.bool false) ∧ ∃ q, w' = w.drewN q := by
  have H := space_empty P cap a w c0 c1
  have HV := fun q => value_empty P cap a (w.drewN q) c0 c1
  go_enter Try.func26, Try.ntmps26
  go_wp2_with (first | (go_at_call 33; refine H.mono ?_; rintro e w1 ⟨rfl, q, rfl⟩) | (go_at_call 34; refine (HV q).mono ?_; rintro e w2 ⟨rfl, q2, rfl⟩))
  go_ret
  exact ⟨rfl, _, rfl⟩
end
end Go.Proofs.Qxb6603026a
