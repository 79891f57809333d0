/-
  Walks of seat b6603026a: the parser's state in memory; peek, skipSpace, the tests on bytes.
-/
import Derived.Test.Qxb6603026aRows
import Derived.Test.Qxb6603026aGram
import Derived.WalkKit
import Derived.WalkSpells
import Derived.WalkLawsBesides
import Derived.OpenShut
import Derived.Deep.QuietTactic
import Derived.BigQuiet
import Derived.Deep.Draws
import Derived.Deep.RegionHeld3
import Derived.Deep.AppendLies
import Derived.Deep.DrawnRows
import Derived.Deep.LoopGhost
namespace Go.Proofs.Qxb6603026a
open Go.RowKit Gram

theorem info5 : (Try.prog.info? 5).map (fun i => (i.zero, i.size, i.bytes)) = some (some (.int .u8 0), 1, 1) := by kernel_rfl
theorem info21 : (Try.prog.info? 21).map (fun i => (i.zero, i.size, i.bytes)) = some (some (.int .i32 0), 1, 4) := by kernel_rfl

theorem ret_bool {a b : Bool} (h : a = b) : Ending.returned (.bool a) = .returned (.bool b) := by rw [h]
theorem ret_int {k : IntKind} {a b : Int} (h : a = b) : Ending.returned (.int k a) = .returned (.int k b) := by rw [h]

/-- What is known of the text, in the world W in which it came in: it lies below block P. -/
structure Ctx (W : World) (P rb ro n : Nat) (raw : List Int) : Prop where
  lt : rb < P
  big : n ≤ 1048576
  byte : ∀ k, k < n → 0 ≤ rd raw k ∧ rd raw k < 256
  cell : ∀ k, k < n → W.cell? ⟨rb, ro + k, none⟩ = some (.int .u8 (rd raw k))

/-- The parser's state: at block P the text's slice, the place, the two lists of numbers. -/
structure PS (W : World) (P rb ro n cap : Nat) (w : World) (pos : Nat) (sv ev : Value) (T : List (Int × Int)) : Prop where
  below : Below P W w
  blk : w.heap[P]? = some (.cells #[.slice (some ⟨rb, ro, none⟩) n cap, .int .i64 (pos : Int), sv, ev] 44 (0, 0))
  so : w.ownsRow (P + 1) 21 1 sv T.length (T.map fun t => Value.int .i32 t.1)
  eo : w.ownsRow (P + 1) 21 1 ev T.length (T.map fun t => Value.int .i32 t.2)
  ap : sv.ownBlock = none ∨ sv.ownBlock ≠ ev.ownBlock
  le : T.length ≤ pos
  pn : pos ≤ n

section
variable {W : World} {P rb ro n cap : Nat} {raw : List Int} {w : World} {pos : Nat} {sv ev : Value} {T : List (Int × Int)}

theorem PS.c0 (h : PS W P rb ro n cap w pos sv ev T) : w.cell? ⟨P, 0, none⟩ = some (.slice (some ⟨rb, ro, none⟩) n cap) := by rw [cell_of_row w P 0 _ _ _ h.blk]; rfl
theorem PS.c1 (h : PS W P rb ro n cap w pos sv ev T) : w.cell? ⟨P, 1, none⟩ = some (.int .i64 (pos : Int)) := by rw [cell_of_row w P 1 _ _ _ h.blk]; rfl
theorem PS.c2 (h : PS W P rb ro n cap w pos sv ev T) : w.cell? ⟨P, 2, none⟩ = some sv := by rw [cell_of_row w P 2 _ _ _ h.blk]; rfl
theorem PS.c3 (h : PS W P rb ro n cap w pos sv ev T) : w.cell? ⟨P, 3, none⟩ = some ev := by rw [cell_of_row w P 3 _ _ _ h.blk]; rfl
theorem PS.fz (h : PS W P rb ro n cap w pos sv ev T) (j : Nat) : w.frozen? ⟨P, j, none⟩ = false := frozen_of_row w P j _ _ h.blk
theorem PS.rc (h : PS W P rb ro n cap w pos sv ev T) (C : Ctx W P rb ro n raw) (k : Nat) (hk : k < n) : w.cell? ⟨rb, ro + k, none⟩ = some (.int .u8 (rd raw k)) := by
  rw [h.below.cell (p := ⟨rb, ro + k, none⟩) C.lt]; exact C.cell k hk
theorem PS.lt (h : PS W P rb ro n cap w pos sv ev T) : P < w.heap.size := (Array.getElem?_eq_some_iff.1 h.blk).1

theorem PS.drewN (h : PS W P rb ro n cap w pos sv ev T) (q : Nat) : PS W P rb ro n cap (w.drewN q) pos sv ev T :=
  ⟨⟨h.below.os, h.below.tape, h.below.output, h.below.size, h.below.block⟩, h.blk, h.so, h.eo, h.ap, h.le, h.pn⟩

theorem PS.setPos (h : PS W P rb ro n cap w pos sv ev T) (pos' : Nat) (x : Int) (hx : x = (pos' : Int)) (h1 : T.length ≤ pos') (h2 : pos' ≤ n) : PS W P rb ro n cap (w.setCell ⟨P, 1, none⟩ (.int .i64 x)) pos' sv ev T := by
  subst hx
  refine ⟨h.below.setCell (Nat.le_refl _) _, ?_, ownsRow_setCell_below h.so (by simp) _, ownsRow_setCell_below h.eo (by simp) _, h.ap, h1, h2⟩
  rw [heap_setCell_same w P 1 _ 44 _ h.blk]; rfl

/-- What 'peek' answers. -/
def pk (raw : List Int) (n pos : Nat) : Int := if pos < n then rd raw pos else -1

set_option maxHeartbeats 400000 in
theorem peek_any (C : Ctx W P rb ro n raw) (h : PS W P rb ro n cap w pos sv ev T) :
    Calls Try.prog 39 #[.pointer (some ⟨P, 0, none⟩)] w fun e w' => e = .returned (.int .i64 (pk raw n pos)) ∧ PS W P rb ro n cap w' pos sv ev T := by
  have hbig := C.big
  have hpn := h.pn
  have H := fun q => h.drewN q
  have c0 := h.c0
  have c1 := h.c1
  by_cases hlt : pos < n
  · have hpk : pk raw n pos = rd raw pos := by simp [pk, hlt]
    rw [hpk]
    have hb := C.byte pos hlt
    have c := h.rc C pos hlt
    generalize rd raw pos = x at *
    clear hpk
    obtain ⟨hb1, hb2⟩ := hb
    have i1 : (0 : Int) ≤ (pos : Int) := by omega
    have i2 : (pos : Int) < (n : Int) := by omega
    clear h C
    go_enter Try.func39, Try.ntmps39
    go_wp2
    go_quiet (fail)
    go_wp2
    go_quiet (fail)
    go_wp2
    go_ret
    exact ⟨rfl, (H _).drewN _⟩
  · have hpk : pk raw n pos = -1 := by simp [pk, hlt]
    rw [hpk]
    have i2 : decide ((pos : Int) < (n : Int)) = false := by simp; omega
    clear hpk h C
    go_enter Try.func39, Try.ntmps39
    go_wp2
    go_quiet (fail)
    go_wp2
    go_ret
    exact ⟨rfl, H _⟩

/-- isJSONSpace. -/
def wsB (c : Int) : Bool := c == 32 || c == 9 || c == 13 || c == 10
theorem wsB_iff (c : Int) : wsB c = true ↔ isWs c := by simp [wsB, isWs, or_assoc]
theorem ws_any (c : Int) (w : World) : Calls Try.prog 36 #[.int .u8 c] w fun e w' => e = .returned (.bool (wsB c)) ∧ w' = w := by
  unfold wsB
  cases h1 : c == 32 with
  | true =>
    go_enter Try.func36, Try.ntmps36
    go_wp2
    go_ret
    exact ⟨rfl, rfl⟩
  | false =>
    cases h2 : c == 9 with
    | true =>
      go_enter Try.func36, Try.ntmps36
      go_wp2
      go_ret
      exact ⟨rfl, rfl⟩
    | false =>
      cases h3 : c == 13 with
      | true =>
        go_enter Try.func36, Try.ntmps36
        go_wp2
        go_ret
        exact ⟨rfl, rfl⟩
      | false =>
        go_enter Try.func36, Try.ntmps36
        go_wp2
        go_ret
        exact ⟨by simp, rfl⟩

theorem spaces_succ {a b : Nat} (h : Spaces raw n a b) (hb : b < n) (hw : isWs (rd raw b)) : Spaces raw n a (b + 1) :=
  ⟨by have := h.1; omega, by omega, fun j h1 h2 => by
    by_cases e : j = b
    · subst e; exact hw
    · exact h.2.2 j h1 (by omega)⟩

set_option maxHeartbeats 1000000 in
theorem space_any (C : Ctx W P rb ro n raw) (h : PS W P rb ro n cap w pos sv ev T) :
    Calls Try.prog 33 #[.pointer (some ⟨P, 0, none⟩)] w fun e w' => e = .returned (.tuple #[]) ∧ ∃ pos', PS W P rb ro n cap w' pos' sv ev T ∧ Spaces raw n pos pos' := by
  have hbig := C.big
  have HC : Hid (Ctx W P rb ro n raw) := C
  clear C
  go_enter Try.func33, Try.ntmps33
  go_wp2
  go_loopg [] (n - pos) (fun k wr => ∃ p : Nat, k = n - p ∧ PS W P rb ro n cap wr p sv ev T ∧ Spaces raw n pos p)
  case atStart => exact ⟨pos, rfl, h, Nat.le_refl _, h.pn, fun j h1 h2 => by omega⟩
  case round =>
    clear h
    obtain ⟨p, rfl, hp, hs⟩ := hrel
    have HP : Hid (PS W P rb ro n cap wr p sv ev T) := hp
    have HS : Hid (Spaces raw n pos p) := hs
    have hpn := hp.pn
    have c0 := hp.c0
    have c1 := hp.c1
    have fz := hp.fz 1
    by_cases hlt : p < n
    · have c := hp.rc HC.out p hlt
      have hb := HC.out.byte p hlt
      have hw := ws_any (rd raw p)
      have HW : Hid (wsB (rd raw p) = true ↔ isWs (rd raw p)) := wsB_iff _
      have i1 : (0 : Int) ≤ (p : Int) := by omega
      have i2 : (p : Int) < (n : Int) := by omega
      clear hp hs
      generalize hx : rd raw p = x at *
      have HX : Hid (rd raw p = x) := hx
      clear hx
      cases hws : wsB x with
      | true =>
        rw [hws] at hw
        go_wp2_with fail
        go_quiet ((go_at_call 36; exact Calls.quiet_of_same (hw _)))
        go_wp2
        go_roundg (n - (p + 1))
        case measure => omega
        case rel => exact ⟨p + 1, rfl, (HP.out.drewN _).setPos (p + 1) _ (by omega) (by have := HP.out.le; omega) (by omega), spaces_succ HS.out hlt (by rw [HX.out]; exact HW.out.1 hws)⟩
      | false =>
        rw [hws] at hw
        go_wp2_with fail
        go_quiet ((go_at_call 36; exact Calls.quiet_of_same (hw _)))
        go_wp2
        go_end0
        exact ⟨rfl, p, HP.out.drewN _, HS.out⟩
    · have i2 : decide ((p : Int) < (n : Int)) = false := by simp; omega
      clear hp hs
      go_wp2_with fail
      go_quiet (fail)
      go_wp2
      go_end0
      exact ⟨rfl, p, HP.out.drewN _, HS.out⟩
end
end Go.Proofs.Qxb6603026a
