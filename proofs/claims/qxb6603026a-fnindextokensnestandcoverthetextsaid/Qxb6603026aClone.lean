/-
  Walks of seat b6603026a: cloneBytes, the bound on the length.
-/
import Derived.Test.Qxb6603026aBase
namespace Go.Proofs.Qxb6603026a
open Go.RowKit

/-- 'clone' after k rounds: what its row holds. -/
theorem set_step (z : List Int) (len k : Nat) (hk : k < len) (hz : len ≤ z.length) :
    (((z.take k ++ List.replicate (len - k) 0).map (Value.int .u8)).set k (.int .u8 (z.getD k 0))) = (z.take (k + 1) ++ List.replicate (len - (k + 1)) 0).map (Value.int .u8) := by
  have h1 : (z.take k).length = k := by rw [List.length_take]; omega
  have h2 : len - k = (len - (k + 1)) + 1 := by omega
  rw [h2, List.replicate_succ, List.map_append, List.set_append_right _ _ (by rw [List.length_map, h1]; exact Nat.le_refl _)]
  rw [List.take_succ_eq_append_getElem (by omega), List.length_map, h1, Nat.sub_self]
  simp only [List.map_append, List.map_cons, List.set_cons_zero, List.append_assoc, List.cons_append, List.nil_append]
  rw [List.getD_eq_getElem?_getD, List.getElem?_eq_getElem (show k < z.length by omega), Option.getD_some]

set_option maxHeartbeats 1000000 in
theorem clone_some (b off len cap : Nat) (z : List Int) (w : World) (hlen : len ≤ 1048576) (hz : len ≤ z.length)
    (hc : ∀ k, k < len → w.cell? ⟨b, off + k, none⟩ = some (.int .u8 (z.getD k 0))) :
    Calls Try.prog 27 #[.slice (some ⟨b, off, none⟩) len cap] w fun e w' =>
      e = .returned (.slice (some ⟨w.heap.size, 0, none⟩) len len) ∧ w'.ownsRow w.heap.size 5 1 (.slice (some ⟨w.heap.size, 0, none⟩) len len) len ((z.take len).map (Value.int .u8)) ∧ Below w.heap.size w w' := by
  obtain ⟨i0, hi, hz0, hz1, hz2⟩ := info_parts info5
  have hnil := fun wx => Lib.run_eql_slice_nil (P := Try.prog) wx 40 5 (some ⟨b, off, none⟩) len cap 0 0 Try.underlying40
  go_enter Try.func27, Try.ntmps27
  go_wp2_with (at_make; refine wpList_make_full _ rfl _ _ 40 rfl w.heap.size 5 i0 (.int .u8 0) 1 Try.underlying40 hi hz0 hz1 _ _ _ _ len rfl rfl (by omega) (by omega) (by rw [hz2]; omega) (by unfold maxLen; omega) (Nat.le_refl _) ?_; intro w0 hown0 hgrow0)
  rw [show (madeCells (Value.int .u8 0).cells (len * 1)).toList = (z.take 0 ++ List.replicate (len - 0) 0).map (Value.int .u8) from by rw [Nat.mul_one]; exact (toList_madeCells_one _ _).trans (by simp)] at hown0
  have hb0 : Below w.heap.size w w0 := (Below.refl _ _).grown hgrow0 (Nat.le_refl _) (fun k h => by cases h)
  clear hgrow0 hnil
  go_loopw [4] (fun i wr => ∃ k : Nat, k ≤ len ∧ i = .int .i64 k ∧ wr.ownsRow w.heap.size 5 1 (.slice (some ⟨w.heap.size, 0, none⟩) len len) len ((z.take k ++ List.replicate (len - k) 0).map (Value.int .u8)) ∧ Below w.heap.size w wr)
    (fun i _ => len - (intOf i).toNat)
  case atStart => exact ⟨0, Nat.zero_le _, rfl, hown0, hb0⟩
  case round =>
    clear hown0 hb0
    obtain ⟨k, hk, rfl, hown, hbel⟩ := hrel
    by_cases hlt : k < len
    · have hcx : wr.cell? ⟨b, off + k, none⟩ = some (.int .u8 (z.getD k 0)) := by
        have h0 := hc k hlt
        rw [hbel.cell (p := ⟨b, off + k, none⟩) (World.block_lt_of_cell? w _ h0)]; exact h0
      have hcd : wr.cell? ⟨w.heap.size, k, none⟩ = some (((z.take k ++ List.replicate (len - k) 0).map (Value.int .u8)).getD k (.int .u8 0)) := by
        rw [hown.cellAt k (by omega), List.getD_eq_getElem?_getD, List.getElem?_eq_getElem (by have := hown.1; omega), Option.getD_some]
      have hfz := hown.frozenAt k
      have hst := hown.stored k (.int .u8 (z.getD k 0))
      have HR : Hid ((wr.setCell ⟨w.heap.size, k, none⟩ (.int .u8 (z.getD k 0))).ownsRow w.heap.size 5 1 (.slice (some ⟨w.heap.size, 0, none⟩) len len) len ((z.take (k + 1) ++ List.replicate (len - (k + 1)) 0).map (Value.int .u8)) ∧ Below w.heap.size w (wr.setCell ⟨w.heap.size, k, none⟩ (.int .u8 (z.getD k 0)))) := by
        refine ⟨?_, hbel.setCell (Nat.le_refl _) _⟩
        rw [← set_step z len k hlt hz]; exact hst.1
      clear hst hown hbel hc
      go_wp2
      go_roundw
      case rel => exact ⟨k + 1, by omega, by go_num, HR.out.1, HR.out.2⟩
      case measure => simp [intOf]; omega
    · obtain rfl : k = len := by omega
      go_wp2
      go_ret
      refine ⟨rfl, ?_, hbel⟩
      rw [show k - k = 0 from Nat.sub_self k, List.replicate_zero, List.append_nil] at hown
      exact hown

/-- The clone of an empty slice that is not nil. -/
theorem clone_empty (x : Addr) (cap : Nat) (w : World) :
    Calls Try.prog 27 #[.slice (some x) 0 cap] w fun e w' =>
      e = .returned (.slice (some ⟨w.heap.size, 0, none⟩) 0 0) ∧ w'.ownsRow w.heap.size 5 1 (.slice (some ⟨w.heap.size, 0, none⟩) 0 0) 0 [] ∧ Below w.heap.size w w' := by
  obtain ⟨i0, hi, hz0, hz1, hz2⟩ := info_parts info5
  have hnil := fun wx => Lib.run_eql_slice_nil (P := Try.prog) wx 40 5 (some x) 0 cap 0 0 Try.underlying40
  go_enter Try.func27, Try.ntmps27
  go_wp2_with (at_make; refine wpList_make_full _ rfl _ _ 40 rfl w.heap.size 5 i0 (.int .u8 0) 1 Try.underlying40 hi hz0 hz1 _ _ _ _ 0 rfl rfl (by omega) (by omega) (by rw [hz2]; omega) (by unfold maxLen; omega) (Nat.le_refl _) ?_; intro w0 hown0 hgrow0)
  refine wp_loop_rounds 1 ?_
  rw [rounds_succ]
  go_wp2
  go_ret
  rw [show (madeCells (Value.int .u8 0).cells (0 * 1)).toList = [] from by rw [Nat.zero_mul]; exact (toList_madeCells_one _ _).trans (by simp)] at hown0
  exact ⟨rfl, hown0, (Below.refl _ _).grown hgrow0 (Nat.le_refl _) (fun k h => by cases h)⟩

theorem clone_nil (w : World) :
    Calls Try.prog 27 #[.slice none 0 0] w fun e w' => e = .returned (.slice none 0 0) ∧ w' = w := by
  have hnil := fun wx => Lib.run_eql_slice_nil (P := Try.prog) wx 40 5 none 0 0 0 0 Try.underlying40
  go_enter Try.func27, Try.ntmps27
  go_wp2
  go_ret
  exact ⟨rfl, rfl⟩

/-- What is known of a slice of bytes that came in. -/
def IsRow (k : IntKind) (w : World) (a : Option Addr) (len cap : Nat) (zs : List Int) : Prop :=
  (a = none ∧ len = 0 ∧ cap = 0 ∧ zs = []) ∨
  ∃ x, a = some x ∧ len ≤ cap ∧ cap ≤ maxLen ∧ zs.length = cap ∧ (∀ i, i < zs.length → w.cell? (x.add i) = some (.int k (zs.getD i 0))) ∧ ∀ n ∈ zs, (Lit.int k n).wf = true

/-- The clone, whatever came in: a row of the call's own (nil at nil). -/
theorem clone_any (a : Option Addr) (len cap : Nat) (z : List Int) (w : World) (h : IsRow .u8 w a len cap z) (hlen : len ≤ 1048576) :
    Calls Try.prog 27 #[.slice a len cap] w fun e w' =>
      ∃ v, e = .returned v ∧ (v = .slice none 0 0 ∨ v = .slice (some ⟨w.heap.size, 0, none⟩) len len) ∧ w'.ownsRow w.heap.size 5 1 v len ((z.take len).map (Value.int .u8)) ∧ Below w.heap.size w w' := by
  rcases h with ⟨rfl, rfl, rfl, rfl⟩ | ⟨x, rfl, hl, hm, hzl, hcell, hwf⟩
  · refine (clone_nil w).mono ?_
    rintro e w' ⟨rfl, rfl⟩
    exact ⟨_, rfl, .inl rfl, World.ownsRow_nil _ _ _ _, Below.refl _ _⟩
  · by_cases h0 : len = 0
    · subst h0
      refine (clone_empty x cap w).mono ?_
      rintro e w' ⟨rfl, h1, h2⟩
      exact ⟨_, rfl, .inr rfl, h1, h2⟩
    · obtain ⟨b, off, rfl, hc⟩ := ints_at hcell (by omega)
      refine (clone_some b off len cap z w hlen (by omega) (fun k hk => hc k (by omega))).mono ?_
      rintro e w' ⟨rfl, h1, h2⟩
      exact ⟨_, rfl, .inr rfl, h1, h2⟩


theorem bytes_yes (a0 : Option Addr) (l0 c0 : Nat) (w : World) (h : l0 ≤ 1048576) :
    Calls Try.prog 25 #[.slice a0 l0 c0] w fun e w' => e = .returned (.bool true) ∧ w' = w := by
  go_enter Try.func25, Try.ntmps25
  go_wp2
  go_ret
  exact ⟨rfl, rfl⟩
theorem bytes_no (a0 : Option Addr) (l0 c0 : Nat) (w : World) (m0 : l0 ≤ 9223372036854775807) (h : ¬ l0 ≤ 1048576) :
    Calls Try.prog 25 #[.slice a0 l0 c0] w fun e w' => e = .returned (.bool false) ∧ w' = w := by
  go_enter Try.func25, Try.ntmps25
  go_wp2
  go_ret
  exact ⟨rfl, rfl⟩
theorem bytes2_yes (a0 : Option Addr) (l0 c0 : Nat) (w : World) (h : l0 ≤ 1048576) :
    Calls Try.prog 29 #[.slice a0 l0 c0] w fun e w' => e = .returned (.bool true) ∧ w' = w := by
  go_enter Try.func29, Try.ntmps29
  go_wp2
  go_ret
  exact ⟨rfl, rfl⟩
theorem bytes2_no (a0 : Option Addr) (l0 c0 : Nat) (w : World) (m0 : l0 ≤ 9223372036854775807) (h : ¬ l0 ≤ 1048576) :
    Calls Try.prog 29 #[.slice a0 l0 c0] w fun e w' => e = .returned (.bool false) ∧ w' = w := by
  go_enter Try.func29, Try.ntmps29
  go_wp2
  go_ret
  exact ⟨rfl, rfl⟩

theorem IsRow.len_le {w : World} {a : Option Addr} {len cap : Nat} {zs : List Int} (h : IsRow .u8 w a len cap zs) : len ≤ 9223372036854775807 := by
  rcases h with ⟨_, rfl, _⟩ | ⟨x, _, h1, h2, _⟩
  · omega
  · unfold maxLen at h2; omega

end Go.Proofs.Qxb6603026a
