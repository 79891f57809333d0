/-
  Walks of seat b6604030a: ZZappendText, whatever the text; the copy's row.
-/
import Derived.Test.Qxb6604030aApp
import Derived.Laws.AppendOwnNone
namespace Go.Proofs.Qxb6604030a
open Go.RowKit

theorem ext_nil (w : World) : (Extern.BytealgIndexByte.indexByte #[.slice none 0 0, .int .u8 60]).run Try.prog w = .ok (.int .i64 (-1)) w := by rfl

set_option maxRecDepth 100000 in
theorem index_nil (w : World) : Calls Try.prog 20 #[.slice none 0 0, .int .u8 60] w fun e w' => e = .returned (.int .i64 (-1)) ∧ w' = w := by
  go_enter Try.func20, Try.ntmps20
  go_wp2
  rw [run_callFunc_extern Try.func22 (by kernel_rfl) (by kernel_rfl) (by kernel_rfl) (e := Extern.BytealgIndexByte.indexByte) (by kernel_rfl), ext_nil w]
  simp only [Result.andThen]
  rw [Oper.upon_value]
  go_wp2
  go_ret
  exact ⟨rfl, rfl⟩

theorem app_nil (B : Nat) (bv : Value) (m : Nat) (xs : List Value) (w : World) (hown : w.ownsRow B 5 1 bv m xs) : Calls Try.prog 18 #[bv, .slice none 0 0] w fun e w' => e = .returned bv ∧ w' = w := by
  obtain ⟨i0, hi, hz0, hz1, hz2⟩ := info_parts info5
  have hix := index_nil w
  go_enter Try.func18, Try.ntmps18
  go_wp2
  refine wp_loop_rounds 1 ?_
  rw [rounds_succ]
  go_wp2_with (first | (go_at_call 20; refine hix.mono ?_; rintro e w ⟨rfl, rfl⟩) | (at_builtin; refine wpList_append_own_none rfl (.tmp 18) (.tmp 19) 22 rfl B 5 i0 1 Try.underlying22 hi bv _ _ rfl hown rfl ?_))
  go_ret
  exact ⟨rfl, rfl⟩

/-- ZZappendText: b a row of the call's own, raw another one; either may be nil. -/
theorem zz_any (B Br : Nat) (bv rv : Value) (L R : List Int) (w : World) (hb : w.ownsRow B 5 1 bv L.length (L.map (Value.int .u8))) (hr : w.ownsRow Br 5 1 rv R.length (R.map (Value.int .u8))) (hB : B ≤ w.heap.size)
    (hne : ∀ g, rv.ownBlock = some g → some g ≠ bv.ownBlock) (hby : ∀ x ∈ R, 0 ≤ x ∧ x < 256) (hL : L.length ≤ 524288) (hR : R.length ≤ 524288) :
    Calls Try.prog 13 #[bv, rv] w fun e w' => ∃ v, e = .returned v ∧ AP B w w' bv.ownBlock v (L.length + (Plain.mdl R).length) ((L ++ Plain.mdl R).map (Value.int .u8)) := by
  have H : Calls Try.prog 18 #[bv, rv] w fun e w' => ∃ v, e = .returned v ∧ AP B w w' bv.ownBlock v (L.length + (Plain.mdl R).length) ((L ++ Plain.mdl R).map (Value.int .u8)) := by
    rcases hr.2 with ⟨rfl, h0⟩ | ⟨g, cap, cur, rfl, _, hg, hnc, _⟩
    · obtain rfl : R = [] := List.eq_nil_of_length_eq_zero h0
      refine (app_nil B bv _ _ w hb).mono ?_
      rintro e w' ⟨rfl, rfl⟩
      exact ⟨_, rfl, World.grownBy.refl _ _, by simpa [Plain.mdl] using hb, .inl rfl⟩
    · refine app_any B bv L R g R.length cap w hb hB (Array.getElem?_eq_some_iff.1 hg).1 (hne g rfl) rfl hnc hby (fun k hk => ?_) hL hR
      rw [hr.cellAt k (by omega), List.getElem?_map, List.getElem?_eq_getElem hk, List.getD_eq_getElem?_getD, List.getElem?_eq_getElem hk]
      rfl
  clear hb hr hne hby
  generalize L.length + (Plain.mdl R).length = m at H ⊢
  generalize (L ++ Plain.mdl R).map (Value.int .u8) = xs at H ⊢
  go_enter Try.func13, Try.ntmps13
  go_wp2_with (go_at_call 18; refine H.mono ?_; rintro e w1 ⟨v, rfl, hap⟩)
  go_ret
  exact ⟨_, rfl, hap⟩

/-- A block that is known whole is a row of the call's own. -/
theorem own_block {w : World} {B g n : Nat} {cs : List Value} (h : w.heap[g]? = some (.cells cs.toArray 5 (0, 0))) (hn : cs.length = n) (hB : B ≤ g) (hm : n ≤ maxLen) : w.ownsRow B 5 1 (.slice (some ⟨g, 0, none⟩) n n) n cs :=
  ⟨by omega, .inr ⟨g, n, cs.toArray, rfl, hB, h, Nat.le_refl _, hm, by simpa using hn, by rw [Nat.mul_one, List.take_of_length_le (by simp; omega)]⟩⟩

/-- A row of zeros, made just now, is a block that is known whole. -/
theorem block_own {w : World} {B g n : Nat} (h : w.ownsRow B 5 1 (.slice (some ⟨g, 0, none⟩) n n) n (List.replicate n (.int .u8 0))) : w.heap[g]? = some (.cells (List.replicate n (Value.int .u8 0)).toArray 5 (0, 0)) := by
  rcases h.2 with ⟨h1, _⟩ | ⟨g', cp, cur, h1, _, hg, _, _, hcs, htk⟩
  · cases h1
  · cases h1
    rw [hg, ← htk, List.take_of_length_le (by simp [hcs])]

/-- What the copy lays over a row of its own length is the row. -/
theorem splice_all {α : Type} (L cs : List α) (h : L.length = cs.length) : splice L 0 cs = cs := by
  unfold splice
  rw [List.take_zero, List.nil_append, List.drop_of_length_le (by omega), List.append_nil]

theorem len5 : (Try.prog.info? 5).map (·.size) = some 1 := by kernel_rfl
end Go.Proofs.Qxb6604030a
