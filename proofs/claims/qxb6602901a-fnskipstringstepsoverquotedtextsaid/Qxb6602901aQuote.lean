/-
  Walks of seat b6602901a: b1Quote.
-/
import Derived.Test.Qxb6602901aBase
namespace Go.Proofs.Qxb6602901a
open Go.RowKit

/-- One more byte quoted. -/
theorem esc_take (z : List Int) (len k : Nat) (hk : k < len) (hz : len ≤ z.length) : Plain.esc (z.take (k + 1)) = Plain.esc (z.take k) ++ Plain.tok (z.getD k 0) := by
  rw [List.take_succ_eq_append_getElem (by omega), Plain.esc_append]
  simp [Plain.esc, List.getD_eq_getElem?_getD, List.getElem?_eq_getElem (show k < z.length by omega)]

theorem esc_take_le (z : List Int) (k : Nat) : (Plain.esc (z.take k)).length ≤ 2 * k := by
  have h1 := (Plain.esc_len (z.take k)).2
  have h2 : (z.take k).length ≤ k := List.length_take_le _ _
  omega

theorem cellNew (w : World) (x : Value) (T : TypeId) : ∀ j u, [x][j]? = some u → (w.alloc (.cells #[x] T)).cell? ((⟨w.heap.size, 0, none⟩ : Addr).add j) = some u := by
  intro j u hj
  match j, hj with
  | 0, hj => simp at hj; subst hj; simp [Addr.add]

theorem oneOne (k : IntKind) (x : Int) : ∀ u ∈ [Value.int k x], u.oneCell' = true := by
  intro u hu; simp at hu; subst hu; rfl

/-- What an append of one byte within the room does to the relation. -/
theorem below_append {w w0 w1 : World} {o : Obj} {g : Nat} (hb : Below w.heap.size w w0) (hg : (w0.alloc o).grownBy w1 (some g)) (h : w.heap.size ≤ g) : Below w.heap.size w w1 :=
  (hb.alloc hb.size o).grown hg (by have := hb.size; simp; omega) (fun k hk => by cases hk; exact h)

theorem len_two (E : List Int) : (E ++ Plain.tok 34).length = E.length + 1 + 1 := by simp [Plain.tok]
theorem len_two92 (E : List Int) : (E ++ Plain.tok 92).length = E.length + 1 + 1 := by simp [Plain.tok]
theorem map_two (E : List Int) (c : Int) : (34 :: E).map (Value.int .u8) ++ [.int .u8 92] ++ [.int .u8 c] = (34 :: (E ++ [92, c])).map (Value.int .u8) := by simp
theorem map_one (E : List Int) (c : Int) : (34 :: E).map (Value.int .u8) ++ [.int .u8 c] = (34 :: (E ++ [c])).map (Value.int .u8) := by simp

set_option maxHeartbeats 1000000 in
theorem quote_some (g len cap : Nat) (z : List Int) (w : World) (hlen : len ≤ 262144) (hz : len ≤ z.length)
    (hc : ∀ k, k < len → w.cell? ⟨g, k, none⟩ = some (.int .u8 (z.getD k 0))) :
    Calls Try.prog 19 #[.slice (some ⟨g, 0, none⟩) len cap] w fun e w' =>
      e = .returned (.slice (some ⟨w.heap.size, 0, none⟩) ((Plain.esc (z.take len)).length + 1 + 1) (2 * len + 2)) ∧
      w'.ownsRow w.heap.size 5 1 (.slice (some ⟨w.heap.size, 0, none⟩) ((Plain.esc (z.take len)).length + 1 + 1) (2 * len + 2)) ((Plain.esc (z.take len)).length + 1 + 1) ((34 :: Plain.esc (z.take len) ++ [34]).map (Value.int .u8)) ∧ Below w.heap.size w w' := by
  obtain ⟨i0, hi, hz0, hz1, hz2⟩ := info_parts info5
  go_enter Try.func19, Try.ntmps19
  go_wp2_with (first
    | (at_make; refine wpList_make_own _ rfl _ _ 22 rfl w.heap.size 5 i0 (.int .u8 0) 1 Try.underlying22 hi hz0 hz1 _ _ _ (2 * len + 2) rfl rfl (by omega) (by rw [hz2]; omega) (by unfold maxLen; omega) (Nat.le_refl _) ?_; intro w0 hown0 hgrow0)
    | (at_builtin; refine wpList_append_fits _ rfl (.tmp 11) (.tmp 12) 22 rfl w.heap.size 5 i0 1 Try.underlying22 hi hz1 w.heap.size 0 (2 * len + 2) [] rfl (hown0.alloc _) ⟨w0.heap.size, 0, none⟩ 1 1 [.int .u8 34] rfl rfl (cellNew _ _ _) (oneOne _ _) (by omega) ?_; intro w1 hown1 hgrow1))
  have hb1 : Below w.heap.size w w1 := below_append ((Below.refl _ _).grown hgrow0 (Nat.le_refl _) (fun k h => by cases h)) hgrow1 (Nat.le_refl _)
  simp only [Nat.zero_add, List.nil_append] at hown1
  clear hown0 hgrow0 hgrow1
  go_loopw [3, 4] (fun v i wr => ∃ k : Nat, k ≤ len ∧ i = .int .i64 k ∧ v = .slice (some ⟨w.heap.size, 0, none⟩) ((Plain.esc (z.take k)).length + 1) (2 * len + 2) ∧
      wr.ownsRow w.heap.size 5 1 (.slice (some ⟨w.heap.size, 0, none⟩) ((Plain.esc (z.take k)).length + 1) (2 * len + 2)) ((Plain.esc (z.take k)).length + 1) ((34 :: Plain.esc (z.take k)).map (Value.int .u8)) ∧ Below w.heap.size w wr)
    (fun _ i _ => len - (intOf i).toNat)
  case atStart => exact ⟨0, Nat.zero_le _, rfl, rfl, hown1, hb1⟩
  case round =>
    clear hown1 hb1
    obtain ⟨k, hk, rfl, rfl, hown, hbel⟩ := hrel
    have hle := esc_take_le z k
    by_cases hlt : k < len
    · have hcx : wr.cell? ⟨g, k, none⟩ = some (.int .u8 (z.getD k 0)) := by
        have h0 := hc k hlt
        rw [hbel.cell (p := ⟨g, k, none⟩) (World.block_lt_of_cell? w _ h0)]; exact h0
      have HE : Hid (Plain.esc (z.take (k + 1)) = Plain.esc (z.take k) ++ Plain.tok (z.getD k 0)) := esc_take z len k hlt hz
      clear hc
      generalize z.getD k 0 = c at hcx HE
      generalize hE : Plain.esc (z.take k) = E at hown hle HE ⊢
      have HE0 : Hid (Plain.esc (z.take k) = E) := hE
      clear hE
      by_cases h34 : c = 34
      · subst h34
        go_wp2_with (first
          | (at_builtin; refine wpList_append_fits _ rfl (.tmp 30) (.tmp 31) 22 rfl w.heap.size 5 i0 1 Try.underlying22 hi hz1 w.heap.size (E.length + 1) (2 * len + 2) _ rfl (hown.alloc _) ⟨wr.heap.size, 0, none⟩ 1 1 [.int .u8 92] rfl rfl (cellNew _ _ _) (oneOne _ _) (by omega) ?_; intro w1 hown1 hgrow1)
          | (at_builtin; refine wpList_append_fits _ rfl (.tmp 33) (.tmp 35) 22 rfl w.heap.size 5 i0 1 Try.underlying22 hi hz1 w.heap.size (E.length + 1 + 1) (2 * len + 2) _ rfl (hown1.alloc _) ⟨w1.heap.size, 0, none⟩ 1 1 [.int .u8 34] rfl rfl (cellNew _ _ _) (oneOne _ _) (by omega) ?_; intro w2 hown2 hgrow2))
        have hb1 := below_append hbel hgrow1 (Nat.le_refl _)
        have hb2 := below_append hb1 hgrow2 (Nat.le_refl _)
        clear hcx hgrow1 hgrow2 hown1 hown hbel
        go_roundw
        case rel => exact ⟨k + 1, by omega, by go_num, by rw [HE.out, len_two], by rw [HE.out, len_two]; exact (map_two E 34) ▸ hown2, hb2⟩
        case measure => simp [intOf]; omega
      · by_cases h92 : c = 92
        · subst h92
          go_wp2_with (first
            | (at_builtin; refine wpList_append_fits _ rfl (.tmp 30) (.tmp 31) 22 rfl w.heap.size 5 i0 1 Try.underlying22 hi hz1 w.heap.size (E.length + 1) (2 * len + 2) _ rfl (hown.alloc _) ⟨wr.heap.size, 0, none⟩ 1 1 [.int .u8 92] rfl rfl (cellNew _ _ _) (oneOne _ _) (by omega) ?_; intro w1 hown1 hgrow1)
            | (at_builtin; refine wpList_append_fits _ rfl (.tmp 33) (.tmp 35) 22 rfl w.heap.size 5 i0 1 Try.underlying22 hi hz1 w.heap.size (E.length + 1 + 1) (2 * len + 2) _ rfl (hown1.alloc _) ⟨w1.heap.size, 0, none⟩ 1 1 [.int .u8 92] rfl rfl (cellNew _ _ _) (oneOne _ _) (by omega) ?_; intro w2 hown2 hgrow2))
          have hb1 := below_append hbel hgrow1 (Nat.le_refl _)
          have hb2 := below_append hb1 hgrow2 (Nat.le_refl _)
          clear hcx hgrow1 hgrow2 hown1 hown hbel
          go_roundw
          case rel => exact ⟨k + 1, by omega, by go_num, by rw [HE.out, len_two92], by rw [HE.out, len_two92]; exact (map_two E 92) ▸ hown2, hb2⟩
          case measure => simp [intOf]; omega
        · have HT : Hid (Plain.tok c = [c]) := by unfold Hid Plain.tok; rw [if_neg (by omega)]
          have b34 : (c == 34) = false := by simpa using h34
          have b92 : (c == 92) = false := by simpa using h92
          clear h34 h92
          go_wp2_with (first
            | (at_builtin; refine wpList_append_fits _ rfl (.tmp 33) (.tmp 35) 22 rfl w.heap.size 5 i0 1 Try.underlying22 hi hz1 w.heap.size (E.length + 1) (2 * len + 2) _ rfl (hown.alloc _) ⟨wr.heap.size, 0, none⟩ 1 1 [.int .u8 c] rfl rfl (cellNew _ _ _) (oneOne _ _) (by omega) ?_; intro w1 hown1 hgrow1))
          have hb1 := below_append hbel hgrow1 (Nat.le_refl _)
          clear hcx hgrow1 hown hbel b34 b92
          go_roundw
          case rel => exact ⟨k + 1, by omega, by go_num, by rw [HE.out, HT.out, List.length_append]; rfl, by rw [HE.out, HT.out, List.length_append]; exact (map_one E c) ▸ hown1, hb1⟩
          case measure => simp [intOf]; omega
    · obtain rfl : k = len := by omega
      clear hc
      generalize hE : Plain.esc (z.take k) = E at hown hle ⊢
      have HE0 : Hid (Plain.esc (z.take k) = E) := hE
      clear hE
      go_wp2_with (first
        | (at_builtin; refine wpList_append_fits _ rfl (.tmp 37) (.tmp 38) 22 rfl w.heap.size 5 i0 1 Try.underlying22 hi hz1 w.heap.size (E.length + 1) (2 * k + 2) _ rfl (hown.alloc _) ⟨wr.heap.size, 0, none⟩ 1 1 [.int .u8 34] rfl rfl (cellNew _ _ _) (oneOne _ _) (by omega) ?_; intro w1 hown1 hgrow1))
      have hb1 := below_append hbel hgrow1 (Nat.le_refl _)
      go_ret
      have hE := HE0.out
      subst hE
      exact ⟨rfl, (map_one _ 34) ▸ hown1, hb1⟩

theorem quote_nil (w : World) :
    Calls Try.prog 19 #[.slice none 0 0] w fun e w' =>
      e = .returned (.slice (some ⟨w.heap.size, 0, none⟩) 2 2) ∧
      w'.ownsRow w.heap.size 5 1 (.slice (some ⟨w.heap.size, 0, none⟩) 2 2) 2 ([34, 34].map (Value.int .u8)) ∧ Below w.heap.size w w' := by
  obtain ⟨i0, hi, hz0, hz1, hz2⟩ := info_parts info5
  go_enter Try.func19, Try.ntmps19
  go_wp2_with (first
    | (at_make; refine wpList_make_own _ rfl _ _ 22 rfl w.heap.size 5 i0 (.int .u8 0) 1 Try.underlying22 hi hz0 hz1 _ _ _ 2 rfl rfl (by omega) (by rw [hz2]; omega) (by unfold maxLen; omega) (Nat.le_refl _) ?_; intro w0 hown0 hgrow0)
    | (at_builtin; refine wpList_append_fits _ rfl (.tmp 11) (.tmp 12) 22 rfl w.heap.size 5 i0 1 Try.underlying22 hi hz1 w.heap.size 0 2 [] rfl (hown0.alloc _) ⟨w0.heap.size, 0, none⟩ 1 1 [.int .u8 34] rfl rfl (cellNew _ _ _) (oneOne _ _) (by omega) ?_; intro w1 hown1 hgrow1))
  simp only [Nat.zero_add, List.nil_append] at hown1
  refine wp_loop_rounds 1 ?_
  rw [rounds_succ]
  go_wp2_with (first
    | (at_builtin; refine wpList_append_fits _ rfl (.tmp 37) (.tmp 38) 22 rfl w.heap.size 5 i0 1 Try.underlying22 hi hz1 w.heap.size 1 2 _ rfl (hown1.alloc _) ⟨w1.heap.size, 0, none⟩ 1 1 [.int .u8 34] rfl rfl (cellNew _ _ _) (oneOne _ _) (by omega) ?_; intro w2 hown2 hgrow2))
  go_ret
  exact ⟨rfl, hown2, below_append (below_append ((Below.refl _ _).grown hgrow0 (Nat.le_refl _) (fun k h => by cases h)) hgrow1 (Nat.le_refl _)) hgrow2 (Nat.le_refl _)⟩

/-- The quoting of a row of the call's own: what it returns is a new row that holds the quoted text. -/
theorem quote_own (B : Nat) (v : Value) (len : Nat) (l : List Int) (w : World) (h : w.ownsRow B 5 1 v len (l.map (Value.int .u8))) (hlen : len ≤ 262144) :
    Calls Try.prog 19 #[v] w fun e w' => ∃ cap, e = .returned (.slice (some ⟨w.heap.size, 0, none⟩) ((Plain.esc l).length + 2) cap) ∧
      w'.ownsRow w.heap.size 5 1 (.slice (some ⟨w.heap.size, 0, none⟩) ((Plain.esc l).length + 2) cap) ((Plain.esc l).length + 2) ((34 :: Plain.esc l ++ [34]).map (Value.int .u8)) ∧ Below w.heap.size w w' := by
  have hll : l.length = len := by have := h.1; simpa using this
  rcases h.2 with ⟨rfl, rfl⟩ | ⟨g, cap, cur, rfl, hb, hg, hnc, hcm, hcs, htk⟩
  · obtain rfl : l = [] := List.eq_nil_of_length_eq_zero hll
    refine (quote_nil w).mono ?_
    rintro e w' ⟨rfl, h1, h2⟩
    exact ⟨2, rfl, h1, h2⟩
  · have hl : l.take len = l := List.take_of_length_le (by omega)
    refine (quote_some g len cap l w hlen (by omega) (fun k hk => ?_)).mono ?_
    · rw [h.cellAt k (by omega), List.getElem?_map, List.getElem?_eq_getElem (by omega), List.getD_eq_getElem?_getD, List.getElem?_eq_getElem (by omega)]
      rfl
    · rintro e w' ⟨rfl, h1, h2⟩
      rw [hl] at h1 ⊢
      exact ⟨2 * len + 2, rfl, h1, h2⟩
end Go.Proofs.Qxb6602901a
