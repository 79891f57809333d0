/-
  Seat b6604030a: the walk of FnAppendTextKeepsPrefixAndOpensNoTag.
-/
import Derived.Test.Qxb6604030aLawE
namespace Go.Proofs.Qxb6604030a
open Go.RowKit

/-- The clone of a row of the call's own. -/
theorem clone_own (B : Nat) (bv : Value) (L : List Int) (w : World) (h : w.ownsRow B 5 1 bv L.length (L.map (Value.int .u8))) (hlen : L.length ≤ 1048576) :
    Calls Try.prog 11 #[bv] w fun e w' => ∃ v, e = .returned v ∧ w'.ownsRow w.heap.size 5 1 v L.length (L.map (Value.int .u8)) ∧ Below w.heap.size w w' := by
  rcases h.2 with ⟨rfl, h0⟩ | ⟨g, cap, cur, rfl, _⟩
  · obtain rfl : L = [] := List.eq_nil_of_length_eq_zero h0
    refine (clone_nil w).mono ?_
    rintro e w' ⟨rfl, rfl⟩
    exact ⟨_, rfl, World.ownsRow_nil _ _ _ _, Below.refl _ _⟩
  · by_cases h0 : L = []
    · subst h0
      refine (clone_empty ⟨g, 0, none⟩ cap w).mono ?_
      rintro e w' ⟨rfl, h1, h2⟩
      exact ⟨_, rfl, h1, h2⟩
    · refine (clone_some g 0 L.length cap L w hlen (Nat.le_refl _) (fun k hk => ?_)).mono ?_
      · rw [Nat.zero_add, h.cellAt k (by omega), List.getElem?_map, List.getElem?_eq_getElem hk, List.getD_eq_getElem?_getD, List.getElem?_eq_getElem hk]
        rfl
      · rintro e w' ⟨rfl, h1, h2⟩
        rw [List.take_of_length_le (Nat.le_refl _)] at h1
        exact ⟨_, rfl, h1, h2⟩

/-- The row that came back: its beginning and its end. -/
theorem parts {w : World} {B m ll : Nat} {v : Value} {L X : List Int} (hl : ll = L.length) (h : w.ownsRow B 5 1 v m ((L ++ X).map (Value.int .u8))) :
    ∃ a c, v = .slice a m c ∧ ll ≤ m ∧ m ≤ c ∧ X.length = m - ll ∧ Sl w (.slice a ll c) L ∧ (m = ll ∨ ∃ g, a = some ⟨g, 0, none⟩ ∧ ll < c ∧ ∀ k, k < m - ll → w.cell? ⟨g, ll + k, none⟩ = some (.int .u8 (X.getD k 0))) := by
  subst hl
  have hm : L.length + X.length = m := by have h0 := h.1; simpa using h0
  rcases h.2 with ⟨rfl, h0⟩ | ⟨g, cap, cur, rfl, _, _, hc, _⟩
  · obtain rfl : L = [] := List.eq_nil_of_length_eq_zero (by omega)
    exact ⟨none, 0, by rw [h0], by omega, by omega, by omega, ⟨none, 0, rfl, fun hne => absurd rfl hne⟩, .inl (by simpa using h0)⟩
  · have hcell : ∀ k, k < m → w.cell? ⟨g, k, none⟩ = some (.int .u8 ((L ++ X).getD k 0)) := by
      intro k hk
      have hk2 : k < (L ++ X).length := by rw [List.length_append]; omega
      rw [h.cellAt k (by omega), List.getElem?_map, List.getElem?_eq_getElem hk2, List.getD_eq_getElem?_getD, List.getElem?_eq_getElem hk2]
      rfl
    refine ⟨some ⟨g, 0, none⟩, cap, rfl, by omega, hc, by omega, ⟨some ⟨g, 0, none⟩, cap, rfl, fun _ => ⟨g, 0, rfl, fun k hk => ?_⟩⟩, ?_⟩
    · rw [Nat.zero_add, hcell k (by omega)]
      simp [List.getD_eq_getElem?_getD, List.getElem?_append_left hk]
    · by_cases h0 : m = L.length
      · exact .inl h0
      · refine .inr ⟨g, rfl, by omega, fun k hk => ?_⟩
        rw [hcell _ (by omega)]
        simp [List.getD_eq_getElem?_getD, List.getElem?_append_right]

set_option maxHeartbeats 2000000 in
theorem lawK_some (a0 : Option Addr) (len0 cap0 : Nat) (z0 : List Int) (x : Addr) (len1 cap1 : Nat) (z1 : List Int) (w : World) (w0 : IsRow .u8 w a0 len0 cap0 z0)
    (hzl : z1.length = cap1) (hlc : len1 ≤ cap1) (hcell : ∀ i, i < z1.length → w.cell? (x.add i) = some (.int .u8 (z1.getD i 0))) (hby : ∀ y ∈ z1.take len1, 0 ≤ y ∧ y < 256) (h0 : len0 ≤ 524288) (h1 : len1 ≤ 524288) :
    Calls Try.prog 5 #[.slice a0 len0 cap0, .slice (some x) len1 cap1] w fun e w' => e = .returned (.bool true) ∧ Below w.heap.size w w' := by
  obtain ⟨i0, hi, hz0, hz1, hz2⟩ := info_parts info5
  have hbytes := bytesK_yes a0 (some x) len0 cap0 len1 cap1 w (by omega)
  have hneq := fun wx => run_neq_slice_nil_any (P := Try.prog) wx 22 5 (some x) len1 cap1 0 0 Try.underlying22
  have HW0 : Hid (IsRow .u8 w a0 len0 cap0 z0) := w0
  have HC : Hid (∀ i, i < z1.length → w.cell? (x.add i) = some (.int .u8 (z1.getD i 0))) := hcell
  have HBY : Hid (∀ y ∈ z1.take len1, 0 ≤ y ∧ y < 256) := hby
  have HLR : Hid ((z1.take len1).length = len1) := by unfold Hid; rw [List.length_take]; omega
  obtain ⟨R, hR⟩ : ∃ R, R = z1.take len1 := ⟨_, rfl⟩
  have HR : Hid (R = z1.take len1) := hR
  clear w0 hcell hby hR
  go_enter Try.func5, Try.ntmps5
  go_upto_region 9 with (first
    | (go_at_call 14; refine hbytes.mono ?_; rintro e w ⟨rfl, rfl⟩)
    | (at_make; refine wpList_make_full _ rfl _ _ 22 rfl w.heap.size 5 i0 (.int .u8 0) 1 Try.underlying22 hi hz0 hz1 _ _ _ _ len1 rfl rfl (by omega) (by omega) (by rw [hz2]; omega) (by unfold maxLen; omega) (Nat.le_refl _) ?_; intro w1 hown1 hgrow1))
  have hb1 : Below w.heap.size w w1 := (Below.refl _ _).grown hgrow1 (Nat.le_refl _) (fun k h => by cases h)
  rw [show (madeCells (Value.int .u8 0).cells (len1 * 1)).toList = List.replicate len1 (.int .u8 0) from by rw [Nat.mul_one]; exact toList_madeCells_one _ _] at hown1
  have hblk := block_own hown1
  have hpos := copy_src HC.out hzl hlc HR.out hb1
  have hRl : (R.map (Value.int .u8)).length = len1 := by rw [List.length_map, HR.out]; exact HLR.out
  clear hown1 hgrow1 hneq hbytes
  go_cut [] (fun wr => wr.ownsRow w.heap.size 5 1 (.slice (some ⟨w.heap.size, 0, none⟩) len1 len1) len1 (R.map (Value.int .u8)) ∧ Below w.heap.size w wr)
  case first =>
    go_wp2_with (refine wpList_copy_splice rfl (.tmp 25) (.tmp 26) 22 22 rfl 5 Try.underlying22 len5 _ _ _ _ _ _ rfl rfl w.heap.size 0 _ 5 hblk (R.map (Value.int .u8)) (by rw [hRl]; exact (Nat.min_self _).symm) (fun _ => ⟨rfl, x, rfl, hpos⟩) (by rw [hRl]; simp) (ints_oneCell _ _) w.heap.size w hb1 (Nat.le_refl _) ?_; intro w2 HG2 hB2)
    go_meet
    case rel =>
      refine ⟨own_block ?_ hRl (Nat.le_refl _) (by unfold maxLen; omega), hB2⟩
      have h0 := HG2.out
      rw [splice_all _ _ (by rw [hRl]; simp)] at h0
      exact h0
  case rest =>
    clear hblk hpos hb1
    obtain ⟨hraw, hb2⟩ := hcut
    have HRAW : Hid (wc.ownsRow w.heap.size 5 1 (.slice (some ⟨w.heap.size, 0, none⟩) len1 len1) len1 (R.map (Value.int .u8))) := hraw
    have HB2 : Hid (Below w.heap.size w wc) := hb2
    have HRL2 : Hid (R.length = len1) := by have h0 := hRl; rw [List.length_map] at h0; exact h0
    clear hraw hb2 hRl
    go_wp2_with fail
    refine (clone_any a0 len0 cap0 z0 wc (HW0.out.below HB2.out) (by omega)).mono ?_
    rintro e w3 ⟨bv, rfl, -, hob, hb3⟩
    obtain ⟨L, hLd⟩ : ∃ L, L = z0.take len0 := ⟨_, rfl⟩
    rw [← hLd] at hob
    have hLl : L.length = len0 := by have h0 := hob.1; simpa using h0
    have HOB : Hid (w3.ownsRow wc.heap.size 5 1 bv L.length (L.map (Value.int .u8))) := by rw [← hLl] at hob; exact hob
    have HB3 : Hid (Below wc.heap.size wc w3) := hb3
    have hL2 : L.length ≤ 524288 := by omega
    have hR2 : R.length ≤ 524288 := by have := HRL2.out; omega
    clear hob hb3 hLd hLl
    have hraw3 := ownsRow_below HRAW.out HB3.out
    have hrow : w3.ownsRow w.heap.size 5 1 (.slice (some ⟨w.heap.size, 0, none⟩) len1 len1) R.length (R.map (Value.int .u8)) := by rw [HRL2.out]; exact hraw3
    have hcl := clone_own wc.heap.size bv L w3 HOB.out (by omega)
    clear hraw3
    go_wp2_with fail
    refine hcl.mono ?_
    rintro e w4 ⟨ov, rfl, hov, hb4⟩
    have HB4 : Hid (Below w3.heap.size w3 w4) := hb4
    have HOV : Hid (w4.ownsRow w3.heap.size 5 1 ov L.length (L.map (Value.int .u8))) := hov
    have hzz := zz_any wc.heap.size w.heap.size bv (.slice (some ⟨w.heap.size, 0, none⟩) len1 len1) L R w4 (ownsRow_below HOB.out hb4) (ownsRow_below hrow hb4) (Nat.le_trans HB3.out.size hb4.size)
      (fun g hg e => by
        have e1 : w.heap.size = g := Option.some.inj hg
        have h2 := (HOB.out.lt g e.symm).1
        have h3 := (HRAW.out.lt w.heap.size rfl).2
        omega) (by rw [HR.out]; exact HBY.out) hL2 hR2
    clear hcl hov hb4 hrow
    go_wp2_with fail
    refine hzz.mono ?_
    rintro e w5 ⟨gv, rfl, hap⟩
    clear hzz
    have hbk : bv.ownBlock = none ∨ ∃ k, bv.ownBlock = some k ∧ k < w3.heap.size := by
      cases hk : bv.ownBlock with
      | none => exact .inl rfl
      | some k => exact .inr ⟨k, rfl, (HOB.out.lt k hk).2⟩
    have hb5 : Below w.heap.size w w5 := by
      refine (((HB2.out.trans (HB3.out.mono HB2.out.size)).trans (HB4.out.mono (Nat.le_trans HB2.out.size HB3.out.size)))).grown hap.grown (Nat.le_trans HB2.out.size (Nat.le_trans HB3.out.size HB4.out.size)) (fun k hk => ?_)
      have := (HOB.out.lt k hk).1
      have := HB2.out.size
      omega

    have hsl := kept_rows hbk HOV.out hap
    have hml := Plain.mdl_len R
    have HNT : Hid (∀ j, j + 1 < (Plain.mdl R).length → (Plain.mdl R).getD j 0 = 60 → Plain.tag ((Plain.mdl R).getD (j + 1) 0) = false) := Plain.mdl_noTag R
    have hxl : L.length + len1 ≤ L.length + (Plain.mdl R).length := by have := HRL2.out; omega
    have hxm : L.length + (Plain.mdl R).length ≤ 3000000 := by omega
    have hpart := parts rfl hap.own
    have HEQ : ∀ (ga oa : Option Addr) (gc oc : Nat), Sl w5 (.slice ga L.length gc) L → Sl w5 (.slice oa L.length oc) L → Calls Try.prog 9 #[.slice ga L.length gc, .slice oa L.length oc] w5 fun e w' => e = .returned (.bool true) ∧ ∃ q, w' = w5.drewN q := fun ga oa gc oc h1 h2 => equal_any _ _ L w5 h1 h2 (by omega)
    obtain ⟨oa, oc, rfl, q6⟩ := hsl.1
    have hs2 : Sl w5 (.slice oa L.length oc) L := ⟨oa, oc, rfl, q6⟩
    clear hml hsl hap q6 HOV HOB
    generalize L.length + (Plain.mdl R).length = m at *
    generalize Plain.mdl R = X at *
    generalize L.length = ll at *
    obtain ⟨ga, gc, rfl, q1, q2, q3, q4, q5⟩ := hpart
    have heq := HEQ ga oa gc oc q4 hs2
    have HQ3 : Hid (X.length = m - ll) := q3
    have HBF : Hid (Below w.heap.size w w5) := hb5
    clear HEQ hs2 q3 q4 hb5
    have j1 : ¬ ((m : Int) < (ll : Int) + (len1 : Int)) := by omega
    go_wp2_with fail
    refine heq.mono ?_
    rintro e w6 ⟨rfl, q, rfl⟩
    clear heq
    rcases q5 with rfl | ⟨g, rfl, hlc2, hcl⟩
    · go_wp2_with fail
      all_goals
        refine wp_loop_rounds 1 ?_
        rw [rounds_succ]
        go_wp2
        go_ret
        exact ⟨rfl, by have hb5 := HBF.out; exact ⟨hb5.os, hb5.tape, hb5.output, hb5.size, hb5.block⟩⟩
    · have HCL : Hid (∀ k, k < m - ll → w5.cell? ⟨g, ll + k, none⟩ = some (.int .u8 (X.getD k 0))) := hcl
      clear hcl
      have j2 : ¬ gc = ll := by omega
      go_wp2_with fail
      go_loopg [9] (m - ll) (fun k v wr => ∃ (j p : Nat), k = m - ll - j ∧ j ≤ m - ll ∧ v = .int .i64 j ∧ wr = w5.drewN p)
      case atStart => exact ⟨0, _, rfl, Nat.zero_le _, rfl, rfl⟩
      case round =>
        obtain ⟨j, p, rfl, hj, rfl, rfl⟩ := hrel
        by_cases hlt : j + 1 < m - ll
        · have d1 := HCL.out j (by omega)
          have d2 := HCL.out (j + 1) (by omega)
          have d3 := HNT.out j (by rw [HQ3.out]; omega)
          have i1 : (0 : Int) ≤ (j : Int) := by omega
          have i2 : (j : Int) + 1 < (m : Int) - (ll : Int) := by omega
          have i3 : (j : Int) < (m : Int) - (ll : Int) := by omega
          generalize X.getD j 0 = x1 at *
          generalize X.getD (j + 1) 0 = x2 at *
          have htag := tag_any x2 (w5.drewN p)
          by_cases h60 : x1 = 60
          · rw [d3 h60] at htag
            subst h60
            clear d3
            go_wp2_with (go_at_call 15; refine htag.mono ?_; rintro e w7 ⟨rfl, rfl⟩)
            go_roundg (m - ll - (j + 1))
            case measure => omega
            case rel => exact ⟨j + 1, _, rfl, by omega, by go_num, rfl⟩
          · have f0 : (x1 == 60) = false := by rw [beq_eq_false_iff_ne]; exact h60
            clear d3 htag
            go_wp2
            go_roundg (m - ll - (j + 1))
            case measure => omega
            case rel => exact ⟨j + 1, _, rfl, by omega, by go_num, rfl⟩
        · have i2 : ¬ (j : Int) + 1 < (m : Int) - (ll : Int) := by omega
          go_wp2
          go_ret
          exact ⟨rfl, by have hb5 := HBF.out; exact ⟨hb5.os, hb5.tape, hb5.output, hb5.size, hb5.block⟩⟩
set_option maxHeartbeats 2000000 in
theorem lawK_nil (a0 : Option Addr) (len0 cap0 : Nat) (z0 : List Int) (w : World) (w0 : IsRow .u8 w a0 len0 cap0 z0) (h0 : len0 ≤ 524288) :
    Calls Try.prog 5 #[.slice a0 len0 cap0, .slice none 0 0] w fun e w' => e = .returned (.bool true) ∧ Below w.heap.size w w' := by
  have hbytes := bytesK_yes a0 none len0 cap0 0 0 w (by omega)
  have hneq := fun wx => run_neq_slice_nil_any (P := Try.prog) wx 22 5 none 0 0 0 0 Try.underlying22
  have hcl := clone_any a0 len0 cap0 z0 w w0 (by omega)
  obtain ⟨L, hLd⟩ : ∃ L, L = z0.take len0 := ⟨_, rfl⟩
  rw [← hLd] at hcl
  clear w0 hLd
  go_enter Try.func5, Try.ntmps5
  go_wp2_with (go_at_call 14; refine hbytes.mono ?_; rintro e w ⟨rfl, rfl⟩)
  refine hcl.mono ?_
  rintro e w3 ⟨bv, rfl, -, hob, hb3⟩
  have hLl : L.length = len0 := by have h0 := hob.1; simpa using h0
  have HOB : Hid (w3.ownsRow w.heap.size 5 1 bv L.length (L.map (Value.int .u8))) := by rw [← hLl] at hob; exact hob
  have HB3 : Hid (Below w.heap.size w w3) := hb3
  have hL2 : L.length ≤ 524288 := by omega
  clear hob hb3 hLl hcl hbytes hneq
  have hnil : ∀ wx : World, wx.ownsRow w.heap.size 5 1 (.slice none 0 0) ([] : List Int).length (([] : List Int).map (Value.int .u8)) := fun wx => World.ownsRow_nil _ _ _ _
  have hcl := clone_own w.heap.size bv L w3 HOB.out (by omega)
  go_wp2_with fail
  refine hcl.mono ?_
  rintro e w4 ⟨ov, rfl, hov, hb4⟩
  have HB4 : Hid (Below w3.heap.size w3 w4) := hb4
  have HOV : Hid (w4.ownsRow w3.heap.size 5 1 ov L.length (L.map (Value.int .u8))) := hov
  have hzz := zz_any w.heap.size w.heap.size bv (.slice none 0 0) L [] w4 (ownsRow_below HOB.out hb4) (hnil w4) (Nat.le_trans HB3.out.size hb4.size) (fun g hg e => by cases hg) (by simp) hL2 (by simp)
  clear hcl hov hb4
  go_wp2_with fail
  refine hzz.mono ?_
  rintro e w5 ⟨gv, rfl, hap⟩
  clear hzz hnil
  have hbk : bv.ownBlock = none ∨ ∃ k, bv.ownBlock = some k ∧ k < w3.heap.size := by
    cases hk : bv.ownBlock with
    | none => exact .inl rfl
    | some k => exact .inr ⟨k, rfl, (HOB.out.lt k hk).2⟩
  have hb5 : Below w.heap.size w w5 := (HB3.out.trans (HB4.out.mono HB3.out.size)).grown hap.grown (Nat.le_trans HB3.out.size HB4.out.size) (fun k hk => (HOB.out.lt k hk).1)

  have hsl := kept_rows hbk HOV.out hap
  have hml : (Plain.mdl ([] : List Int)).length = 0 := rfl
  have HNT : Hid (∀ j, j + 1 < (Plain.mdl []).length → (Plain.mdl []).getD j 0 = 60 → Plain.tag ((Plain.mdl []).getD (j + 1) 0) = false) := Plain.mdl_noTag []
  have hxl : L.length + 0 ≤ L.length + (Plain.mdl []).length := by omega
  have hxm : L.length + (Plain.mdl []).length ≤ 3000000 := by omega
  have hpart := parts rfl hap.own
  have HEQ : ∀ (ga oa : Option Addr) (gc oc : Nat), Sl w5 (.slice ga L.length gc) L → Sl w5 (.slice oa L.length oc) L → Calls Try.prog 9 #[.slice ga L.length gc, .slice oa L.length oc] w5 fun e w' => e = .returned (.bool true) ∧ ∃ q, w' = w5.drewN q := fun ga oa gc oc h1 h2 => equal_any _ _ L w5 h1 h2 (by omega)
  obtain ⟨oa, oc, rfl, q6⟩ := hsl.1
  have hs2 : Sl w5 (.slice oa L.length oc) L := ⟨oa, oc, rfl, q6⟩
  clear hml hsl hap q6 HOV HOB
  generalize L.length + (Plain.mdl []).length = m at *
  generalize Plain.mdl [] = X at *
  generalize L.length = ll at *
  obtain ⟨ga, gc, rfl, q1, q2, q3, q4, q5⟩ := hpart
  have heq := HEQ ga oa gc oc q4 hs2
  have HQ3 : Hid (X.length = m - ll) := q3
  have HBF : Hid (Below w.heap.size w w5) := hb5
  clear HEQ hs2 q3 q4 hb5
  have j1 : ¬ ((m : Int) < (ll : Int) + (0 : Int)) := by omega
  go_wp2_with fail
  refine heq.mono ?_
  rintro e w6 ⟨rfl, q, rfl⟩
  clear heq
  rcases q5 with rfl | ⟨g, rfl, hlc2, hcl⟩
  · go_wp2_with fail
    all_goals
      refine wp_loop_rounds 1 ?_
      rw [rounds_succ]
      go_wp2
      go_ret
      exact ⟨rfl, by have hb5 := HBF.out; exact ⟨hb5.os, hb5.tape, hb5.output, hb5.size, hb5.block⟩⟩
  · have HCL : Hid (∀ k, k < m - ll → w5.cell? ⟨g, ll + k, none⟩ = some (.int .u8 (X.getD k 0))) := hcl
    clear hcl
    have j2 : ¬ gc = ll := by omega
    go_wp2_with fail
    go_loopg [9] (m - ll) (fun k v wr => ∃ (j p : Nat), k = m - ll - j ∧ j ≤ m - ll ∧ v = .int .i64 j ∧ wr = w5.drewN p)
    case atStart => exact ⟨0, _, rfl, Nat.zero_le _, rfl, rfl⟩
    case round =>
      obtain ⟨j, p, rfl, hj, rfl, rfl⟩ := hrel
      by_cases hlt : j + 1 < m - ll
      · have d1 := HCL.out j (by omega)
        have d2 := HCL.out (j + 1) (by omega)
        have d3 := HNT.out j (by rw [HQ3.out]; omega)
        have i1 : (0 : Int) ≤ (j : Int) := by omega
        have i2 : (j : Int) + 1 < (m : Int) - (ll : Int) := by omega
        have i3 : (j : Int) < (m : Int) - (ll : Int) := by omega
        generalize X.getD j 0 = x1 at *
        generalize X.getD (j + 1) 0 = x2 at *
        have htag := tag_any x2 (w5.drewN p)
        by_cases h60 : x1 = 60
        · rw [d3 h60] at htag
          subst h60
          clear d3
          go_wp2_with (go_at_call 15; refine htag.mono ?_; rintro e w7 ⟨rfl, rfl⟩)
          go_roundg (m - ll - (j + 1))
          case measure => omega
          case rel => exact ⟨j + 1, _, rfl, by omega, by go_num, rfl⟩
        · have f0 : (x1 == 60) = false := by rw [beq_eq_false_iff_ne]; exact h60
          clear d3 htag
          go_wp2
          go_roundg (m - ll - (j + 1))
          case measure => omega
          case rel => exact ⟨j + 1, _, rfl, by omega, by go_num, rfl⟩
      · have i2 : ¬ (j : Int) + 1 < (m : Int) - (ll : Int) := by omega
        go_wp2
        go_ret
        exact ⟨rfl, by have hb5 := HBF.out; exact ⟨hb5.os, hb5.tape, hb5.output, hb5.size, hb5.block⟩⟩

theorem lawK_any (a0 : Option Addr) (len0 cap0 : Nat) (z0 : List Int) (a1 : Option Addr) (len1 cap1 : Nat) (z1 : List Int) (w : World) (w0 : IsRow .u8 w a0 len0 cap0 z0) (w1 : IsRow .u8 w a1 len1 cap1 z1) :
    Calls Try.prog 5 #[.slice a0 len0 cap0, .slice a1 len1 cap1] w fun e w' => e = .returned (.bool true) ∧ Below w.heap.size w w' := by
  have m0 := w0.len_le
  have m1 := w1.len_le
  by_cases h : len0 + len1 ≤ 1048576
  · by_cases h0 : len0 ≤ 524288
    · by_cases h1 : len1 ≤ 524288
      · have ht := w1.take
        rcases w1 with ⟨rfl, rfl, rfl, rfl⟩ | ⟨x, rfl, hl, hm, hzl, hcell, hwf⟩
        · exact lawK_nil a0 len0 cap0 z0 w w0 h0
        · exact lawK_some a0 len0 cap0 z0 x len1 cap1 z1 w w0 hzl hl hcell ht h0 h1
      · have hbytes := bytesK_yes a0 a1 len0 cap0 len1 cap1 w h
        clear w0 w1
        go_enter Try.func5, Try.ntmps5
        go_wp2_with (go_at_call 14; refine hbytes.mono ?_; rintro e w ⟨rfl, rfl⟩)
        go_ret
        exact ⟨rfl, Below.refl _ _⟩
    · have hbytes := bytesK_yes a0 a1 len0 cap0 len1 cap1 w h
      clear w0 w1
      go_enter Try.func5, Try.ntmps5
      go_wp2_with (go_at_call 14; refine hbytes.mono ?_; rintro e w ⟨rfl, rfl⟩)
      go_ret
      exact ⟨rfl, Below.refl _ _⟩
  · have hbytes := bytesK_no a0 a1 len0 cap0 len1 cap1 w m0 m1 h
    clear w0 w1
    go_enter Try.func5, Try.ntmps5
    go_wp2_with (go_at_call 14; refine hbytes.mono ?_; rintro e w ⟨rfl, rfl⟩)
    go_ret
    exact ⟨rfl, Below.refl _ _⟩
end Go.Proofs.Qxb6604030a
