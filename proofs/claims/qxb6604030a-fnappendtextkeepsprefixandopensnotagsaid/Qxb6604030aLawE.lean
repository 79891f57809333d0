/-
  Seat b6604030a: the walk of FnAppendTextMatchesEscapeModel.
-/
import Derived.Test.Qxb6604030aZZ
namespace Go.Proofs.Qxb6604030a
open Go.RowKit

/-- Behind the copy of raw: the rest of the law, in plain words: b cloned, the model's row, the row appended to: what 'Sl' of both is. -/
theorem kept_rows {w4 w5 w6 : World} {Bb : Nat} {bv v wv : Value} {m : Nat} {X Y : List Int} (hbw : bv.ownBlock = none ∨ ∃ k, bv.ownBlock = some k ∧ k < w4.heap.size) (hw : w5.ownsRow w4.heap.size 5 1 wv m (Y.map (Value.int .u8))) {mm : Nat} (hap : AP Bb w5 w6 bv.ownBlock v mm (X.map (Value.int .u8))) : Sl w6 wv Y ∧ Sl w6 v X := by
  refine ⟨Sl.ofOwn (hw.kept hap.grown ?_), Sl.ofOwn hap.own⟩
  cases hv : wv.ownBlock with
  | none => exact .inl rfl
  | some k =>
    right
    have h1 := (hw.lt k hv).1
    intro e
    rcases hbw with h | ⟨j, h, hj⟩
    · rw [h] at e; cases e
    · rw [h] at e
      have : k = j := Option.some.inj e
      omega

/-- The cells that the copy takes over. -/
theorem copy_src {w w1 : World} {x : Addr} {len1 cap1 : Nat} {z1 R : List Int} (hc : ∀ i, i < z1.length → w.cell? (x.add i) = some (.int .u8 (z1.getD i 0))) (hz : z1.length = cap1) (hl : len1 ≤ cap1) (hR : R = z1.take len1) (hb : Below w.heap.size w w1) :
    ∀ j v, (R.map (Value.int .u8))[j]? = some v → w1.cell? (x.add j) = some v := by
  intro j v hv
  subst hR
  have hj : j < len1 := by
    have := (List.getElem?_eq_some_iff.1 hv).1
    simp at this; omega
  have h0 := hc j (by omega)
  rw [hb.cell (p := x.add j) (World.block_lt_of_cell? w _ h0), h0]
  rw [List.getElem?_map, List.getElem?_take, if_pos hj, List.getElem?_eq_getElem (by omega)] at hv
  rw [List.getD_eq_getElem?_getD, List.getElem?_eq_getElem (by omega)]
  exact hv

set_option maxHeartbeats 2000000 in
theorem law_some (a0 : Option Addr) (len0 cap0 : Nat) (z0 : List Int) (x : Addr) (len1 cap1 : Nat) (z1 : List Int) (w : World) (w0 : IsRow .u8 w a0 len0 cap0 z0)
    (hzl : z1.length = cap1) (hlc : len1 ≤ cap1) (hcell : ∀ i, i < z1.length → w.cell? (x.add i) = some (.int .u8 (z1.getD i 0))) (hby : ∀ y ∈ z1.take len1, 0 ≤ y ∧ y < 256) (h0 : len0 ≤ 524288) (h1 : len1 ≤ 524288) :
    Calls Try.prog 4 #[.slice a0 len0 cap0, .slice (some x) len1 cap1] w fun e w' => e = .returned (.bool true) ∧ Below w.heap.size w w' := by
  obtain ⟨i0, hi, hz0, hz1, hz2⟩ := info_parts info5
  have hbytes := bytes_yes a0 (some x) len0 cap0 len1 cap1 w (by omega)
  have hneq := fun wx => run_neq_slice_nil_any (P := Try.prog) wx 22 5 (some x) len1 cap1 0 0 Try.underlying22
  have HW0 : Hid (IsRow .u8 w a0 len0 cap0 z0) := w0
  have HC : Hid (∀ i, i < z1.length → w.cell? (x.add i) = some (.int .u8 (z1.getD i 0))) := hcell
  have HBY : Hid (∀ y ∈ z1.take len1, 0 ≤ y ∧ y < 256) := hby
  have HLR : Hid ((z1.take len1).length = len1) := by unfold Hid; rw [List.length_take]; omega
  obtain ⟨R, hR⟩ : ∃ R, R = z1.take len1 := ⟨_, rfl⟩
  have HR : Hid (R = z1.take len1) := hR
  clear w0 hcell hby hR
  go_enter Try.func4, Try.ntmps4
  go_upto_region 9 with (first
    | (go_at_call 10; refine hbytes.mono ?_; rintro e w ⟨rfl, rfl⟩)
    | (at_make; refine wpList_make_full _ rfl _ _ 22 rfl w.heap.size 5 i0 (.int .u8 0) 1 Try.underlying22 hi hz0 hz1 _ _ _ _ len1 rfl rfl (by omega) (by omega) (by rw [hz2]; omega) (by unfold maxLen; omega) (Nat.le_refl _) ?_; intro w1 hown1 hgrow1))
  have hb1 : Below w.heap.size w w1 := (Below.refl _ _).grown hgrow1 (Nat.le_refl _) (fun k h => by cases h)
  rw [show (madeCells (Value.int .u8 0).cells (len1 * 1)).toList = List.replicate len1 (.int .u8 0) from by rw [Nat.mul_one]; exact toList_madeCells_one _ _] at hown1
  have hblk := block_own hown1
  have hpos := copy_src HC.out hzl hlc HR.out hb1
  have hRl : (R.map (Value.int .u8)).length = len1 := by rw [List.length_map, HR.out]; exact HLR.out
  clear hown1 hgrow1 hneq hbytes
  go_cut [] (fun wr => wr.ownsRow w.heap.size 5 1 (.slice (some ⟨w.heap.size, 0, none⟩) len1 len1) len1 (R.map (Value.int .u8)) ∧ Below w.heap.size w wr)
  case first =>
    go_wp2_with (refine wpList_copy_splice rfl (.tmp 23) (.tmp 24) 22 22 rfl 5 Try.underlying22 len5 _ _ _ _ _ _ rfl rfl w.heap.size 0 _ 5 hblk (R.map (Value.int .u8)) (by rw [hRl]; exact (Nat.min_self _).symm) (fun _ => ⟨rfl, x, rfl, hpos⟩) (by rw [hRl]; simp) (ints_oneCell _ _) w.heap.size w hb1 (Nat.le_refl _) ?_; intro w2 HG2 hB2)
    go_meet
    case rel =>
      refine ⟨own_block ?_ hRl (Nat.le_refl _) (by unfold maxLen; omega), hB2⟩
      have h0 := HG2.out
      rw [splice_all _ _ (by rw [hRl]; simp)] at h0
      exact h0
  case rest =>
    clear hblk hpos hb1
    obtain ⟨hraw, hb2⟩ := hcut
    have HRAW : Hid (wc.ownsRow w.heap.size 5 1 (.slice (some ⟨w.heap.size, 0, none⟩) len1 len1) len1 (R.map (Value.int .u8))) := hraw
    have HB2 : Hid (Below w.heap.size w wc) := hb2
    have HRL2 : Hid (R.length = len1) := by have h0 := hRl; rw [List.length_map] at h0; exact h0
    clear hraw hb2 hRl
    go_wp2_with fail
    refine (clone_any a0 len0 cap0 z0 wc (HW0.out.below HB2.out) (by omega)).mono ?_
    rintro e w3 ⟨bv, rfl, -, hob, hb3⟩
    obtain ⟨L, hLd⟩ : ∃ L, L = z0.take len0 := ⟨_, rfl⟩
    rw [← hLd] at hob
    have hLl : L.length = len0 := by have h0 := hob.1; simpa using h0
    have HOB : Hid (w3.ownsRow wc.heap.size 5 1 bv L.length (L.map (Value.int .u8))) := by rw [← hLl] at hob; exact hob
    have HB3 : Hid (Below wc.heap.size wc w3) := hb3
    have hL2 : L.length ≤ 524288 := by omega
    have hR2 : R.length ≤ 524288 := by have := HRL2.out; omega
    clear hob hb3 hLd hLl
    have hraw3 := ownsRow_below HRAW.out HB3.out
    have hrow : w3.ownsRow w.heap.size 5 1 (.slice (some ⟨w.heap.size, 0, none⟩) len1 len1) R.length (R.map (Value.int .u8)) := by rw [HRL2.out]; exact hraw3
    have hmod := model_any bv (.slice (some ⟨w.heap.size, 0, none⟩) len1 len1) L R w3 (Sl.ofOwn HOB.out) (Sl.ofOwn hrow) hL2 hR2
    clear hraw3
    go_wp2_with fail
    refine hmod.mono ?_
    rintro e w4 ⟨wv, rfl, hwv, hb4⟩
    have HB4 : Hid (Below w3.heap.size w3 w4) := hb4
    have HWV : Hid (w4.ownsRow w3.heap.size 5 1 wv (L.length + (Plain.mdl R).length) ((L ++ Plain.mdl R).map (Value.int .u8))) := hwv
    have hzz := zz_any wc.heap.size w.heap.size bv (.slice (some ⟨w.heap.size, 0, none⟩) len1 len1) L R w4 (ownsRow_below HOB.out hb4) (ownsRow_below hrow hb4) (Nat.le_trans HB3.out.size hb4.size)
      (fun g hg e => by
        have e1 : w.heap.size = g := Option.some.inj hg
        have h2 := (HOB.out.lt g e.symm).1
        have h3 := (HRAW.out.lt w.heap.size rfl).2
        omega) (by rw [HR.out]; exact HBY.out) hL2 hR2
    clear hmod hwv hb4 hrow
    go_wp2_with fail
    refine hzz.mono ?_
    rintro e w5 ⟨gv, rfl, hap⟩
    clear hzz
    have hbk : bv.ownBlock = none ∨ ∃ k, bv.ownBlock = some k ∧ k < w3.heap.size := by
      cases hk : bv.ownBlock with
      | none => exact .inl rfl
      | some k => exact .inr ⟨k, rfl, (HOB.out.lt k hk).2⟩
    have hsl := kept_rows hbk HWV.out hap
    have hb5 : Below w.heap.size w w5 := by
      refine (((HB2.out.trans (HB3.out.mono HB2.out.size)).trans (HB4.out.mono (Nat.le_trans HB2.out.size HB3.out.size)))).grown hap.grown (Nat.le_trans HB2.out.size (Nat.le_trans HB3.out.size HB4.out.size)) (fun k hk => ?_)
      have := (HOB.out.lt k hk).1
      have := HB2.out.size
      omega
    have hml := (Plain.mdl_len R).2
    have heq := equal_any gv wv (L ++ Plain.mdl R) w5 hsl.2 hsl.1 (by rw [List.length_append]; omega)
    clear hsl hap hml
    go_wp2_with fail
    refine heq.mono ?_
    rintro e w6 ⟨rfl, q, rfl⟩
    clear heq
    go_wp2_with fail
    go_ret
    exact ⟨rfl, ⟨hb5.os, hb5.tape, hb5.output, hb5.size, hb5.block⟩⟩

set_option maxHeartbeats 2000000 in
theorem law_nil (a0 : Option Addr) (len0 cap0 : Nat) (z0 : List Int) (w : World) (w0 : IsRow .u8 w a0 len0 cap0 z0) (h0 : len0 ≤ 524288) :
    Calls Try.prog 4 #[.slice a0 len0 cap0, .slice none 0 0] w fun e w' => e = .returned (.bool true) ∧ Below w.heap.size w w' := by
  have hbytes := bytes_yes a0 none len0 cap0 0 0 w (by omega)
  have hneq := fun wx => run_neq_slice_nil_any (P := Try.prog) wx 22 5 none 0 0 0 0 Try.underlying22
  have hcl := clone_any a0 len0 cap0 z0 w w0 (by omega)
  obtain ⟨L, hLd⟩ : ∃ L, L = z0.take len0 := ⟨_, rfl⟩
  rw [← hLd] at hcl
  clear w0 hLd
  go_enter Try.func4, Try.ntmps4
  go_wp2_with (go_at_call 10; refine hbytes.mono ?_; rintro e w ⟨rfl, rfl⟩)
  refine hcl.mono ?_
  rintro e w3 ⟨bv, rfl, -, hob, hb3⟩
  have hLl : L.length = len0 := by have h0 := hob.1; simpa using h0
  have HOB : Hid (w3.ownsRow w.heap.size 5 1 bv L.length (L.map (Value.int .u8))) := by rw [← hLl] at hob; exact hob
  have HB3 : Hid (Below w.heap.size w w3) := hb3
  have hL2 : L.length ≤ 524288 := by omega
  clear hob hb3 hLl hcl hbytes hneq
  have hnil : ∀ wx : World, wx.ownsRow w.heap.size 5 1 (.slice none 0 0) ([] : List Int).length (([] : List Int).map (Value.int .u8)) := fun wx => World.ownsRow_nil _ _ _ _
  have hmod := model_any bv (.slice none 0 0) L [] w3 (Sl.ofOwn HOB.out) (Sl.ofOwn (hnil w3)) hL2 (by simp)
  go_wp2_with fail
  refine hmod.mono ?_
  rintro e w4 ⟨wv, rfl, hwv, hb4⟩
  have HB4 : Hid (Below w3.heap.size w3 w4) := hb4
  have HWV : Hid (w4.ownsRow w3.heap.size 5 1 wv (L.length + (Plain.mdl []).length) ((L ++ Plain.mdl []).map (Value.int .u8))) := hwv
  have hzz := zz_any w.heap.size w.heap.size bv (.slice none 0 0) L [] w4 (ownsRow_below HOB.out hb4) (hnil w4) (Nat.le_trans HB3.out.size hb4.size) (fun g hg e => by cases hg) (by simp) hL2 (by simp)
  clear hmod hwv hb4
  go_wp2_with fail
  refine hzz.mono ?_
  rintro e w5 ⟨gv, rfl, hap⟩
  clear hzz hnil
  have hbk : bv.ownBlock = none ∨ ∃ k, bv.ownBlock = some k ∧ k < w3.heap.size := by
    cases hk : bv.ownBlock with
    | none => exact .inl rfl
    | some k => exact .inr ⟨k, rfl, (HOB.out.lt k hk).2⟩
  have hsl := kept_rows hbk HWV.out hap
  have hb5 : Below w.heap.size w w5 := (HB3.out.trans (HB4.out.mono HB3.out.size)).grown hap.grown (Nat.le_trans HB3.out.size HB4.out.size) (fun k hk => (HOB.out.lt k hk).1)
  have heq := equal_any gv wv (L ++ Plain.mdl []) w5 hsl.2 hsl.1 (by simp [Plain.mdl]; omega)
  clear hsl hap
  go_wp2_with fail
  refine heq.mono ?_
  rintro e w6 ⟨rfl, q, rfl⟩
  clear heq
  go_wp2_with fail
  go_ret
  exact ⟨rfl, ⟨hb5.os, hb5.tape, hb5.output, hb5.size, hb5.block⟩⟩

theorem law_any (a0 : Option Addr) (len0 cap0 : Nat) (z0 : List Int) (a1 : Option Addr) (len1 cap1 : Nat) (z1 : List Int) (w : World) (w0 : IsRow .u8 w a0 len0 cap0 z0) (w1 : IsRow .u8 w a1 len1 cap1 z1) :
    Calls Try.prog 4 #[.slice a0 len0 cap0, .slice a1 len1 cap1] w fun e w' => e = .returned (.bool true) ∧ Below w.heap.size w w' := by
  have m0 := w0.len_le
  have m1 := w1.len_le
  by_cases h : len0 + len1 ≤ 1048576
  · by_cases h0 : len0 ≤ 524288
    · by_cases h1 : len1 ≤ 524288
      · have ht := w1.take
        rcases w1 with ⟨rfl, rfl, rfl, rfl⟩ | ⟨x, rfl, hl, hm, hzl, hcell, hwf⟩
        · exact law_nil a0 len0 cap0 z0 w w0 h0
        · exact law_some a0 len0 cap0 z0 x len1 cap1 z1 w w0 hzl hl hcell ht h0 h1
      · have hbytes := bytes_yes a0 a1 len0 cap0 len1 cap1 w h
        clear w0 w1
        go_enter Try.func4, Try.ntmps4
        go_wp2_with (go_at_call 10; refine hbytes.mono ?_; rintro e w ⟨rfl, rfl⟩)
        go_ret
        exact ⟨rfl, Below.refl _ _⟩
    · have hbytes := bytes_yes a0 a1 len0 cap0 len1 cap1 w h
      clear w0 w1
      go_enter Try.func4, Try.ntmps4
      go_wp2_with (go_at_call 10; refine hbytes.mono ?_; rintro e w ⟨rfl, rfl⟩)
      go_ret
      exact ⟨rfl, Below.refl _ _⟩
  · have hbytes := bytes_no a0 a1 len0 cap0 len1 cap1 w m0 m1 h
    clear w0 w1
    go_enter Try.func4, Try.ntmps4
    go_wp2_with (go_at_call 10; refine hbytes.mono ?_; rintro e w ⟨rfl, rfl⟩)
    go_ret
    exact ⟨rfl, Below.refl _ _⟩
end Go.Proofs.Qxb6604030a
