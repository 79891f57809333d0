/-
  Walks of seat b6604030a: appendText.
-/
import Derived.Test.Qxb6604030aModel
namespace Go.Proofs.Qxb6604030a
open Go.RowKit

/-- 'append(v, s...)', s a string, v a row of the call's own: and where the new row lies. -/
theorem wpList_append_str_at {P : Program} {w : World} {ops : Array Oper} {rest : List Oper} {o : Oper} {a : Act} {Q : Exit → Act → World → Prop} (hgd : o.guard = none) (sl x : Operand) (t u : TypeId)
    (ho : o.op = .call { callee := .builtin .append, args := #[sl, x], argTypes := #[t, u] })
    (base : Nat) (e : TypeId) (i : TypeInfo) (ht : P.underlying t = some (.slice e)) (hu : P.underlying u = some .string) (hi : P.info? e = some i) (hz : i.zero = some (.int .u8 0))
    (hsize : i.size = 1) (hby : i.bytes = 1) (v : Value) (n : Nat) (xs : List Value) (hs : a.eval sl = v) (hown : w.ownsRow base e 1 v n xs) (s : ByteArray) (hx : a.eval x = .string s) (h0 : 0 < s.size)
    (h63 : n + s.size ≤ maxLen) (hbytes : n + s.size ≤ 140737488355328) (hbase : base ≤ w.heap.size)
    (h : ∀ v' w', w'.ownsRow base e 1 v' (n + s.size) (xs ++ Lib.strCells s) → w.grownBy w' v.ownBlock → (v'.ownBlock = v.ownBlock ∨ v'.ownBlock = some w.heap.size) → wpList P ops Q rest (a.put o.dst v') w') : wpList P ops Q (o :: rest) a w := by
  refine wpList_plain hgd fun K hK => ?_
  obtain ⟨v', w', hr, h2, h3, _⟩ := Lib.run_append_own_string (P := P) w base t u o.type e i ht hu hi hz hsize hby v n xs hown s h63 hbytes hbase
  have hsm : n + s.size ≤ 9223372036854775807 := by unfold maxLen at h63; omega
  have hxl : xs.length = n := by simpa using hown.1
  have hat : v'.ownBlock = v.ownBlock ∨ v'.ownBlock = some w.heap.size := by
    rcases hown.2 with ⟨rfl, rfl⟩ | ⟨g, cap, cur, rfl, hbg, hg, hnc, hcm, hcs, htake⟩
    · have e1 := run_append_nil_string (P := P) w t u o.type e i (.int .u8 0) ht hu hi hz s h0 (by omega) (by rw [hby]; omega)
      rw [hr] at e1
      injection e1 with e2 e3
      right; rw [e2]; rfl
    · by_cases hroom : n + s.size ≤ cap
      · have e1 := Lib.run_append_room_string (P := P) w t u o.type e i ht hu hi hsize g n cap cur hg s hroom (by omega)
        rw [hr] at e1
        injection e1 with e2 e3
        left; rw [e2]; rfl
      · have e1 := Lib.run_append_grow_string (P := P) w t u o.type e i (.int .u8 0) ht hu hi hz ⟨g, 0, none⟩ n cap xs (by rw [hsize]; simpa using hxl) (hown.cells (g := g) rfl) s (by omega) (by omega) (by rw [hby]; exact growslice_fits (by omega) (by omega))
        rw [hr] at e1
        injection e1 with e2 e3
        right; rw [e2]; rfl
  unfold Oper.wp execOp
  simp only [ho, resolve, invoke, builtin, Sem.run_bind, Sem.run_pure, Result.andThen_ok, List.map_toArray, List.map_cons, List.map_nil, hs, hx, hr]
  exact hK _ _ (h v' w' h2 h3 hat)

/-- A row that is appended to: of the old blocks row0 alone may have turned. -/
structure AP (B : Nat) (w wr : World) (row0 : Option Nat) (v : Value) (m : Nat) (xs : List Value) : Prop where
  grown : w.grownBy wr row0
  own : wr.ownsRow B 5 1 v m xs
  lies : v.ownBlock = row0 ∨ ∃ k, v.ownBlock = some k ∧ w.heap.size ≤ k

theorem grown_trans {w wr wa w1 : World} {row0 : Option Nat} {v : Value} (h : w.grownBy wr row0) (hl : v.ownBlock = row0 ∨ ∃ k, v.ownBlock = some k ∧ w.heap.size ≤ k) (ha : wr.grownBy wa none) (hg : wa.grownBy w1 v.ownBlock) : w.grownBy w1 row0 := by
  refine ⟨hg.os.trans (ha.os.trans h.os), hg.tape.trans (ha.tape.trans h.tape), hg.output.trans (ha.output.trans h.output), Nat.le_trans h.size (Nat.le_trans ha.size hg.size), fun k hk hne => ?_⟩
  have k1 : k < wr.heap.size := Nat.lt_of_lt_of_le hk h.size
  have k2 : k < wa.heap.size := Nat.lt_of_lt_of_le k1 ha.size
  rw [hg.block k k2 ?_, ha.block k k1 (by simp), h.block k hk hne]
  intro e
  rcases hl with hl | ⟨j, hl, hj⟩
  · exact hne (e.trans hl)
  · rw [hl] at e
    have : k = j := Option.some.inj e
    omega

theorem AP.step {B : Nat} {w wr wa w1 : World} {row0 : Option Nat} {v v' : Value} {m m' : Nat} {xs xs' : List Value} (h : AP B w wr row0 v m xs) (ha : wr.grownBy wa none) (hg : wa.grownBy w1 v.ownBlock)
    (ho : w1.ownsRow B 5 1 v' m' xs') (hat : v'.ownBlock = v.ownBlock ∨ v'.ownBlock = some wa.heap.size) : AP B w w1 row0 v' m' xs' := by
  refine ⟨grown_trans h.grown h.lies ha hg, ho, ?_⟩
  rcases hat with e | e
  · rw [e]; exact h.lies
  · exact .inr ⟨_, e, Nat.le_trans h.grown.size ha.size⟩

theorem seg_cells {w : World} {g k m : Nat} {r : List Int} (h : ∀ j, j < m → w.cell? ⟨g, k + j, none⟩ = some (.int .u8 (r.getD j 0))) (i : Nat) (hi : i ≤ m) (hr : r.length = m) :
    ∀ j u, ((r.take i).map (Value.int .u8))[j]? = some u → w.cell? ((⟨g, k, none⟩ : Addr).add j) = some u := by
  intro j u hu
  have hj : j < i := by
    have := (List.getElem?_eq_some_iff.1 hu).1
    simp at this; omega
  rw [Addr.add_lit, h j (by omega)]
  rw [List.getElem?_map, List.getElem?_take, if_pos hj, List.getElem?_eq_getElem (by omega)] at hu
  rw [List.getD_eq_getElem?_getD, List.getElem?_eq_getElem (by omega)]
  exact hu

theorem bytes_drop {R : List Int} (h : ∀ x ∈ R, 0 ≤ x ∧ x < 256) (k : Nat) : ∀ x ∈ R.drop k, 0 ≤ x ∧ x < 256 := fun x hx => h x (List.mem_of_mem_drop hx)

theorem fin_all {B ll gk : Nat} {w w1 : World} {row0 : Option Nat} {v1 : Value} {L X r R : List Int} (hF : X ++ r = Plain.mdl R) (hrl : r.length = gk) (ht : r.take gk = r)
    (h : AP B w w1 row0 v1 (ll + X.length + gk) ((L ++ X).map (Value.int .u8) ++ (r.take gk).map (Value.int .u8))) : AP B w w1 row0 v1 (ll + (Plain.mdl R).length) ((L ++ Plain.mdl R).map (Value.int .u8)) := by
  rw [ht, ← List.map_append, List.append_assoc, hF] at h
  rw [← hF, List.length_append, hrl, ← Nat.add_assoc, hF]
  exact h

theorem fin_lt {B ll i : Nat} {w w1 : World} {row0 : Option Nat} {v1 : Value} {L X a : List Int} (hi : i = a.length)
    (h : AP B w w1 row0 v1 (ll + X.length + i + (⟨#[38, 108, 116, 59]⟩ : ByteArray).size) ((L ++ X).map (Value.int .u8) ++ a.map (Value.int .u8) ++ Lib.strCells ⟨#[38, 108, 116, 59]⟩)) : AP B w w1 row0 v1 (ll + (X ++ (a ++ Plain.lt4)).length) ((L ++ (X ++ (a ++ Plain.lt4))).map (Value.int .u8)) := by
  have e1 : ll + (X ++ (a ++ Plain.lt4)).length = ll + X.length + i + (⟨#[38, 108, 116, 59]⟩ : ByteArray).size := by
    show _ = ll + X.length + i + 4
    simp [Plain.lt4]; omega
  have e2 : (L ++ (X ++ (a ++ Plain.lt4))).map (Value.int .u8) = (L ++ X).map (Value.int .u8) ++ a.map (Value.int .u8) ++ Lib.strCells ⟨#[38, 108, 116, 59]⟩ := by
    have e3 : Lib.strCells ⟨#[38, 108, 116, 59]⟩ = Plain.lt4.map (Value.int .u8) := rfl
    rw [e3]; simp
  rw [e1, e2]; exact h
theorem fin_one {B ll i : Nat} {w w1 : World} {row0 : Option Nat} {v1 : Value} {L X a : List Int} (hi : i = a.length)
    (h : AP B w w1 row0 v1 (ll + X.length + i + 1) ((L ++ X).map (Value.int .u8) ++ a.map (Value.int .u8) ++ [.int .u8 60])) : AP B w w1 row0 v1 (ll + (X ++ (a ++ [60])).length) ((L ++ (X ++ (a ++ [60]))).map (Value.int .u8)) := by
  have e1 : ll + (X ++ (a ++ [60])).length = ll + X.length + i + 1 := by simp; omega
  have e2 : (L ++ (X ++ (a ++ [60]))).map (Value.int .u8) = (L ++ X).map (Value.int .u8) ++ a.map (Value.int .u8) ++ [.int .u8 60] := by simp
  rw [e1, e2]; exact h

theorem cell_ne {B : Nat} {w wr : World} {row0 : Option Nat} {v : Value} {m g : Nat} {xs : List Value} (h : AP B w wr row0 v m xs) (hg : g < w.heap.size) (hne : some g ≠ row0) : some g ≠ v.ownBlock := by
  intro e
  rcases h.lies with hl | ⟨k, hl, hk⟩
  · exact hne (e.trans hl)
  · rw [hl] at e
    have : g = k := Option.some.inj e
    omega

set_option maxRecDepth 100000 in
set_option maxHeartbeats 4000000 in
theorem app_any (B : Nat) (bv : Value) (L R : List Int) (g n cap : Nat) (w : World) (hown : w.ownsRow B 5 1 bv L.length (L.map (Value.int .u8))) (hB : B ≤ w.heap.size) (hg : g < w.heap.size) (hne : some g ≠ bv.ownBlock) (hn : R.length = n) (hcap : n ≤ cap)
    (hby : ∀ x ∈ R, 0 ≤ x ∧ x < 256) (hcl : ∀ k, k < n → w.cell? ⟨g, k, none⟩ = some (.int .u8 (R.getD k 0))) (hL : L.length ≤ 524288) (hR : n ≤ 524288) :
    Calls Try.prog 18 #[bv, .slice (some ⟨g, 0, none⟩) n cap] w fun e w' => ∃ v, e = .returned v ∧ AP B w w' bv.ownBlock v (L.length + (Plain.mdl R).length) ((L ++ Plain.mdl R).map (Value.int .u8)) := by
  obtain ⟨i0, hi, hz0, hz1, hz2⟩ := info_parts info5
  have HCL : Hid (∀ k, k < n → w.cell? ⟨g, k, none⟩ = some (.int .u8 (R.getD k 0))) := hcl
  have HBY : Hid (∀ x ∈ R, 0 ≤ x ∧ x < 256) := hby
  have HN : Hid (R.length = n) := hn
  have HNE : Hid (some g ≠ bv.ownBlock) := hne
  obtain ⟨row0, hrow⟩ : ∃ row0, row0 = bv.ownBlock := ⟨_, rfl⟩
  have HA0 : Hid (AP B w w row0 bv (L.length + 0) ((L ++ []).map (Value.int .u8))) := ⟨World.grownBy.refl _ _, by simpa using hown, .inl hrow.symm⟩
  rw [← hrow]
  rw [← hrow] at HNE
  obtain ⟨ll, hll⟩ : ∃ ll, ll = L.length := ⟨_, rfl⟩
  rw [← hll] at hL HA0 ⊢
  clear hcl hby hn hne hrow hown hll
  go_enter Try.func18, Try.ntmps18
  go_wp2
  go_loopg [0, 1] n (fun gk v rv wr => ∃ (k m c : Nat) (X : List Int), gk = m ∧ k + m = n ∧ m ≤ c ∧ rv = .slice (some ⟨g, k, none⟩) m c ∧ AP B w wr row0 v (ll + X.length) ((L ++ X).map (Value.int .u8)) ∧ X ++ Plain.mdl (R.drop k) = Plain.mdl R ∧ X.length ≤ 4 * k)
  case atStart => exact ⟨0, n, cap, [], rfl, by omega, hcap, rfl, HA0.out, by simp, by simp⟩
  case round =>
    clear HA0
    obtain ⟨k, m, c, X, rfl, hkm, hmc, hrv, hAP, hX, hXl⟩ := hrel
    subst hrv
    have HAP : Hid (AP B w wr row0 u0 (ll + X.length) ((L ++ X).map (Value.int .u8))) := hAP
    have HX : Hid (X ++ Plain.mdl (R.drop k) = Plain.mdl R) := hX
    have hrl : (R.drop k).length = gk := by rw [List.length_drop, HN.out]; omega
    have hcells : ∀ j, j < gk → wr.cell? ⟨g, k + j, none⟩ = some (.int .u8 ((R.drop k).getD j 0)) := by
      intro j hj
      rw [hAP.grown.cell_far ⟨g, k + j, none⟩ hg HNE.out, HCL.out (k + j) (by omega)]
      simp [List.getD_eq_getElem?_getD, List.getElem?_drop]
    have hown := hAP.own
    have hsz := hAP.grown.size
    have hidx := index_any ⟨g, k, none⟩ gk c (R.drop k) wr hrl (fun j hj => by rw [Addr.add_lit]; exact hcells j hj)
    have hseg := seg_cells hcells
    have HKM : Hid (k + gk = n) := hkm
    have hkm1 : k + gk ≤ n := by omega
    clear hAP hX hkm
    generalize hr0 : R.drop k = r at *
    have HR0 : Hid (R.drop k = r) := hr0
    have HRB : Hid (∀ x ∈ r, 0 ≤ x ∧ x < 256) := by have h0 := bytes_drop HBY.out k; rw [hr0] at h0; exact h0
    have hall := hseg gk (Nat.le_refl _) hrl
    have hlen : ((r.take gk).map (Value.int .u8)).length = gk * 1 := by rw [List.length_map, List.length_take, hrl]; omega
    have HTK : Hid (r.take gk = r) := List.take_of_length_le (by omega)
    have HRL : Hid (r.length = gk) := hrl
    clear hr0 hrl
    rcases Plain.index_lt r HRB.out with ⟨hix, hno⟩ | ⟨a, b, hab, hno, hix⟩
    · rw [hix] at hidx
      have HF : Hid (X ++ r = Plain.mdl R) := by have h0 := HX.out; rw [Plain.mdl_none r hno] at h0; exact h0
      clear hix hno hcells hseg
      go_wp2_with (first | (go_at_call 20; refine hidx.mono ?_; rintro e wr ⟨rfl, rfl⟩) | (at_builtin; refine wpList_append_own_at _ rfl (.tmp 18) (.tmp 19) 22 rfl B 5 i0 (.int .u8 0) 1 1 Try.underlying22 hi hz0 hz1 hz2 rfl (by decide) u0 _ _ rfl hown ⟨g, k, none⟩ gk c ((r.take gk).map (Value.int .u8)) rfl hlen hall (ints_oneCell _ _) (by unfold maxLen; omega) (by omega) (by omega) ?_; intro v1 w1 ho1 hg1 _ hat1))
      go_ret
      exact ⟨_, rfl, fin_all HF.out HRL.out HTK.out (HAP.out.step (World.grownBy.refl _ _) hg1 ho1 hat1)⟩
    · rw [hix] at hidx
      cases b with
      | nil =>
        have HF : Hid (X ++ r = Plain.mdl R) := by have h0 := HX.out; rw [hab, Plain.mdl_last a hno, ← hab] at h0; exact h0
        have hal : gk = a.length + 1 := by rw [← HRL.out, hab]; simp
        have t1 : ((a.length : Int) == (gk : Int) - 1) = true := by rw [beq_iff_eq]; omega
        have t2 : decide ((a.length : Int) < 0) = false := by simp
        have HAL : Hid (gk = a.length + 1) := hal
        clear hix hno hcells hseg hab hal
        go_wp2_with (first | (go_at_call 20; refine hidx.mono ?_; rintro e wr ⟨rfl, rfl⟩) | (at_builtin; refine wpList_append_own_at _ rfl (.tmp 18) (.tmp 19) 22 rfl B 5 i0 (.int .u8 0) 1 1 Try.underlying22 hi hz0 hz1 hz2 rfl (by decide) u0 _ _ rfl hown ⟨g, k, none⟩ gk c ((r.take gk).map (Value.int .u8)) rfl hlen hall (ints_oneCell _ _) (by unfold maxLen; omega) (by omega) (by omega) ?_; intro v1 w1 ho1 hg1 _ hat1))
        go_ret
        exact ⟨_, rfl, fin_all HF.out HRL.out HTK.out (HAP.out.step (World.grownBy.refl _ _) hg1 ho1 hat1)⟩
      | cons d b =>
        have hal : gk = a.length + 2 + b.length := by rw [← HRL.out, hab]; simp; omega
        have hal1 : a.length + 2 ≤ gk := by omega
        have hd : r.getD (a.length + 1) 0 = d := by rw [hab]; simp [List.getD_eq_getElem?_getD]
        have cd := hcells (a.length + 1) (by omega)
        rw [hd] at cd
        have hta : r.take a.length = a := by rw [hab]; simp
        have hsa := hseg a.length (by omega) HRL.out
        rw [hta] at hsa
        have HM : Hid ((X ++ (a ++ (if Plain.tag d = true then Plain.lt4 else [60]))) ++ Plain.mdl (R.drop (k + (a.length + 1))) = Plain.mdl R) := by
          have h0 := HX.out
          have h1 : R.drop (k + (a.length + 1)) = d :: b := by
            rw [← List.drop_drop, HR0.out, hab]; simp
          rw [hab, Plain.mdl_step a d b hno] at h0
          rw [h1, List.append_assoc]; exact h0
        obtain ⟨i, hia⟩ : ∃ i, i = a.length := ⟨_, rfl⟩
        have HIA : Hid (i = a.length) := hia
        rw [← hia] at hidx hal1 cd
        have t1 : ((i : Int) == (gk : Int) - 1) = false := by rw [beq_eq_false_iff_ne]; omega
        have t2 : decide ((i : Int) < 0) = false := by simp
        have i1 : (0 : Int) ≤ (i : Int) + 1 := by omega
        have i2 : (i : Int) + 1 < (gk : Int) := by omega
        have i3 : (i : Int) ≤ (c : Int) := by omega
        have hlen2 : (a.map (Value.int .u8)).length = i * 1 := by rw [List.length_map]; omega
        clear hix hno hcells hseg hab hal hd hta hall hlen HTK HR0 HRB HX hia
        go_upto_region 7 with (first | (go_at_call 20; refine hidx.mono ?_; rintro e wr ⟨rfl, rfl⟩) | (at_builtin; refine wpList_append_own_at _ rfl (.tmp 21) (.tmp 24) 22 rfl B 5 i0 (.int .u8 0) 1 1 Try.underlying22 hi hz0 hz1 hz2 rfl (by decide) u0 _ _ rfl hown ⟨g, k, none⟩ i c (a.map (Value.int .u8)) rfl hlen2 hsa (ints_oneCell _ _) (by unfold maxLen; omega) (by omega) (by omega) ?_; intro v1 w1 ho1 hg1 _ hat1; have cd1 := (hg1.cell_far ⟨g, k + (i + 1), none⟩ (Nat.lt_of_lt_of_le hg hsz) (cell_ne HAP.out hg HNE.out)).trans cd))
        have HA1 : Hid (AP B w w1 row0 v1 (ll + X.length + i) ((L ++ X).map (Value.int .u8) ++ a.map (Value.int .u8))) := HAP.out.step (World.grownBy.refl _ _) hg1 ho1 hat1
        have hs1 := HA1.out.grown.size
        have hdb : (0 : Int) ≤ d ∨ d < 0 := by omega
        clear hg1 ho1 hat1 hown hidx HAP hsa cd
        go_cut [34] (fun v wx => v = .bool (Plain.tag d) ∧ wx = w1)
        case first =>
            rcases (show (122 < d) ∨ (97 ≤ d ∧ d ≤ 122) ∨ (90 < d ∧ d < 97) ∨ (65 ≤ d ∧ d ≤ 90) ∨ (d = 47) ∨ (d = 33) ∨ (d = 63) ∨ (d < 65 ∧ d ≠ 47 ∧ d ≠ 33 ∧ d ≠ 63) by omega) with h | h | h | h | h | h | h | h
            · have HB : Hid (Plain.tag d = false) := by unfold Hid; simp [Plain.tag]; omega
              have f0 : decide (97 ≤ d) = true := by simp; omega
              have f1 : decide (d ≤ 122) = false := by simp; omega
              have f2 : decide (65 ≤ d) = true := by simp; omega
              have f3 : decide (d ≤ 90) = false := by simp; omega
              have f4 : (d == 47) = false := by rw [beq_eq_false_iff_ne]; omega
              have f5 : (d == 33) = false := by rw [beq_eq_false_iff_ne]; omega
              have f6 : (d == 63) = false := by rw [beq_eq_false_iff_ne]; omega
              clear h
              go_wp2
              go_meet
              case rel => exact ⟨by rw [HB.out], rfl⟩
            · have HB : Hid (Plain.tag d = true) := by unfold Hid; simp [Plain.tag]; omega
              have f0 : decide (97 ≤ d) = true := by simp; omega
              have f1 : decide (d ≤ 122) = true := by simp; omega
              clear h
              go_wp2
              go_meet
              case rel => exact ⟨by rw [HB.out], rfl⟩
            · have HB : Hid (Plain.tag d = false) := by unfold Hid; simp [Plain.tag]; omega
              have f0 : decide (97 ≤ d) = false := by simp; omega
              have f1 : decide (65 ≤ d) = true := by simp; omega
              have f2 : decide (d ≤ 90) = false := by simp; omega
              have f3 : (d == 47) = false := by rw [beq_eq_false_iff_ne]; omega
              have f4 : (d == 33) = false := by rw [beq_eq_false_iff_ne]; omega
              have f5 : (d == 63) = false := by rw [beq_eq_false_iff_ne]; omega
              clear h
              go_wp2
              go_meet
              case rel => exact ⟨by rw [HB.out], rfl⟩
            · have HB : Hid (Plain.tag d = true) := by unfold Hid; simp [Plain.tag]; omega
              have f0 : decide (97 ≤ d) = false := by simp; omega
              have f1 : decide (65 ≤ d) = true := by simp; omega
              have f2 : decide (d ≤ 90) = true := by simp; omega
              clear h
              go_wp2
              go_meet
              case rel => exact ⟨by rw [HB.out], rfl⟩
            · subst h
              go_wp2
              go_meet
              case rel => exact ⟨rfl, rfl⟩
            · subst h
              go_wp2
              go_meet
              case rel => exact ⟨rfl, rfl⟩
            · subst h
              go_wp2
              go_meet
              case rel => exact ⟨rfl, rfl⟩
            · have HB : Hid (Plain.tag d = false) := by unfold Hid; simp [Plain.tag]; omega
              have f0 : decide (97 ≤ d) = false := by simp; omega
              have f1 : decide (65 ≤ d) = false := by simp; omega
              have f2 : (d == 47) = false := by rw [beq_eq_false_iff_ne]; omega
              have f3 : (d == 33) = false := by rw [beq_eq_false_iff_ne]; omega
              have f4 : (d == 63) = false := by rw [beq_eq_false_iff_ne]; omega
              clear h
              go_wp2
              go_meet
              case rel => exact ⟨by rw [HB.out], rfl⟩
        case rest =>
          obtain ⟨hv34, hwx⟩ := hcut
          subst hv34 hwx
          have ho1 := HA1.out.own
          clear cd1 hdb
          cases hb : Plain.tag d with
          | true =>
            have HMt : Hid ((X ++ (a ++ Plain.lt4)) ++ Plain.mdl (R.drop (k + (i + 1))) = Plain.mdl R) := by have h0 := HM.out; rw [hb, if_pos rfl, ← HIA.out] at h0; exact h0
            clear HM hb
            go_wp2_with (at_builtin; refine wpList_append_str_at rfl (.tmp 61) _ 22 9 rfl B 5 i0 Try.underlying22 Try.underlying9 hi hz0 hz1 hz2 v1 _ _ rfl ho1 ⟨#[38, 108, 116, 59]⟩ rfl (by decide) (by show _ + 4 ≤ _; unfold maxLen; omega) (by show _ + 4 ≤ _; omega) (by omega) ?_; intro v2 w2 ho2 hg2 hat2)
            go_roundg (gk - (i + 1))
            case measure => omega
            case rel => exact ⟨k + (i + 1), gk - (i + 1), c - (i + 1), X ++ (a ++ Plain.lt4), rfl, by have := HKM.out; omega, by omega, rfl, fin_lt HIA.out (HA1.out.step (World.grownBy.refl _ _) hg2 ho2 hat2), HMt.out, by have := HIA.out; simp [Plain.lt4]; omega⟩
          | false =>
            have HMt : Hid ((X ++ (a ++ [60])) ++ Plain.mdl (R.drop (k + (i + 1))) = Plain.mdl R) := by have h0 := HM.out; rw [hb, if_neg (by decide), ← HIA.out] at h0; exact h0
            clear HM hb
            go_wp2_with (at_builtin; refine wpList_append_own_at _ rfl (.tmp 31) (.tmp 32) 22 rfl B 5 i0 (.int .u8 0) 1 1 Try.underlying22 hi hz0 hz1 hz2 rfl (by decide) v1 _ _ rfl (ho1.alloc _) ⟨_, 0, none⟩ 1 1 [.int .u8 60] rfl rfl (cell_one_new _ _ _) (by simp [Value.oneCell']) (by unfold maxLen; omega) (by omega) (by simp; omega) ?_; intro v2 w2 ho2 hg2 _ hat2)
            go_roundg (gk - (i + 1))
            case measure => omega
            case rel => exact ⟨k + (i + 1), gk - (i + 1), c - (i + 1), X ++ (a ++ [60]), rfl, by have := HKM.out; omega, by omega, rfl, fin_one HIA.out (HA1.out.step (World.grownBy_alloc _ _ none) hg2 ho2 hat2), HMt.out, by have := HIA.out; simp; omega⟩
end Go.Proofs.Qxb6604030a
