/-
  Walks of seat b6604030a: zzpEscapeModel.
-/
import Derived.Test.Qxb6604030aBase
import Derived.Deep.AppendLies
namespace Go.Proofs.Qxb6604030a
open Go.RowKit

theorem Sl.later {w wr : World} {a : Option Addr} {l : List Int} (h : l ≠ [] → ∃ g o, a = some ⟨g, o, none⟩ ∧ ∀ k, k < l.length → w.cell? ⟨g, o + k, none⟩ = some (.int .u8 (l.getD k 0))) (hb : Below w.heap.size w wr) :
    l ≠ [] → ∃ g o, a = some ⟨g, o, none⟩ ∧ ∀ k, k < l.length → wr.cell? ⟨g, o + k, none⟩ = some (.int .u8 (l.getD k 0)) := by
  intro hne
  obtain ⟨g, o, h1, h2⟩ := h hne
  refine ⟨g, o, h1, fun k hk => ?_⟩
  have h0 := h2 k hk
  rw [hb.cell (p := ⟨g, o + k, none⟩) (World.block_lt_of_cell? w _ h0)]; exact h0

theorem take_map (l : List Int) (m : Nat) (h : m < l.length) : ((l.take m).map (Value.int .u8)) ++ [.int .u8 (l.getD m 0)] = (l.take (m + 1)).map (Value.int .u8) := by
  rw [List.take_succ_eq_append_getElem h, List.map_append, List.getD_eq_getElem?_getD, List.getElem?_eq_getElem h]
  rfl

theorem below_own {B : Nat} {w wr w1 : World} {o : Obj} {v : Value} {m : Nat} {xs : List Value} (hb : Below B w wr) (hs : B ≤ wr.heap.size) (ho : wr.ownsRow B 5 1 v m xs) (hg : (wr.alloc o).grownBy w1 v.ownBlock) : Below B w w1 :=
  (hb.alloc hs o).grown hg (by simp; omega) (fun k hk => (ho.lt k hk).1)

/-- One round of the model's second loop. -/
theorem mdl_round (R : List Int) (m : Nat) (h : m < R.length) (X : List Int) (hx : X ++ Plain.mdl (R.drop m) = Plain.mdl R) : (X ++ Plain.piece (R.getD m 0) (R.drop (m + 1))) ++ Plain.mdl (R.drop (m + 1)) = Plain.mdl R := by
  rw [List.append_assoc, ← hx]
  congr 1
  rw [List.drop_eq_getElem_cons h, Plain.mdl, List.getD_eq_getElem?_getD, List.getElem?_eq_getElem h]
  rfl
theorem piece_tag (R : List Int) (m : Nat) (h : m + 1 < R.length) (hc : R.getD m 0 = 60) (ht : Plain.tag (R.getD (m + 1) 0) = true) : Plain.piece (R.getD m 0) (R.drop (m + 1)) = [38, 108, 116, 59] := by
  have e : Plain.nextTag (R.drop (m + 1)) = Plain.tag (R.getD (m + 1) 0) := by
    rw [List.drop_eq_getElem_cons h, List.getD_eq_getElem?_getD, List.getElem?_eq_getElem h]; rfl
  unfold Plain.piece
  rw [if_pos ⟨hc, e.trans ht⟩]; rfl
theorem piece_one (R : List Int) (m : Nat) (h : R.getD m 0 ≠ 60 ∨ R.length ≤ m + 1 ∨ (m + 1 < R.length ∧ Plain.tag (R.getD (m + 1) 0) = false)) : Plain.piece (R.getD m 0) (R.drop (m + 1)) = [R.getD m 0] := by
  unfold Plain.piece
  rw [if_neg]
  rintro ⟨h1, h2⟩
  rcases h with h | h | ⟨h, h3⟩
  · exact h h1
  · rw [List.drop_of_length_le h] at h2; simp [Plain.nextTag] at h2
  · have e : Plain.nextTag (R.drop (m + 1)) = Plain.tag (R.getD (m + 1) 0) := by
      rw [List.drop_eq_getElem_cons h, List.getD_eq_getElem?_getD, List.getElem?_eq_getElem h]; rfl
    rw [e, h3] at h2; cases h2
theorem map_snoc (L X : List Int) (c : Int) : ((L ++ X).map (Value.int .u8)) ++ [.int .u8 c] = (L ++ (X ++ [c])).map (Value.int .u8) := by simp
theorem map_four (L X : List Int) : ((L ++ X).map (Value.int .u8)) ++ [.int .u8 38, .int .u8 108, .int .u8 116, .int .u8 59] = (L ++ (X ++ [38, 108, 116, 59])).map (Value.int .u8) := by simp

set_option maxHeartbeats 2000000 in
theorem model_any (bv rv : Value) (L R : List Int) (w : World) (hbv : Sl w bv L) (hrv : Sl w rv R) (hL : L.length ≤ 524288) (hR : R.length ≤ 524288) :
    Calls Try.prog 12 #[bv, rv] w fun e w' => ∃ v, e = .returned v ∧ w'.ownsRow w.heap.size 5 1 v (L.length + (Plain.mdl R).length) ((L ++ Plain.mdl R).map (Value.int .u8)) ∧ Below w.heap.size w w' := by
  obtain ⟨i0, hi, hz0, hz1, hz2⟩ := info_parts info5
  obtain ⟨a, c, rfl, ha⟩ := hbv
  obtain ⟨b, d, rfl, hb⟩ := hrv
  have HA : Hid (L ≠ [] → ∃ g o, a = some ⟨g, o, none⟩ ∧ ∀ k, k < L.length → w.cell? ⟨g, o + k, none⟩ = some (.int .u8 (L.getD k 0))) := ha
  have HB : Hid (R ≠ [] → ∃ g o, b = some ⟨g, o, none⟩ ∧ ∀ k, k < R.length → w.cell? ⟨g, o + k, none⟩ = some (.int .u8 (R.getD k 0))) := hb
  clear ha hb
  obtain ⟨n, hn⟩ : ∃ n, n = L.length := ⟨_, rfl⟩
  obtain ⟨r, hr⟩ : ∃ r, r = R.length := ⟨_, rfl⟩
  have HN : Hid (n = L.length) := hn
  have HRr : Hid (r = R.length) := hr
  rw [← hn, ← hr]
  rw [← hn] at hL
  rw [← hr] at hR
  clear hn hr
  go_enter Try.func12, Try.ntmps12
  go_wp2_with (at_make; refine wpList_make_own _ rfl _ _ 22 rfl w.heap.size 5 i0 (.int .u8 0) 1 Try.underlying22 hi hz0 hz1 _ _ _ (n + 4 * r) rfl rfl (by omega) (by rw [hz2]; omega) (by unfold maxLen; omega) (Nat.le_refl _) ?_; intro w0 hown0 hgrow0)
  have hb0 : Below w.heap.size w w0 := (Below.refl _ _).grown hgrow0 (Nat.le_refl _) (fun k h => by cases h)
  clear hgrow0
  go_loopg [5, 6] n (fun k v iv wr => ∃ m : Nat, k = n - m ∧ m ≤ n ∧ iv = .int .i64 m ∧ wr.ownsRow w.heap.size 5 1 v m ((L.take m).map (Value.int .u8)) ∧ Below w.heap.size w wr)
  case atStart => exact ⟨0, rfl, Nat.zero_le _, rfl, hown0, hb0⟩
  case round =>
    clear hown0 hb0
    obtain ⟨m, rfl, hm, hiv, hown, hbel⟩ := hrel
    subst hiv
    have hbs := hbel.size
    by_cases hlt : m < n
    · obtain ⟨g, o, rfl, hcl⟩ := Sl.later HA.out hbel (by intro h; rw [h] at HN; have := HN.out; simp at this; omega)
      have cx := hcl m (by have := HN.out; omega)
      have HT : Hid ((L.take m).map (Value.int .u8) ++ [.int .u8 (L.getD m 0)] = (L.take (m + 1)).map (Value.int .u8)) := take_map L m (by have := HN.out; omega)
      clear hcl
      generalize L.getD m 0 = x at *
      go_wp2_with (at_builtin; refine wpList_append_own _ rfl (.tmp 21) (.tmp 26) 22 rfl w.heap.size 5 i0 (.int .u8 0) 1 1 Try.underlying22 hi hz0 hz1 hz2 rfl (by decide) u5 _ _ rfl (hown.alloc _) ⟨wr.heap.size, 0, none⟩ 1 1 [.int .u8 x] rfl rfl (cell_one_new _ _ _) (by simp [Value.oneCell']) (by unfold maxLen; omega) (by omega) (by simp; omega) ?_; intro v1 w1 hown1 hgrow1 _)
      have hb1 := below_own hbel hbs hown hgrow1
      go_roundg (n - (m + 1))
      case measure => omega
      case rel => exact ⟨m + 1, rfl, by omega, by go_num, HT.out ▸ hown1, hb1⟩
    · obtain rfl : m = n := by omega
      have HT : Hid (L.take m = L) := List.take_of_length_le (by have := HN.out; omega)
      rw [HT.out] at hown
      go_wp2
      go_loopg [5, 7] r (fun k v iv wx => ∃ (t : Nat) (X : List Int), k = r - t ∧ t ≤ r ∧ iv = .int .i64 t ∧ wx.ownsRow w.heap.size 5 1 v (m + X.length) ((L ++ X).map (Value.int .u8)) ∧ X ++ Plain.mdl (R.drop t) = Plain.mdl R ∧ X.length ≤ 4 * t ∧ Below w.heap.size w wx)
      case atStart => exact ⟨0, [], rfl, Nat.zero_le _, rfl, by simpa using hown, by simp, by simp, hbel⟩
      case round =>
        clear hown hbel hbs HT HA
        obtain ⟨t, X, rfl, ht, hiv, hown, hX, hXl, hbel⟩ := hrel
        subst hiv
        have HX : Hid (X ++ Plain.mdl (R.drop t) = Plain.mdl R) := hX
        have hbs := hbel.size
        clear hX
        by_cases htl : t < r
        · obtain ⟨g, o, rfl, hcl⟩ := Sl.later HB.out hbel (by intro h; rw [h] at HRr; have := HRr.out; simp at this; omega)
          have cx := hcl t (by have := HRr.out; omega)
          have HM := mdl_round R t (by have := HRr.out; omega) X HX.out
          have i1 : (0 : Int) ≤ (t : Int) := by omega
          have i2 : (t : Int) < (r : Int) := by omega
          by_cases h60 : R.getD t 0 = 60
          · by_cases hn1 : t + 1 < r
            · have cy := hcl (t + 1) (by have := HRr.out; omega)
              have htg := tag_any (R.getD (t + 1) 0)
              have j1 : (0 : Int) ≤ (t : Int) + 1 := by omega
              have j2 : (t : Int) + 1 < (r : Int) := by omega
              rw [h60] at cx
              cases hb : Plain.tag (R.getD (t + 1) 0) with
              | true =>
                have HP : Hid (Plain.piece (R.getD t 0) (R.drop (t + 1)) = [38, 108, 116, 59]) := piece_tag R t (by have := HRr.out; omega) h60 hb
                rw [hb] at htg
                have HMM : Hid ((X ++ [38, 108, 116, 59]) ++ Plain.mdl (R.drop (t + 1)) = Plain.mdl R) := by rw [← HP.out]; exact HM
                clear hcl HM h60 HP hb
                generalize R.getD (t + 1) 0 = y at *
                go_wp2_with (first
                  | (go_at_call 15; refine (htg _).mono ?_; rintro e wr ⟨rfl, rfl⟩)
                  | (at_builtin; refine wpList_append_own _ rfl (.tmp 54) (.tmp 55) 22 rfl _ 5 i0 (.int .u8 0) 1 1 Try.underlying22 hi hz0 hz1 hz2 rfl (by decide) u5 _ _ rfl (hown.alloc _) ⟨_, 0, none⟩ 4 4 [.int .u8 38, .int .u8 108, .int .u8 116, .int .u8 59] rfl rfl (World.news_of_block (cs := #[.int .u8 38, .int .u8 108, .int .u8 116, .int .u8 59]) (t := 5) (fr := (0, 0)) (heap_alloc_new _ _)) (by simp [Value.oneCell']) (by unfold maxLen; omega) (by omega) (by simp; omega) ?_; intro v1 w1 hown1 hgrow1 _))
                have hb1 := below_own hbel hbs hown hgrow1
                go_roundg (r - (t + 1))
                case measure => omega
                case rel => exact ⟨t + 1, X ++ [38, 108, 116, 59], rfl, by omega, by go_num, by rw [List.length_append, ← Nat.add_assoc]; exact (map_four L X) ▸ hown1, HMM.out, by simp; omega, hb1⟩
              | false =>
                have HP : Hid (Plain.piece (R.getD t 0) (R.drop (t + 1)) = [R.getD t 0]) := piece_one R t (.inr (.inr ⟨by have := HRr.out; omega, hb⟩))
                rw [hb] at htg
                have HMM : Hid ((X ++ [60]) ++ Plain.mdl (R.drop (t + 1)) = Plain.mdl R) := by have h0 := HM; rw [HP.out, h60] at h0; exact h0
                clear hcl HM h60 HP hb
                generalize R.getD (t + 1) 0 = y at *
                go_wp2_with (first
                  | (go_at_call 15; refine (htg _).mono ?_; rintro e wr ⟨rfl, rfl⟩)
                  | (at_builtin; refine wpList_append_own _ rfl (.tmp 57) (.tmp 62) 22 rfl _ 5 i0 (.int .u8 0) 1 1 Try.underlying22 hi hz0 hz1 hz2 rfl (by decide) u5 _ _ rfl (hown.alloc _) ⟨_, 0, none⟩ 1 1 [.int .u8 60] rfl rfl (cell_one_new _ _ _) (by simp [Value.oneCell']) (by unfold maxLen; omega) (by omega) (by simp; omega) ?_; intro v1 w1 hown1 hgrow1 _))
                have hb1 := below_own hbel hbs hown hgrow1
                go_roundg (r - (t + 1))
                case measure => omega
                case rel => exact ⟨t + 1, X ++ [60], rfl, by omega, by go_num, by rw [List.length_append, ← Nat.add_assoc]; exact (map_snoc L X 60) ▸ hown1, HMM.out, by simp; omega, hb1⟩
            · have HP : Hid (Plain.piece (R.getD t 0) (R.drop (t + 1)) = [R.getD t 0]) := piece_one R t (.inr (.inl (by have := HRr.out; omega)))
              have HMM : Hid ((X ++ [60]) ++ Plain.mdl (R.drop (t + 1)) = Plain.mdl R) := by have h0 := HM; rw [HP.out, h60] at h0; exact h0
              have j2 : decide ((t : Int) + 1 < (r : Int)) = false := by simp; omega
              rw [h60] at cx
              clear hcl HM h60 HP
              go_wp2_with (at_builtin; refine wpList_append_own _ rfl (.tmp 57) (.tmp 62) 22 rfl _ 5 i0 (.int .u8 0) 1 1 Try.underlying22 hi hz0 hz1 hz2 rfl (by decide) u5 _ _ rfl (hown.alloc _) ⟨_, 0, none⟩ 1 1 [.int .u8 60] rfl rfl (cell_one_new _ _ _) (by simp [Value.oneCell']) (by unfold maxLen; omega) (by omega) (by simp; omega) ?_; intro v1 w1 hown1 hgrow1 _)
              have hb1 := below_own hbel hbs hown hgrow1
              go_roundg (r - (t + 1))
              case measure => omega
              case rel => exact ⟨t + 1, X ++ [60], rfl, by omega, by go_num, by rw [List.length_append, ← Nat.add_assoc]; exact (map_snoc L X 60) ▸ hown1, HMM.out, by simp; omega, hb1⟩
          · have HP : Hid (Plain.piece (R.getD t 0) (R.drop (t + 1)) = [R.getD t 0]) := piece_one R t (.inl h60)
            have HMM : Hid ((X ++ [R.getD t 0]) ++ Plain.mdl (R.drop (t + 1)) = Plain.mdl R) := by have h0 := HM; rw [HP.out] at h0; exact h0
            have b60 : (R.getD t 0 == 60) = false := by simpa using h60
            clear hcl HM h60 HP
            generalize R.getD t 0 = x at *
            go_wp2_with (at_builtin; refine wpList_append_own _ rfl (.tmp 57) (.tmp 62) 22 rfl _ 5 i0 (.int .u8 0) 1 1 Try.underlying22 hi hz0 hz1 hz2 rfl (by decide) u5 _ _ rfl (hown.alloc _) ⟨_, 0, none⟩ 1 1 [.int .u8 x] rfl rfl (cell_one_new _ _ _) (by simp [Value.oneCell']) (by unfold maxLen; omega) (by omega) (by simp; omega) ?_; intro v1 w1 hown1 hgrow1 _)
            have hb1 := below_own hbel hbs hown hgrow1
            go_roundg (r - (t + 1))
            case measure => omega
            case rel => exact ⟨t + 1, X ++ [x], rfl, by omega, by go_num, by rw [List.length_append, ← Nat.add_assoc]; exact (map_snoc L X x) ▸ hown1, HMM.out, by simp; omega, hb1⟩
        · obtain rfl : t = r := by omega
          have HE : Hid (X = Plain.mdl R) := by
            unfold Hid
            have h0 := HX.out
            rw [List.drop_of_length_le (by have := HRr.out; omega)] at h0
            simpa [Plain.mdl] using h0
          go_wp2
          go_ret
          rw [HE.out] at hown
          exact ⟨_, rfl, hown, hbel⟩
end Go.Proofs.Qxb6604030a
