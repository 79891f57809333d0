/-
  Walks of seat b6604030a: the clone, the bounds, the search, the test on bytes, the comparison.
-/
import Derived.Test.Qxb6604030aRows
import Derived.Test.Qxb6604030aPlain
import Derived.WalkKit
import Derived.WalkSpells
import Derived.WalkLawsBesides
import Derived.OpenShut
import Derived.Deep.QuietTactic
import Derived.BigQuiet
import Derived.Deep.Draws
import Derived.Deep.LoopGhost
import Derived.Deep.DeepCutAuto
import Derived.Shelf.Bytes.SlIndexAt
import Derived.Lib.AppendStr
import Derived.Laws.CopyOwn
namespace Go.Proofs.Qxb6604030a
open Go.RowKit

theorem info5 : (Try.prog.info? 5).map (fun i => (i.zero, i.size, i.bytes)) = some (some (.int .u8 0), 1, 1) := by kernel_rfl
theorem ret_bool {a b : Bool} (h : a = b) : Ending.returned (.bool a) = .returned (.bool b) := by rw [h]

/-- 'clone' after k rounds: what its row holds. -/
theorem set_step (z : List Int) (len k : Nat) (hk : k < len) (hz : len ≤ z.length) :
    (((z.take k ++ List.replicate (len - k) 0).map (Value.int .u8)).set k (.int .u8 (z.getD k 0))) = (z.take (k + 1) ++ List.replicate (len - (k + 1)) 0).map (Value.int .u8) := by
  have h1 : (z.take k).length = k := by rw [List.length_take]; omega
  have h2 : len - k = (len - (k + 1)) + 1 := by omega
  rw [h2, List.replicate_succ, List.map_append, List.set_append_right _ _ (by rw [List.length_map, h1]; exact Nat.le_refl _)]
  rw [List.take_succ_eq_append_getElem (by omega), List.length_map, h1, Nat.sub_self]
  simp only [List.map_append, List.map_cons, List.set_cons_zero, List.append_assoc, List.cons_append, List.nil_append]
  rw [List.getD_eq_getElem?_getD, List.getElem?_eq_getElem (show k < z.length by omega), Option.getD_some]

set_option maxHeartbeats 1000000 in
theorem clone_some (b off len cap : Nat) (z : List Int) (w : World) (hlen : len ≤ 1048576) (hz : len ≤ z.length)
    (hc : ∀ k, k < len → w.cell? ⟨b, off + k, none⟩ = some (.int .u8 (z.getD k 0))) :
    Calls Try.prog 11 #[.slice (some ⟨b, off, none⟩) len cap] w fun e w' =>
      e = .returned (.slice (some ⟨w.heap.size, 0, none⟩) len len) ∧ w'.ownsRow w.heap.size 5 1 (.slice (some ⟨w.heap.size, 0, none⟩) len len) len ((z.take len).map (Value.int .u8)) ∧ Below w.heap.size w w' := by
  obtain ⟨i0, hi, hz0, hz1, hz2⟩ := info_parts info5
  have hnil := fun wx => Lib.run_eql_slice_nil (P := Try.prog) wx 22 5 (some ⟨b, off, none⟩) len cap 0 0 Try.underlying22
  go_enter Try.func11, Try.ntmps11
  go_wp2_with (at_make; refine wpList_make_full _ rfl _ _ 22 rfl w.heap.size 5 i0 (.int .u8 0) 1 Try.underlying22 hi hz0 hz1 _ _ _ _ len rfl rfl (by omega) (by omega) (by rw [hz2]; omega) (by unfold maxLen; omega) (Nat.le_refl _) ?_; intro w0 hown0 hgrow0)
  rw [show (madeCells (Value.int .u8 0).cells (len * 1)).toList = (z.take 0 ++ List.replicate (len - 0) 0).map (Value.int .u8) from by rw [Nat.mul_one]; exact (toList_madeCells_one _ _).trans (by simp)] at hown0
  have hb0 : Below w.heap.size w w0 := (Below.refl _ _).grown hgrow0 (Nat.le_refl _) (fun k h => by cases h)
  clear hgrow0 hnil
  go_loopw [4] (fun i wr => ∃ k : Nat, k ≤ len ∧ i = .int .i64 k ∧ wr.ownsRow w.heap.size 5 1 (.slice (some ⟨w.heap.size, 0, none⟩) len len) len ((z.take k ++ List.replicate (len - k) 0).map (Value.int .u8)) ∧ Below w.heap.size w wr)
    (fun i _ => len - (intOf i).toNat)
  case atStart => exact ⟨0, Nat.zero_le _, rfl, hown0, hb0⟩
  case round =>
    clear hown0 hb0
    obtain ⟨k, hk, rfl, hown, hbel⟩ := hrel
    by_cases hlt : k < len
    · have hcx : wr.cell? ⟨b, off + k, none⟩ = some (.int .u8 (z.getD k 0)) := by
        have h0 := hc k hlt
        rw [hbel.cell (p := ⟨b, off + k, none⟩) (World.block_lt_of_cell? w _ h0)]; exact h0
      have hcd : wr.cell? ⟨w.heap.size, k, none⟩ = some (((z.take k ++ List.replicate (len - k) 0).map (Value.int .u8)).getD k (.int .u8 0)) := by
        rw [hown.cellAt k (by omega), List.getD_eq_getElem?_getD, List.getElem?_eq_getElem (by have := hown.1; omega), Option.getD_some]
      have hfz := hown.frozenAt k
      have hst := hown.stored k (.int .u8 (z.getD k 0))
      have HR : Hid ((wr.setCell ⟨w.heap.size, k, none⟩ (.int .u8 (z.getD k 0))).ownsRow w.heap.size 5 1 (.slice (some ⟨w.heap.size, 0, none⟩) len len) len ((z.take (k + 1) ++ List.replicate (len - (k + 1)) 0).map (Value.int .u8)) ∧ Below w.heap.size w (wr.setCell ⟨w.heap.size, k, none⟩ (.int .u8 (z.getD k 0)))) := by
        refine ⟨?_, hbel.setCell (Nat.le_refl _) _⟩
        rw [← set_step z len k hlt hz]; exact hst.1
      clear hst hown hbel hc
      go_wp2
      go_roundw
      case rel => exact ⟨k + 1, by omega, by go_num, HR.out.1, HR.out.2⟩
      case measure => simp [intOf]; omega
    · obtain rfl : k = len := by omega
      go_wp2
      go_ret
      refine ⟨rfl, ?_, hbel⟩
      rw [show k - k = 0 from Nat.sub_self k, List.replicate_zero, List.append_nil] at hown
      exact hown

/-- The clone of an empty slice that is not nil. -/
theorem clone_empty (x : Addr) (cap : Nat) (w : World) :
    Calls Try.prog 11 #[.slice (some x) 0 cap] w fun e w' =>
      e = .returned (.slice (some ⟨w.heap.size, 0, none⟩) 0 0) ∧ w'.ownsRow w.heap.size 5 1 (.slice (some ⟨w.heap.size, 0, none⟩) 0 0) 0 [] ∧ Below w.heap.size w w' := by
  obtain ⟨i0, hi, hz0, hz1, hz2⟩ := info_parts info5
  have hnil := fun wx => Lib.run_eql_slice_nil (P := Try.prog) wx 22 5 (some x) 0 cap 0 0 Try.underlying22
  go_enter Try.func11, Try.ntmps11
  go_wp2_with (at_make; refine wpList_make_full _ rfl _ _ 22 rfl w.heap.size 5 i0 (.int .u8 0) 1 Try.underlying22 hi hz0 hz1 _ _ _ _ 0 rfl rfl (by omega) (by omega) (by rw [hz2]; omega) (by unfold maxLen; omega) (Nat.le_refl _) ?_; intro w0 hown0 hgrow0)
  refine wp_loop_rounds 1 ?_
  rw [rounds_succ]
  go_wp2
  go_ret
  rw [show (madeCells (Value.int .u8 0).cells (0 * 1)).toList = [] from by rw [Nat.zero_mul]; exact (toList_madeCells_one _ _).trans (by simp)] at hown0
  exact ⟨rfl, hown0, (Below.refl _ _).grown hgrow0 (Nat.le_refl _) (fun k h => by cases h)⟩

theorem clone_nil (w : World) :
    Calls Try.prog 11 #[.slice none 0 0] w fun e w' => e = .returned (.slice none 0 0) ∧ w' = w := by
  have hnil := fun wx => Lib.run_eql_slice_nil (P := Try.prog) wx 22 5 none 0 0 0 0 Try.underlying22
  go_enter Try.func11, Try.ntmps11
  go_wp2
  go_ret
  exact ⟨rfl, rfl⟩

/-- What is known of a slice of bytes that came in. -/
def IsRow (k : IntKind) (w : World) (a : Option Addr) (len cap : Nat) (zs : List Int) : Prop :=
  (a = none ∧ len = 0 ∧ cap = 0 ∧ zs = []) ∨
  ∃ x, a = some x ∧ len ≤ cap ∧ cap ≤ maxLen ∧ zs.length = cap ∧ (∀ i, i < zs.length → w.cell? (x.add i) = some (.int k (zs.getD i 0))) ∧ ∀ n ∈ zs, (Lit.int k n).wf = true

/-- The clone, whatever came in: a row of the call's own (nil at nil). -/
theorem clone_any (a : Option Addr) (len cap : Nat) (z : List Int) (w : World) (h : IsRow .u8 w a len cap z) (hlen : len ≤ 1048576) :
    Calls Try.prog 11 #[.slice a len cap] w fun e w' =>
      ∃ v, e = .returned v ∧ (v = .slice none 0 0 ∨ v = .slice (some ⟨w.heap.size, 0, none⟩) len len) ∧ w'.ownsRow w.heap.size 5 1 v len ((z.take len).map (Value.int .u8)) ∧ Below w.heap.size w w' := by
  rcases h with ⟨rfl, rfl, rfl, rfl⟩ | ⟨x, rfl, hl, hm, hzl, hcell, hwf⟩
  · refine (clone_nil w).mono ?_
    rintro e w' ⟨rfl, rfl⟩
    exact ⟨_, rfl, .inl rfl, World.ownsRow_nil _ _ _ _, Below.refl _ _⟩
  · by_cases h0 : len = 0
    · subst h0
      refine (clone_empty x cap w).mono ?_
      rintro e w' ⟨rfl, h1, h2⟩
      exact ⟨_, rfl, .inr rfl, h1, h2⟩
    · obtain ⟨b, off, rfl, hc⟩ := ints_at hcell (by omega)
      refine (clone_some b off len cap z w hlen (by omega) (fun k hk => hc k (by omega))).mono ?_
      rintro e w' ⟨rfl, h1, h2⟩
      exact ⟨_, rfl, .inr rfl, h1, h2⟩


theorem bytes_yes (a0 a1 : Option Addr) (l0 c0 l1 c1 : Nat) (w : World) (h : l0 + l1 ≤ 1048576) :
    Calls Try.prog 10 #[.slice a0 l0 c0, .slice a1 l1 c1] w fun e w' => e = .returned (.bool true) ∧ w' = w := by
  go_enter Try.func10, Try.ntmps10
  go_wp2
  go_ret
  exact ⟨rfl, rfl⟩
theorem bytes_no (a0 a1 : Option Addr) (l0 c0 l1 c1 : Nat) (w : World) (m0 : l0 ≤ 9223372036854775807) (m1 : l1 ≤ 9223372036854775807) (h : ¬ l0 + l1 ≤ 1048576) :
    Calls Try.prog 10 #[.slice a0 l0 c0, .slice a1 l1 c1] w fun e w' => e = .returned (.bool false) ∧ w' = w := by
  by_cases h0 : l0 ≤ 1048576
  · by_cases h1 : l1 ≤ 1048576
    · go_enter Try.func10, Try.ntmps10
      go_wp2
      go_ret
      exact ⟨rfl, rfl⟩
    · go_enter Try.func10, Try.ntmps10
      go_wp2
      go_ret
      exact ⟨rfl, rfl⟩
  · go_enter Try.func10, Try.ntmps10
    go_wp2
    go_ret
    exact ⟨rfl, rfl⟩

theorem bytesK_yes (a0 a1 : Option Addr) (l0 c0 l1 c1 : Nat) (w : World) (h : l0 + l1 ≤ 1048576) :
    Calls Try.prog 14 #[.slice a0 l0 c0, .slice a1 l1 c1] w fun e w' => e = .returned (.bool true) ∧ w' = w := by
  go_enter Try.func14, Try.ntmps14
  go_wp2
  go_ret
  exact ⟨rfl, rfl⟩
theorem bytesK_no (a0 a1 : Option Addr) (l0 c0 l1 c1 : Nat) (w : World) (m0 : l0 ≤ 9223372036854775807) (m1 : l1 ≤ 9223372036854775807) (h : ¬ l0 + l1 ≤ 1048576) :
    Calls Try.prog 14 #[.slice a0 l0 c0, .slice a1 l1 c1] w fun e w' => e = .returned (.bool false) ∧ w' = w := by
  by_cases h0 : l0 ≤ 1048576
  · by_cases h1 : l1 ≤ 1048576
    · go_enter Try.func14, Try.ntmps14
      go_wp2
      go_ret
      exact ⟨rfl, rfl⟩
    · go_enter Try.func14, Try.ntmps14
      go_wp2
      go_ret
      exact ⟨rfl, rfl⟩
  · go_enter Try.func14, Try.ntmps14
    go_wp2
    go_ret
    exact ⟨rfl, rfl⟩
theorem ownsRow_below {w w' : World} {B : Nat} {e : TypeId} {size : Nat} {v : Value} {n : Nat} {xs : List Value} (h : w.ownsRow B e size v n xs) (hb : Below w.heap.size w w') : w'.ownsRow B e size v n xs := by
  refine ⟨h.1, ?_⟩
  rcases h.2 with h2 | ⟨g, cap, cur, rfl, hg, hh, r⟩
  · exact .inl h2
  · refine .inr ⟨g, cap, cur, rfl, hg, ?_, r⟩
    rw [hb.block g (Array.getElem?_eq_some_iff.1 hh).1]; exact hh

theorem IsRow.below {k : IntKind} {w w' : World} {a : Option Addr} {len cap : Nat} {zs : List Int} (h : IsRow k w a len cap zs) (hb : Below w.heap.size w w') : IsRow k w' a len cap zs := by
  rcases h with h | ⟨x, rfl, h1, h2, h3, h4, h5⟩
  · exact .inl h
  · refine .inr ⟨x, rfl, h1, h2, h3, fun i hi => ?_, h5⟩
    rw [hb.cell (World.block_lt_of_cell? w _ (h4 i hi))]; exact h4 i hi

theorem IsRow.len_le {w : World} {a : Option Addr} {len cap : Nat} {zs : List Int} (h : IsRow .u8 w a len cap zs) : len ≤ 9223372036854775807 := by
  rcases h with ⟨_, rfl, _⟩ | ⟨x, _, h1, h2, _⟩
  · omega
  · unfold maxLen at h2; omega

theorem IsRow.take {w : World} {a : Option Addr} {len cap : Nat} {zs : List Int} (h : IsRow .u8 w a len cap zs) : (∀ x ∈ zs.take len, 0 ≤ x ∧ x < 256) := by
  rcases h with ⟨_, rfl, _, rfl⟩ | ⟨x, _, h1, h2, h3, _, h5⟩
  · simp
  · intro x hx
    have := bounds_u8 (h5 x (List.mem_of_mem_take hx))
    omega


set_option maxRecDepth 100000 in
theorem index_any (a : Addr) (n c : Nat) (xs : List Int) (w : World) (hx : xs.length = n) (hc : ∀ i, i < n → w.cell? (a.add i) = some (.int .u8 (xs.getD i 0))) :
    Calls Try.prog 20 #[.slice (some a) n c, .int .u8 60] w fun e w' => e = .returned (.int .i64 (Lib.indexByte (Lib.bytesOf xs) 60)) ∧ w' = w := by
  go_enter Try.func20, Try.ntmps20
  go_wp2
  rw [run_callFunc_extern Try.func22 (by kernel_rfl) (by kernel_rfl) (by kernel_rfl) (e := Extern.BytealgIndexByte.indexByte) (by kernel_rfl), Lib.run_indexByteAt w a n c xs hx hc 60]
  simp only [Result.andThen]
  rw [Oper.upon_value]
  go_wp2
  go_ret
  exact ⟨rfl, rfl⟩


/-- zzpTagStart. -/
theorem tag_any (c : Int) (w : World) : Calls Try.prog 15 #[.int .u8 c] w fun e w' => e = .returned (.bool (Plain.tag c)) ∧ w' = w := by
  rcases (show (122 < c) ∨ (97 ≤ c ∧ c ≤ 122) ∨ (90 < c ∧ c < 97) ∨ (65 ≤ c ∧ c ≤ 90) ∨ (c = 47) ∨ (c = 33) ∨ (c = 63) ∨ (c < 65 ∧ c ≠ 47 ∧ c ≠ 33 ∧ c ≠ 63) by omega) with h | h | h | h | h | h | h | h
  · have e0 : Plain.tag c = false := by simp [Plain.tag]; omega
    have f0 : decide (97 ≤ c) = true := by simp; omega
    have f1 : decide (c ≤ 122) = false := by simp; omega
    have f2 : decide (65 ≤ c) = true := by simp; omega
    have f3 : decide (c ≤ 90) = false := by simp; omega
    have f4 : (c == 47) = false := by rw [beq_eq_false_iff_ne]; omega
    have f5 : (c == 33) = false := by rw [beq_eq_false_iff_ne]; omega
    have f6 : (c == 63) = false := by rw [beq_eq_false_iff_ne]; omega
    rw [e0]
    clear e0 h
    go_enter Try.func15, Try.ntmps15
    go_wp2
    go_ret
    exact ⟨rfl, rfl⟩
  · have e0 : Plain.tag c = true := by simp [Plain.tag]; omega
    have f0 : decide (97 ≤ c) = true := by simp; omega
    have f1 : decide (c ≤ 122) = true := by simp; omega
    rw [e0]
    clear e0 h
    go_enter Try.func15, Try.ntmps15
    go_wp2
    go_ret
    exact ⟨rfl, rfl⟩
  · have e0 : Plain.tag c = false := by simp [Plain.tag]; omega
    have f0 : decide (97 ≤ c) = false := by simp; omega
    have f1 : decide (65 ≤ c) = true := by simp; omega
    have f2 : decide (c ≤ 90) = false := by simp; omega
    have f3 : (c == 47) = false := by rw [beq_eq_false_iff_ne]; omega
    have f4 : (c == 33) = false := by rw [beq_eq_false_iff_ne]; omega
    have f5 : (c == 63) = false := by rw [beq_eq_false_iff_ne]; omega
    rw [e0]
    clear e0 h
    go_enter Try.func15, Try.ntmps15
    go_wp2
    go_ret
    exact ⟨rfl, rfl⟩
  · have e0 : Plain.tag c = true := by simp [Plain.tag]; omega
    have f0 : decide (97 ≤ c) = false := by simp; omega
    have f1 : decide (65 ≤ c) = true := by simp; omega
    have f2 : decide (c ≤ 90) = true := by simp; omega
    rw [e0]
    clear e0 h
    go_enter Try.func15, Try.ntmps15
    go_wp2
    go_ret
    exact ⟨rfl, rfl⟩
  · subst h
    go_enter Try.func15, Try.ntmps15
    go_wp2
    go_ret
    exact ⟨rfl, rfl⟩
  · subst h
    go_enter Try.func15, Try.ntmps15
    go_wp2
    go_ret
    exact ⟨rfl, rfl⟩
  · subst h
    go_enter Try.func15, Try.ntmps15
    go_wp2
    go_ret
    exact ⟨rfl, rfl⟩
  · have e0 : Plain.tag c = false := by simp [Plain.tag]; omega
    have f0 : decide (97 ≤ c) = false := by simp; omega
    have f1 : decide (65 ≤ c) = false := by simp; omega
    have f2 : (c == 47) = false := by rw [beq_eq_false_iff_ne]; omega
    have f3 : (c == 33) = false := by rw [beq_eq_false_iff_ne]; omega
    have f4 : (c == 63) = false := by rw [beq_eq_false_iff_ne]; omega
    rw [e0]
    clear e0 h
    go_enter Try.func15, Try.ntmps15
    go_wp2
    go_ret
    exact ⟨rfl, rfl⟩

/-- A slice that reads as a list of bytes, wherever it lies. -/
def Sl (w : World) (v : Value) (l : List Int) : Prop := ∃ a c, v = .slice a l.length c ∧ (l ≠ [] → ∃ g o, a = some ⟨g, o, none⟩ ∧ ∀ k, k < l.length → w.cell? ⟨g, o + k, none⟩ = some (.int .u8 (l.getD k 0)))

theorem Sl.ofOwn {w : World} {B m : Nat} {v : Value} {l : List Int} (h : w.ownsRow B 5 1 v m (l.map (Value.int .u8))) : Sl w v l := by
  have hl : l.length = m := by have := h.1; simpa using this
  rcases h.2 with ⟨h1, h2⟩ | ⟨g, cp, cur, h1, _⟩
  · refine ⟨none, 0, by rw [h1, hl, h2], fun hne => ?_⟩
    exact absurd (List.eq_nil_of_length_eq_zero (by omega)) hne
  · subst h1
    refine ⟨some ⟨g, 0, none⟩, cp, by rw [hl], fun _ => ⟨g, 0, rfl, fun k hk => ?_⟩⟩
    rw [Nat.zero_add, h.cellAt k (by omega), List.getElem?_map, List.getElem?_eq_getElem hk, List.getD_eq_getElem?_getD, List.getElem?_eq_getElem hk]
    rfl

set_option maxHeartbeats 1000000 in
/-- zzpBytesEqual at two slices that read alike. -/
theorem equal_any (u v : Value) (l : List Int) (w : World) (hu : Sl w u l) (hv : Sl w v l) (hbig : l.length ≤ 8388608) :
    Calls Try.prog 9 #[u, v] w fun e w' => e = .returned (.bool true) ∧ ∃ q, w' = w.drewN q := by
  obtain ⟨a, c, rfl, ha⟩ := hu
  obtain ⟨b, d, rfl, hb⟩ := hv
  by_cases hl : l = []
  · subst hl
    go_enter Try.func9, Try.ntmps9
    go_wp2
    refine wp_loop_rounds 1 ?_
    rw [rounds_succ]
    go_wp2
    go_ret
    exact ⟨rfl, 0, rfl⟩
  · obtain ⟨g, o, rfl, hc1⟩ := ha hl
    obtain ⟨g', o', rfl, hc2⟩ := hb hl
    have H1 : Hid (∀ k, k < l.length → w.cell? ⟨g, o + k, none⟩ = some (.int .u8 (l.getD k 0))) := hc1
    have H2 : Hid (∀ k, k < l.length → w.cell? ⟨g', o' + k, none⟩ = some (.int .u8 (l.getD k 0))) := hc2
    clear ha hb hc1 hc2 hl
    obtain ⟨n, hn⟩ : ∃ n, n = l.length := ⟨_, rfl⟩
    rw [← hn] at hbig H1 H2 ⊢
    clear hn
    go_enter Try.func9, Try.ntmps9
    go_wp2
    go_loopg [5] n (fun k v wr => ∃ (m q : Nat), k = n - m ∧ m ≤ n ∧ v = .int .i64 m ∧ wr = w.drewN q)
    case atStart => exact ⟨0, 0, rfl, Nat.zero_le _, rfl, rfl⟩
    case round =>
      obtain ⟨m, q, rfl, hm, rfl, rfl⟩ := hrel
      by_cases hlt : m < n
      · have d1 := H1.out m hlt
        have d2 := H2.out m hlt
        have i1 : (0 : Int) ≤ (m : Int) := by omega
        have i2 : (m : Int) < (n : Int) := by omega
        generalize l.getD m 0 = x at *
        go_wp2_with fail
        go_quiet (fail)
        go_wp2
        go_roundg (n - (m + 1))
        case measure => omega
        case rel => exact ⟨m + 1, _, rfl, by omega, by go_num, rfl⟩
      · have i2 : ¬ (m : Int) < (n : Int) := by omega
        go_wp2
        go_ret
        exact ⟨rfl, _, rfl⟩

end Go.Proofs.Qxb6604030a
