/-
  Walks of seat b6603026a: ZZIndexTokens.
-/
import Derived.Test.Qxb6603026aIndex
namespace Go.Proofs.Qxb6603026a
open Go.RowKit Gram

/-- The two lists as far as they are laid out. -/
structure ZS (B : Nat) (w wr : World) (sv ev : Value) (T : List (Int × Int)) : Prop where
  below : Below B w wr
  so : wr.ownsRow B 21 1 sv T.length (T.map fun t => Value.int .i32 t.1)
  eo : wr.ownsRow B 21 1 ev T.length (T.map fun t => Value.int .i32 t.2)
  ap : sv.ownBlock = none ∨ sv.ownBlock ≠ ev.ownBlock
  base : B ≤ wr.heap.size

theorem ZS.step {B : Nat} {w wr w1 w2 : World} {sv ev : Value} {T : List (Int × Int)} {o1 o2 o3 : Obj} {g1 c1 g2 c2 H1 H2 : Nat} {a b : Int} (h : ZS B w wr sv ev T)
    (hs : w1.ownsRow B 21 1 (.slice (some ⟨g1, 0, none⟩) (T.length + 1) c1) (T.length + 1) (T.map (fun t => Value.int .i32 t.1) ++ [.int .i32 a])) (hg1 : ((wr.alloc o1).alloc o2).grownBy w1 sv.ownBlock) (ha1 : sv.ownBlock = some g1 ∨ g1 = H1) (hH1 : ((wr.alloc o1).alloc o2).heap.size = H1)
    (he : w2.ownsRow B 21 1 (.slice (some ⟨g2, 0, none⟩) (T.length + 1) c2) (T.length + 1) (T.map (fun t => Value.int .i32 t.2) ++ [.int .i32 b])) (hg2 : (w1.alloc o3).grownBy w2 ev.ownBlock) (ha2 : ev.ownBlock = some g2 ∨ g2 = H2) (hH2 : (w1.alloc o3).heap.size = H2) :
    ZS B w w2 (.slice (some ⟨g1, 0, none⟩) (T.length + 1) c1) (.slice (some ⟨g2, 0, none⟩) (T.length + 1) c2) (T ++ [(a, b)]) := by
  have hz1 : H1 = wr.heap.size + 2 := by rw [← hH1]; simp
  have hz2 : H2 = w1.heap.size + 1 := by rw [← hH2]; simp
  have hsz1 := hg1.size
  rw [hH1] at hsz1
  have hsz2 := hg2.size
  rw [hH2] at hsz2
  have hb1 : Below B w w1 := ((h.below.alloc h.base _).alloc (by have := h.base; simp; omega) _).grown hg1 (by have := h.base; rw [hH1]; omega) (fun k hk => (h.so.lt k hk).1)
  have hb2 : Below B w w2 := (hb1.alloc (by have := h.base; omega) _).grown hg2 (by have := h.base; rw [hH2]; omega) (fun k hk => (h.eo.lt k hk).1)
  have he1 : w1.ownsRow B 21 1 ev T.length (T.map fun t => Value.int .i32 t.2) := by
    refine ((h.eo.alloc _).alloc _).kept hg1 ?_
    rcases h.ap with h1 | h1
    · cases hev : ev.ownBlock with
      | none => exact .inl rfl
      | some k => exact .inr (by rw [h1]; simp)
    · exact .inr (Ne.symm h1)
  have hne : some g1 ≠ ev.ownBlock := by
    intro e
    have hk := (h.eo.lt g1 e.symm).2
    rcases ha1 with h1 | h1
    · rcases h.ap with h2 | h2
      · rw [h2] at h1; cases h1
      · exact h2 (h1.trans e)
    · omega
  refine ⟨hb2, ?_, ?_, ?_, by have := h.base; omega⟩
  · rw [List.length_append, List.map_append]
    exact (hs.alloc _).kept hg2 (.inr hne)
  · rw [List.length_append, List.map_append]; exact he
  · right
    intro e
    have e1 : g1 = g2 := by simpa [Value.ownBlock] using e
    rcases ha2 with h1 | h1
    · exact hne (by rw [e1, h1])
    · have := (hs.lt g1 rfl).2
      omega

/-- A text that the rules read has a token. -/
theorem doc_some {raw : List Int} {n : Nat} {F : List (Int × Int)} (h : Doc raw n F) : 0 < F.length := by
  obtain ⟨p, q, _, h2, _⟩ := h
  have R : Rules raw n (fun _ _ _ T => 0 < T.length) (fun _ _ _ _ => True) := ⟨fun _ _ _ _ _ _ => by simp, fun _ _ _ _ _ _ _ => by simp, fun _ _ _ _ => trivial, fun _ _ _ _ _ _ _ => trivial, fun _ _ _ _ _ _ _ _ => trivial, fun _ _ _ _ _ _ _ => by simp⟩
  exact h2 _ _ R

theorem apE {sv ev : Value} (h : sv.ownBlock = none ∨ sv.ownBlock ≠ ev.ownBlock) : ev.ownBlock = none ∨ ev.ownBlock ≠ sv.ownBlock := by
  rcases h with h | h
  · cases he : ev.ownBlock with
    | none => exact .inl rfl
    | some k => exact .inr (by rw [h]; simp)
  · exact .inr (Ne.symm h)

theorem own_widen {w : World} {B B' : Nat} {e : TypeId} {s : Nat} {v : Value} {m : Nat} {xs : List Value} (h : w.ownsRow B' e s v m xs) (hB : B ≤ B') : w.ownsRow B e s v m xs := by
  refine ⟨h.1, ?_⟩
  rcases h.2 with h2 | ⟨g, cp, cur, h1, h2, r⟩
  · exact .inl h2
  · exact .inr ⟨g, cp, cur, h1, by omega, r⟩

theorem zs_widen {w w1 wr : World} {sv ev : Value} {T : List (Int × Int)} (hb : Below w.heap.size w w1) (h : ZS w1.heap.size w1 wr sv ev T) : ZS w.heap.size w wr sv ev T :=
  ⟨hb.trans (h.below.mono hb.size), own_widen h.so hb.size, own_widen h.eo hb.size, h.ap, Nat.le_trans hb.size h.base⟩

theorem news2 (w : World) (o : Obj) (x : Value) (t : TypeId) : ∀ j u, [x][j]? = some u → ((w.alloc o).alloc (.cells #[x] t)).cell? ((⟨w.heap.size + 1, 0, none⟩ : Addr).add j) = some u := by
  have h := cell_one_new (w.alloc o) x t
  rw [World.size_alloc] at h
  exact h

theorem tcell {wr w2 : World} {x y : Value} {o2 : Obj} {row : Option Nat} (hg : ((wr.alloc (.cells #[x, y] 64)).alloc o2).grownBy w2 row) (hr : ∀ k, row = some k → k < wr.heap.size) : w2.cell? ⟨wr.heap.size, 1, none⟩ = some y := by
  have hb : ((wr.alloc (.cells #[x, y] 64)).alloc o2).heap[wr.heap.size]? = some (.cells #[x, y] 64 (0, 0)) := by
    rw [Below.heap_alloc _ _ _ (by simp)]; exact heap_alloc_new wr _
  rw [hg.cell_far ⟨wr.heap.size, 1, none⟩ (by simp; omega) (fun e => by have h0 : wr.heap.size < wr.heap.size := hr _ e.symm; omega), cell_of_row _ _ 1 _ _ _ hb]
  rfl

set_option maxHeartbeats 2000000 in
theorem zz_any (g cap n : Nat) (raw : List Int) (F : List (Int × Int)) (w : World) (C : Txt g n raw w) (hrun : Run raw n F 0 [] []) (hF : 0 < F.length) (hFn : F.length ≤ 1048576) :
    Calls Try.prog 28 #[.slice (some ⟨g, 0, none⟩) n cap] w fun e w' => ∃ sv ev, e = .returned (.tuple #[sv, ev]) ∧ ZS w.heap.size w w' sv ev F := by
  have hix := index_any g cap n raw F w C hrun
  obtain ⟨i0, hi, hz0, hz1, hz2⟩ := info_parts info21
  clear C hrun
  go_enter Try.func28, Try.ntmps28
  go_wp2_with fail
  refine hix.mono ?_
  rintro e w1 ⟨v, rfl, hown, hbel⟩
  clear hix
  obtain ⟨gt, tc, hv⟩ := own_some hown hF
  subst hv
  have HO : Hid (w1.ownsRow w.heap.size 64 2 (.slice (some ⟨gt, 0, none⟩) F.length tc) F.length (flat F)) := hown
  have HB : Hid (Below w.heap.size w w1) := hbel
  have hgl := (hown.lt gt rfl).2
  clear hown hbel
  go_wp2_with fail
  go_loopg [2, 3, 9] F.length (fun k sv ev iv wr => ∃ m : Nat, k = F.length - m ∧ m ≤ F.length ∧ iv = .int .i64 m ∧ ZS w1.heap.size w1 wr sv ev (F.take m))
  case atStart => exact ⟨0, rfl, Nat.zero_le _, rfl, ⟨Below.refl _ _, World.ownsRow_nil _ _ _ _, World.ownsRow_nil _ _ _ _, .inl rfl, Nat.le_refl _⟩⟩
  case round =>
    obtain ⟨m, rfl, hm, hiv, hZ⟩ := hrel
    subst hiv
    have HZ : Hid (ZS w1.heap.size w1 wr u2 u3 (F.take m)) := hZ
    by_cases hlt : m < F.length
    · have hg := flat_get F m hlt
      have k0 : wr.cell? ⟨gt, m * 2, none⟩ = some (.int .i32 (F.getD m (0, 0)).1) := by
        rw [hZ.below.cell (p := ⟨gt, m * 2, none⟩) hgl, HO.out.cellAt (m * 2) (by omega), show m * 2 = 2 * m by omega]
        exact hg.1
      have k1 : wr.cell? ⟨gt, m * 2 + 1, none⟩ = some (.int .i32 (F.getD m (0, 0)).2) := by
        rw [hZ.below.cell (p := ⟨gt, m * 2 + 1, none⟩) hgl, HO.out.cellAt (m * 2 + 1) (by omega), show m * 2 + 1 = 2 * m + 1 by omega]
        exact hg.2
      have hso := hZ.so
      have heo := hZ.eo
      have hbs := hZ.base
      have hlen : (F.take m).length = m := by rw [List.length_take]; omega
      rw [hlen] at hso heo
      have HF : Hid (F.take (m + 1) = F.take m ++ [((F.getD m (0, 0)).1, (F.getD m (0, 0)).2)]) := by
        unfold Hid
        rw [List.take_succ_eq_append_getElem hlt, List.getD_eq_getElem?_getD, List.getElem?_eq_getElem hlt]
        rfl
      have HL : Hid ((F.take m).length = m) := hlen
      have hsl := fun k (hk : u2.ownBlock = some k) => (hso.lt k hk).2
      have HSL : Hid (∀ k, u2.ownBlock = some k → k < wr.heap.size) := hsl
      clear hZ hg hlen hsl
      generalize (F.getD m (0, 0)).1 = a at *
      generalize (F.getD m (0, 0)).2 = b at *
      have hsm := HZ.out.so.1
      go_wp2_with (first
        | (at_builtin; refine wpList_append_lies _ rfl (.tmp 13) (.tmp 16) 42 rfl w1.heap.size 21 i0 _ 1 4 Try.underlying42 hi hz0 hz1 hz2 rfl (by omega) u2 _ _ rfl ((hso.alloc _).alloc _) ⟨wr.heap.size + 1, 0, none⟩ 1 1 [.int .i32 a] rfl rfl (news2 _ _ _ _) (by simp [Value.oneCell']) (by omega) (by unfold maxLen; omega) (by omega) (by simp; omega) (wr.heap.size + 2) (by simp) ?_; intro g1 c1 w2 hown1 hgrow1 hat1 hlt1; have q1 := tcell hgrow1 HSL.out; have hs2 : wr.heap.size + 2 ≤ w2.heap.size := (by have h0 := hgrow1.size; simp at h0; omega); have heo2 := ((heo.alloc _).alloc _).kept hgrow1 (apE HZ.out.ap))
        | (at_builtin; refine wpList_append_lies _ rfl (.tmp 18) (.tmp 21) 42 rfl w1.heap.size 21 i0 _ 1 4 Try.underlying42 hi hz0 hz1 hz2 rfl (by omega) u3 _ _ rfl (heo2.alloc _) ⟨w2.heap.size, 0, none⟩ 1 1 [.int .i32 b] rfl rfl (cell_one_new _ _ _) (by simp [Value.oneCell']) (by omega) (by unfold maxLen; omega) (by omega) (by simp; omega) (w2.heap.size + 1) (by simp) ?_; intro g2 c2 w3 hown2 hgrow2 hat2 hlt2))
      go_roundg (F.length - (m + 1))
      case measure => omega
      case rel =>
        refine ⟨m + 1, rfl, by omega, by go_num, ?_⟩
        rw [HF.out]
        have hst := HZ.out.step (a := a) (b := b) (g1 := g1) (c1 := c1) (g2 := g2) (c2 := c2) (H1 := wr.heap.size + 2) (H2 := w2.heap.size + 1) (by rw [HL.out]; exact hown1) hgrow1 hat1 (by simp) (by rw [HL.out]; exact hown2) hgrow2 hat2 (by simp)
        rw [HL.out] at hst
        exact hst
    · obtain rfl : m = F.length := by omega
      go_wp2
      go_ret2
      refine ⟨_, _, rfl, ?_⟩
      have hz := HZ.out
      rw [List.take_length] at hz
      exact zs_widen HB.out hz
end Go.Proofs.Qxb6603026a
