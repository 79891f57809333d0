/-
  Walks of seat b6603026a: indexTokens.
-/
import Derived.Test.Qxb6603026aWord
import Derived.Test.Qxb6603026aScan
import Derived.WalkSmall
namespace Go.Proofs.Qxb6603026a
open Go.RowKit Gram

theorem info3 : (Try.prog.info? 3).map (fun i => (i.zero, i.size, i.bytes)) = some (some (.int .i64 0), 1, 8) := by kernel_rfl
theorem info64 : (Try.prog.info? 64).map (fun i => (i.zero, i.size, i.bytes)) = some (some (.agg #[.int .i32 0, .int .i32 0]), 2, 8) := by kernel_rfl

/-- The tokens' cells. -/
def flat : List (Int × Int) → List Value
  | [] => []
  | t :: r => .int .i32 t.1 :: .int .i32 t.2 :: flat r
theorem flat_append (a b : List (Int × Int)) : flat (a ++ b) = flat a ++ flat b := by
  induction a with
  | nil => rfl
  | cons t r ih => simp [flat, ih]
theorem flat_length (a : List (Int × Int)) : (flat a).length = a.length * 2 := by
  induction a with
  | nil => rfl
  | cons t r ih => simp [flat, ih]; omega
theorem flat_one (s e : Int) : flat [(s, e)] = [.int .i32 s, .int .i32 e] := rfl
theorem flat_get : ∀ (a : List (Int × Int)) (j : Nat), j < a.length → (flat a)[2 * j]? = some (.int .i32 (a.getD j (0, 0)).1) ∧ (flat a)[2 * j + 1]? = some (.int .i32 (a.getD j (0, 0)).2) := by
  intro a
  induction a with
  | nil => intro j h; simp at h
  | cons t r ih =>
    intro j h
    cases j with
    | zero => simp [flat]
    | succ j =>
      have := ih j (by simpa using h)
      rw [show 2 * (j + 1) = 2 * j + 1 + 1 by omega]
      simpa [flat] using this
theorem flat_set : ∀ (a : List (Int × Int)) (j : Nat) (x : Int), j < a.length → (flat a).set (2 * j + 1) (.int .i32 x) = flat (a.set j ((a.getD j (0, 0)).1, x)) := by
  intro a
  induction a with
  | nil => intro j x h; simp at h
  | cons t r ih =>
    intro j x h
    cases j with
    | zero => simp [flat]
    | succ j =>
      have := ih j x (by simpa using h)
      rw [show 2 * (j + 1) + 1 = (2 * j + 1) + 1 + 1 by omega]
      simpa [flat] using this

def nats (O : List Nat) : List Value := O.map fun (j : Nat) => Value.int .i64 (j : Int)

/-- The scanner's state in memory. -/
structure IS (B : Nat) (w wr : World) (n i : Nat) (tv ov : Value) (T : List (Int × Int)) (O : List Nat) : Prop where
  below : Below B w wr
  tok : wr.ownsRow B 64 2 tv T.length (flat T)
  opn : wr.ownsRow B 3 1 ov O.length (nats O)
  tl : T.length ≤ i
  ol : O.length ≤ i
  le : i ≤ n
  base : B ≤ wr.heap.size

/-- The text as a row that is there. -/
structure Txt (g n : Nat) (raw : List Int) (w : World) : Prop where
  lt : g < w.heap.size
  big : n ≤ 1048576
  byte : ∀ k, k < n → 0 ≤ rd raw k ∧ rd raw k < 256
  cell : ∀ k, k < n → w.cell? ⟨g, k, none⟩ = some (.int .u8 (rd raw k))

theorem Txt.later {g n : Nat} {raw : List Int} {w wr : World} (h : Txt g n raw w) (hb : Below w.heap.size w wr) (k : Nat) (hk : k < n) : wr.cell? ⟨g, k, none⟩ = some (.int .u8 (rd raw k)) := by
  rw [hb.cell (p := ⟨g, k, none⟩) h.lt]; exact h.cell k hk

theorem run_inv {raw : List Int} {n : Nat} {F : List (Int × Int)} {i : Nat} {T : List (Int × Int)} {O : List Nat} (h : Run raw n F i T O) :
    (i = n ∧ T = F ∧ O = []) ∨ (i < n ∧
    ((isGap (rd raw i) ∧ Run raw n F (i + 1) T O) ∨
     ((rd raw i = 123 ∨ rd raw i = 91) ∧ Run raw n F (i + 1) (T ++ [((i : Int), 0)]) (O ++ [T.length])) ∨
     ((rd raw i = 125 ∨ rd raw i = 93) ∧ ∃ O0 j, O = O0 ++ [j] ∧ j < T.length ∧ Run raw n F (i + 1) (T.set j ((T.getD j (0, 0)).1, (T.length : Int))) O0) ∨
     (rd raw i = 34 ∧ ∃ r, StrEnd raw n (i + 1) r ∧ Run raw n F (r + 1) (T ++ [((i : Int), ((r + 1 : Nat) : Int))]) O) ∨
     (isLit (rd raw i) ∧ ∃ r, LitEnd raw n (i + 1) r ∧ Run raw n F r (T ++ [((i : Int), (r : Int))]) O))) := by
  obtain ⟨k, hk⟩ := h
  cases k with
  | zero => exact .inl hk
  | succ k =>
    obtain ⟨h1, h2⟩ := hk
    refine .inr ⟨h1, ?_⟩
    rcases h2 with ⟨a, b⟩ | ⟨a, b⟩ | ⟨a, O0, j, b, c, d⟩ | ⟨a, r, b, c⟩ | ⟨a, r, b, c⟩
    · exact .inl ⟨a, k, b⟩
    · exact .inr (.inl ⟨a, k, b⟩)
    · exact .inr (.inr (.inl ⟨a, O0, j, b, c, k, d⟩))
    · exact .inr (.inr (.inr (.inl ⟨a, r, b, k, c⟩)))
    · exact .inr (.inr (.inr (.inr ⟨a, r, b, k, c⟩)))

theorem own_form {w : World} {B : Nat} {e : TypeId} {size : Nat} {v : Value} {m : Nat} {xs : List Value} (h : w.ownsRow B e size v m xs) : ∃ a c, v = .slice a m c := by
  rcases h.2 with ⟨h1, h2⟩ | ⟨g, cp, cur, h1, _⟩
  · exact ⟨none, 0, by rw [h1, h2]⟩
  · exact ⟨_, cp, h1⟩

/-- Rows of different element types lie in different blocks. -/
theorem own_apart {w : World} {B B' : Nat} {e e' : TypeId} {s s' : Nat} {v v' : Value} {m m' : Nat} {xs xs' : List Value} (h : w.ownsRow B e s v m xs) (h' : w.ownsRow B' e' s' v' m' xs') (hne : e ≠ e') : v.ownBlock = none ∨ v.ownBlock ≠ v'.ownBlock := by
  rcases h.2 with ⟨rfl, _⟩ | ⟨g, cp, cur, rfl, _, hg, _⟩
  · exact .inl rfl
  · right
    rcases h'.2 with ⟨rfl, _⟩ | ⟨g', cp', cur', rfl, _, hg', _⟩
    · simp [Value.ownBlock]
    · intro e0
      have e1 : g = g' := by simpa [Value.ownBlock] using e0
      subst e1
      rw [hg] at hg'
      simp at hg'
      exact hne hg'.2

theorem IS.openStep {B n i : Nat} {w wr w1 w2 : World} {tv ov tv' ov' : Value} {T : List (Int × Int)} {O : List Nat} {o1 o2 : Obj} (h : IS B w wr n i tv ov T O) (hlt : i < n)
    (ho : w1.ownsRow B 3 1 ov' (O.length + 1) (nats O ++ [.int .i64 (T.length : Int)])) (hg1 : (wr.alloc o1).grownBy w1 ov.ownBlock)
    (ht : w2.ownsRow B 64 2 tv' (T.length + 1) (flat T ++ [.int .i32 (i : Int), .int .i32 0])) (hg2 : (w1.alloc o2).grownBy w2 tv.ownBlock) : IS B w w2 n (i + 1) tv' ov' (T ++ [((i : Int), 0)]) (O ++ [T.length]) := by
  have hb1 : Below B w w1 := (h.below.alloc h.base _).grown hg1 (by have := h.base; simp; omega) (fun k hk => (h.opn.lt k hk).1)
  have hs1 : B ≤ w1.heap.size := by have := h.base; have := hg1.size; simp at this; omega
  have hs2 : B ≤ w2.heap.size := by have := hg2.size; simp at this; omega
  have ht1 : w1.ownsRow B 64 2 tv T.length (flat T) := (h.tok.alloc _).kept hg1 (own_apart h.tok h.opn (by decide))
  have hb2 : Below B w w2 := (hb1.alloc hs1 _).grown hg2 (by simp; omega) (fun k hk => (h.tok.lt k hk).1)
  refine ⟨hb2, ?_, ?_, ?_, ?_, by omega, hs2⟩
  · rw [List.length_append, flat_append, flat_one]; exact ht
  · have e : nats (O ++ [T.length]) = nats O ++ [.int .i64 (T.length : Int)] := by simp [nats]
    rw [List.length_append, e]
    exact (ho.alloc _).kept hg2 (own_apart ho ht1 (by decide))
  · have := h.tl; simp; omega
  · have := h.ol; simp; omega

theorem IS.tokStep {B n i i' : Nat} {w wr w2 : World} {tv ov tv' : Value} {T : List (Int × Int)} {O : List Nat} {o2 : Obj} {s e : Int} (h : IS B w wr n i tv ov T O) (hi : i < i') (hn : i' ≤ n)
    (ht : w2.ownsRow B 64 2 tv' (T.length + 1) (flat T ++ [.int .i32 s, .int .i32 e])) (hg2 : (wr.alloc o2).grownBy w2 tv.ownBlock) : IS B w w2 n i' tv' ov (T ++ [(s, e)]) O := by
  have hs2 : B ≤ w2.heap.size := by have := h.base; have := hg2.size; simp at this; omega
  have hb2 : Below B w w2 := (h.below.alloc h.base _).grown hg2 (by have := h.base; simp; omega) (fun k hk => (h.tok.lt k hk).1)
  refine ⟨hb2, ?_, (h.opn.alloc _).kept hg2 (own_apart h.opn h.tok (by decide)), ?_, ?_, hn, hs2⟩
  · rw [List.length_append, flat_append, flat_one]; exact ht
  · have := h.tl; simp; omega
  · have := h.ol; omega

theorem own_some {w : World} {B : Nat} {e : TypeId} {size : Nat} {v : Value} {m : Nat} {xs : List Value} (h : w.ownsRow B e size v m xs) (hm : 0 < m) : ∃ g c, v = .slice (some ⟨g, 0, none⟩) m c := by
  obtain ⟨g, c, h1, _⟩ := h.form hm
  exact ⟨g, c, h1⟩

theorem IS.closeCells {B n i gt go tc oc L M : Nat} {w wr : World} {T : List (Int × Int)} {O0 : List Nat} {j : Nat} (h : IS B w wr n i (.slice (some ⟨gt, 0, none⟩) L tc) (.slice (some ⟨go, 0, none⟩) M oc) T (O0 ++ [j])) (hL : L = T.length) (hM : M = O0.length + 1) (hj : j < T.length) :
    wr.cell? ⟨go, O0.length, none⟩ = some (.int .i64 (j : Int)) ∧ (∃ x, wr.cell? ⟨gt, j * 2 + 1, none⟩ = some (.int .i32 x)) ∧ wr.frozen? ⟨gt, j * 2 + 1, none⟩ = false := by
  subst hL
  rw [show j * 2 + 1 = 2 * j + 1 by omega]
  have ho : wr.ownsRow B 3 1 (.slice (some ⟨go, 0, none⟩) M oc) M (nats (O0 ++ [j])) := by
    have h0 := h.opn
    rw [List.length_append] at h0
    rw [hM] at h0 ⊢; exact h0
  refine ⟨?_, ⟨(T.getD j (0, 0)).2, ?_⟩, h.tok.frozenAt _⟩
  · rw [ho.cellAt O0.length (by omega)]
    simp [nats]
  · rw [h.tok.cellAt (2 * j + 1) (by omega)]
    exact (flat_get T j hj).2

theorem IS.closeStep {B n i gt go tc oc L M : Nat} {w wr : World} {T : List (Int × Int)} {O0 : List Nat} {j : Nat} (h : IS B w wr n i (.slice (some ⟨gt, 0, none⟩) L tc) (.slice (some ⟨go, 0, none⟩) M oc) T (O0 ++ [j])) (hL : L = T.length) (hM : M = O0.length + 1) (hj : j < T.length) (hlt : i < n) :
    IS B w (wr.setCell ⟨gt, j * 2 + 1, none⟩ (.int .i32 (L : Int))) n (i + 1) (.slice (some ⟨gt, 0, none⟩) L tc) (.slice (some ⟨go, 0, none⟩) O0.length oc) (T.set j ((T.getD j (0, 0)).1, (T.length : Int))) O0 := by
  subst hL
  rw [show j * 2 + 1 = 2 * j + 1 by omega]
  have ho : wr.ownsRow B 3 1 (.slice (some ⟨go, 0, none⟩) (O0.length + 1) oc) (O0.length + 1) (nats O0 ++ nats [j]) := by
    have h0 := h.opn
    have e : nats (O0 ++ [j]) = nats O0 ++ nats [j] := by simp [nats]
    rw [List.length_append, e, hM] at h0; exact h0
  have ho2 := ownsRow_pop (by simp [nats]) ho
  have hst := h.tok.stored (2 * j + 1) (.int .i32 (T.length : Int))
  have hgt := (h.tok.lt gt rfl).1
  refine ⟨h.below.setCell hgt _, ?_, ?_, ?_, ?_, by omega, by have := h.base; simp; omega⟩
  · have e1 : (T.set j ((T.getD j (0, 0)).1, (T.length : Int))).length = T.length := by simp
    rw [e1, ← flat_set T j (T.length : Int) hj]; exact hst.1
  · exact ho2.kept hst.2 (own_apart ho2 h.tok (by decide))
  · have := h.tl; simp; omega
  · have := h.ol; simp at this; omega

theorem str_inv {raw : List Int} {n a r : Nat} (h : StrEnd raw n a r) : (a = r ∧ a < n ∧ rd raw a = 34) ∨ (a < n ∧ rd raw a ≠ 34 ∧ ((rd raw a = 92 ∧ StrEnd raw n (a + 2) r) ∨ (rd raw a ≠ 92 ∧ StrEnd raw n (a + 1) r))) := by
  obtain ⟨k, hk⟩ := h
  cases k with
  | zero => exact .inl hk
  | succ k =>
    obtain ⟨h1, h2, ⟨h3, h4⟩ | ⟨h3, h4⟩⟩ := hk
    · exact .inr ⟨h1, h2, .inl ⟨h3, k, h4⟩⟩
    · exact .inr ⟨h1, h2, .inr ⟨h3, k, h4⟩⟩

/-- Is the byte one of those at which a number or a word ends? -/
def stopB (c : Int) : Bool := c == 32 || c == 9 || c == 13 || c == 10 || c == 44 || c == 93 || c == 125
theorem stopB_iff (c : Int) : stopB c = true ↔ isStop c := by simp [stopB, isStop, or_assoc]
theorem stop_index (c : Int) (h0 : 0 ≤ c) (h1 : c < 256) : (Lib.indexByte [32, 9, 13, 10, 44, 93, 125] c.toNat.toUInt8 < 0) ↔ stopB c = false := by
  obtain ⟨k, rfl⟩ : ∃ k : Nat, c = (k : Int) := ⟨c.toNat, by omega⟩
  have hk : k < 256 := by omega
  have key : ∀ k : Fin 256, (Lib.indexByte [32, 9, 13, 10, 44, 93, 125] (Int.toNat ((k.val : Nat) : Int)).toUInt8 < 0) ↔ stopB ((k.val : Nat) : Int) = false := by decide +kernel
  exact key ⟨k, hk⟩

/-- strings.IndexByte at the stops. -/
theorem stops_any (c : Int) (w : World) : Calls Try.prog 45 #[.string ⟨#[32, 9, 13, 10, 44, 93, 125]⟩, .int .u8 c] w fun e w' => e = .returned (.int .i64 (Lib.indexByte [32, 9, 13, 10, 44, 93, 125] c.toNat.toUInt8)) ∧ w' = w := by
  have hix : ∀ w, Calls Try.prog 48 #[.string ⟨#[32, 9, 13, 10, 44, 93, 125]⟩, .int .u8 c] w fun e w' => e = .returned (.int .i64 (Lib.indexByte [32, 9, 13, 10, 44, 93, 125] c.toNat.toUInt8)) ∧ w' = w := by
    intro w
    go_enter Try.func48, Try.ntmps48
    go_wp2
    rw [run_callFunc_extern Try.func50 (by kernel_rfl) (by kernel_rfl) (by kernel_rfl) (e := Extern.BytealgIndexByte.indexByte) (by kernel_rfl), Lib.run_indexByteString]
    simp only [Result.andThen]
    rw [Oper.upon_value]
    go_wp2
    go_ret
    exact ⟨rfl, rfl⟩
  go_enter Try.func45, Try.ntmps45
  go_wp2_with (go_at_call 48; refine (hix _).mono ?_; rintro e w ⟨rfl, rfl⟩)
  go_ret
  exact ⟨rfl, rfl⟩

set_option maxRecDepth 100000 in
set_option maxHeartbeats 4000000 in
theorem index_any (g cap n : Nat) (raw : List Int) (F : List (Int × Int)) (w : World) (C : Txt g n raw w) (hrun : Run raw n F 0 [] []) :
    Calls Try.prog 35 #[.slice (some ⟨g, 0, none⟩) n cap] w fun e w' => ∃ v, e = .returned v ∧ w'.ownsRow w.heap.size 64 2 v F.length (flat F) ∧ Below w.heap.size w w' := by
  have hbig := C.big
  have HC : Hid (Txt g n raw w) := C
  have HR0 : Hid (Run raw n F 0 [] []) := hrun
  obtain ⟨i0, hi, hz0, hz1, hz2⟩ := info_parts info3
  obtain ⟨j0, hj, hy0, hy1, hy2⟩ := info_parts info64
  clear C hrun
  go_enter Try.func35, Try.ntmps35
  go_wp2
  go_loopg [3, 4, 5] n (fun k tv ov iv wr => ∃ (i : Nat) (T : List (Int × Int)) (O : List Nat), k = n - i ∧ iv = .int .i64 i ∧ IS w.heap.size w wr n i tv ov T O ∧ Run raw n F i T O)
  case atStart => exact ⟨0, [], [], rfl, rfl, ⟨Below.refl _ _, World.ownsRow_nil _ _ _ _, World.ownsRow_nil _ _ _ _, Nat.le_refl _, Nat.le_refl _, Nat.zero_le _, Nat.le_refl _⟩, HR0.out⟩
  case round =>
    clear HR0
    obtain ⟨i, T, O, rfl, hiv, hIS, hR⟩ := hrel
    subst hiv
    have HI : Hid (IS w.heap.size w wr n i u3 u4 T O) := hIS
    have hle := hIS.le
    have htl := hIS.tl
    have hol := hIS.ol
    have hbs := hIS.base
    rcases run_inv hR with ⟨rfl, rfl, rfl⟩ | ⟨hlt, hcs⟩
    · clear hR
      go_wp2
      go_ret
      exact ⟨_, rfl, HI.out.tok, HI.out.below⟩
    · clear hR
      have c := HC.out.later hIS.below i hlt
      have hbt := HC.out.byte i hlt
      have i1 : (0 : Int) ≤ (i : Int) := by omega
      have i2 : (i : Int) < (n : Int) := by omega
      generalize hx : rd raw i = x at *
      have HX : Hid (rd raw i = x) := hx
      clear hx
      rcases hcs with ⟨hg, hR⟩ | ⟨ho, hR⟩ | ⟨hcl, O0, j, rfl, hj, hR⟩ | ⟨hq, r, hse, hR⟩ | ⟨hl, r, hle2, hR⟩
      · have HR : Hid (Run raw n F (i + 1) T O) := hR
        clear hR hIS
        unfold isGap at hg
        rcases hg with h | h | h | h | h | h
        all_goals
          subst h
          go_wp2
          go_roundg (n - (i + 1))
          case measure => omega
          case rel => exact ⟨i + 1, T, O, rfl, by go_num, ⟨HI.out.below, HI.out.tok, HI.out.opn, by omega, by omega, by omega, by omega⟩, HR.out⟩
      · have HR : Hid (Run raw n F (i + 1) (T ++ [((i : Int), 0)]) (O ++ [T.length])) := hR
        have wr32 : IntKind.i32.wrap (i : Int) = (i : Int) := IntWalk.i32_in _ (by omega)
        obtain ⟨ta, tc, htv⟩ := own_form hIS.tok
        subst htv
        have hopn := hIS.opn
        have htok := hIS.tok
        clear hR hIS
        rcases ho with h | h
        all_goals
          subst h
          go_wp2_with (first
            | (at_builtin; refine wpList_append_own _ rfl (.tmp 53) (.tmp 56) 26 rfl w.heap.size 3 i0 (.int .i64 0) 1 8 Try.underlying26 hi hz0 hz1 hz2 rfl (by decide) u4 _ _ rfl (hopn.alloc _) ⟨wr.heap.size, 0, none⟩ 1 1 [.int .i64 (T.length : Int)] rfl rfl (cell_one_new _ _ _) (by simp [Value.oneCell']) (by unfold maxLen; omega) (by omega) (by simp; omega) ?_; intro ov' w1 hown1 hgrow1 _; have htok1 := (htok.alloc _).kept hgrow1 (own_apart htok hopn (by decide)); have hs1 := hgrow1.size)
            | (at_builtin; refine wpList_append_own _ rfl (.tmp 58) (.tmp 62) 61 rfl w.heap.size 64 j0 _ 2 8 Try.underlying61 hj hy0 hy1 hy2 rfl (by decide) _ _ _ rfl (htok1.alloc _) ⟨w1.heap.size, 0, none⟩ 1 1 [.int .i32 (i : Int), .int .i32 0] rfl rfl (World.news_of_block (cs := #[.int .i32 (i : Int), .int .i32 0]) (t := 64) (fr := (0, 0)) (heap_alloc_new w1 _)) (by simp [Value.oneCell']) (by unfold maxLen; omega) (by omega) (by simp at hs1 ⊢; omega) ?_; intro tv' w2 hown2 hgrow2 _))
          go_roundg (n - (i + 1))
          case measure => omega
          case rel => exact ⟨i + 1, _, _, rfl, by go_num, HI.out.openStep hlt hown1 hgrow1 hown2 hgrow2, HR.out⟩
      · have HR : Hid (Run raw n F (i + 1) (T.set j ((T.getD j (0, 0)).1, (T.length : Int))) O0) := hR
        obtain ⟨gt, tc, htv⟩ := own_some hIS.tok (by omega)
        obtain ⟨go, oc, hov⟩ := own_some hIS.opn (by simp)
        obtain ⟨M, hM⟩ : ∃ M, M = (O0 ++ [j]).length := ⟨_, rfl⟩
        rw [← hM] at hov
        have hM1 : M = O0.length + 1 := by rw [hM]; simp
        clear hM
        subst htv hov
        obtain ⟨k1, ⟨y, k2⟩, k3⟩ := HI.out.closeCells rfl hM1 hj
        have HM : Hid (M = O0.length + 1) := hM1
        have hM2 : M ≤ i := by simp at hol; omega
        have wrT : IntKind.i32.wrap (T.length : Int) = (T.length : Int) := IntWalk.i32_in _ (by omega)
        have m1 : (1 : Int) ≤ (M : Int) := by omega
        have m2 : (M : Int) - 1 = (O0.length : Int) := by omega
        have m5 : (O0.length : Int) < (M : Int) := by omega
        have m6 : (O0.length : Int) ≤ (oc : Int) := by
          have h0 := HI.out.opn.2
          rcases h0 with ⟨h1, _⟩ | ⟨g2, c2, cur2, h1, _, _, h2, _⟩
          · cases h1
          · cases h1; simp at h2; omega
        have m3 : (0 : Int) ≤ (j : Int) := by omega
        have m4 : (j : Int) < (T.length : Int) := by omega
        clear hR hIS hM1
        rcases hcl with h | h
        all_goals
          subst h
          go_wp2
          go_roundg (n - (i + 1))
          case measure => omega
          case rel => exact ⟨i + 1, _, _, rfl, by go_num, HI.out.closeStep rfl HM.out hj hlt, HR.out⟩
      · have HR : Hid (Run raw n F (r + 1) (T ++ [((i : Int), ((r + 1 : Nat) : Int))]) O) := hR
        have HS : Hid (StrEnd raw n (i + 1) r) := hse
        have hr := hse.le
        have hr1 : i + 1 ≤ r := hr.1
        have hr2 : r < n := hr.2.1
        obtain ⟨rr, hrr⟩ : ∃ rr : Nat, rr = r + 1 := ⟨_, rfl⟩
        have HRR : Hid (rr = r + 1) := hrr
        have hra : rr ≤ r + 1 := by omega
        have hrb : r + 1 ≤ rr := by omega
        clear hrr
        have wr32 : IntKind.i32.wrap (i : Int) = (i : Int) := IntWalk.i32_in _ (by omega)
        have wr32r : IntKind.i32.wrap ((r : Int) + 1) = (r : Int) + 1 := IntWalk.i32_in _ (by omega)
        have htok := hIS.tok
        have hbel := hIS.below
        clear hR hIS hse hr
        subst hq
        go_wp2
        go_loopg [6] (n - (i + 1)) (fun k v wx => ∃ e : Nat, k = n - e ∧ i + 1 ≤ e ∧ e ≤ n ∧ v = .int .i64 e ∧ wx = wr ∧ StrEnd raw n e r)
        case atStart => exact ⟨i + 1, rfl, Nat.le_refl _, by omega, by go_num, rfl, HS.out⟩
        case round =>
          clear HS c i1 i2 HX
          obtain ⟨e, rfl, he1, he2, rfl, hwx, hse⟩ := hrel
          subst hwx
          have hle := hse.le
          have hle1 := hle.1
          clear hle
          rcases str_inv hse with ⟨rfl, hel, heq⟩ | ⟨hel, hne, ⟨h92, hse2⟩ | ⟨h92, hse2⟩⟩
          · have c := HC.out.later hbel e hel
            rw [heq] at c
            have i1 : (0 : Int) ≤ (e : Int) := by omega
            have i2 : (e : Int) < (n : Int) := by omega
            clear hse heq
            go_wp2_with (at_builtin; refine wpList_append_own _ rfl (.tmp 106) (.tmp 113) 61 rfl w.heap.size 64 j0 _ 2 8 Try.underlying61 hj hy0 hy1 hy2 rfl (by decide) _ _ _ rfl (htok.alloc _) ⟨wr.heap.size, 0, none⟩ 1 1 [.int .i32 (i : Int), .int .i32 ((e : Int) + 1)] rfl rfl (World.news_of_block (cs := #[.int .i32 (i : Int), .int .i32 ((e : Int) + 1)]) (t := 64) (fr := (0, 0)) (heap_alloc_new wr _)) (by simp [Value.oneCell']) (by unfold maxLen; omega) (by omega) (by simp; omega) ?_; intro tv' w2 hown2 hgrow2 _)
            go_roundg (n - (e + 1))
            case measure => omega
            case rel => exact ⟨e + 1, _, _, rfl, by go_num, HI.out.tokStep (by omega) (by omega) hown2 hgrow2, HR.out⟩
          · have c := HC.out.later hbel e hel
            rw [h92] at c
            have i1 : (0 : Int) ≤ (e : Int) := by omega
            have i2 : (e : Int) < (n : Int) := by omega
            have HS2 : Hid (StrEnd raw n (e + 2) r) := hse2
            have hl2 := hse2.le
            have hl3 : e + 2 ≤ r := hl2.1
            clear hse h92 hse2 hne hl2
            go_wp2
            go_roundg (n - (e + 2))
            case measure => omega
            case rel => exact ⟨e + 2, rfl, by omega, by omega, by go_num, rfl, HS2.out⟩
          · have c := HC.out.later hbel e hel
            have i1 : (0 : Int) ≤ (e : Int) := by omega
            have i2 : (e : Int) < (n : Int) := by omega
            have HS2 : Hid (StrEnd raw n (e + 1) r) := hse2
            have b1 : (rd raw e != 34) = true := by simpa using hne
            have b2 : (rd raw e == 92) = false := by simpa using h92
            clear hse hse2 hne h92
            generalize rd raw e = y at *
            go_wp2
            go_roundg (n - (e + 1))
            case measure => omega
            case rel => exact ⟨e + 1, rfl, by omega, by omega, by go_num, rfl, HS2.out⟩
      · have HR : Hid (Run raw n F r (T ++ [((i : Int), (r : Int))]) O) := hR
        obtain ⟨hr1, hr2, hns, hst⟩ := hle2
        have HNS : Hid (∀ j, i + 1 ≤ j → j < r → ¬ isStop (rd raw j)) := hns
        have HST : Hid (r = n ∨ isStop (rd raw r)) := hst
        have wr32 : IntKind.i32.wrap (i : Int) = (i : Int) := IntWalk.i32_in _ (by omega)
        have wr32r : IntKind.i32.wrap (r : Int) = (r : Int) := IntWalk.i32_in _ (by omega)
        have htok := hIS.tok
        have hbel := hIS.below
        unfold isLit at hl
        have t1 : (x == 32) = false := by rw [beq_eq_false_iff_ne]; omega
        have t2 : (x == 9) = false := by rw [beq_eq_false_iff_ne]; omega
        have t3 : (x == 13) = false := by rw [beq_eq_false_iff_ne]; omega
        have t4 : (x == 10) = false := by rw [beq_eq_false_iff_ne]; omega
        have t5 : (x == 44) = false := by rw [beq_eq_false_iff_ne]; omega
        have t6 : (x == 58) = false := by rw [beq_eq_false_iff_ne]; omega
        have t7 : (x == 123) = false := by rw [beq_eq_false_iff_ne]; omega
        have t8 : (x == 91) = false := by rw [beq_eq_false_iff_ne]; omega
        have t9 : (x == 125) = false := by rw [beq_eq_false_iff_ne]; omega
        have t10 : (x == 93) = false := by rw [beq_eq_false_iff_ne]; omega
        have t11 : (x == 34) = false := by rw [beq_eq_false_iff_ne]; omega
        clear hR hIS hl hns hst
        go_wp2
        clear t1 t2 t3 t4 t5 t6 t7 t8 t9 t10 t11 c i1 i2
        go_loopg [7] (n - (i + 1)) (fun k v wx => ∃ e : Nat, k = n - e ∧ i + 1 ≤ e ∧ e ≤ r ∧ v = .int .i64 e ∧ wx = wr)
        case atStart => exact ⟨i + 1, rfl, Nat.le_refl _, hr1, by go_num, rfl⟩
        case round =>
          clear HX
          obtain ⟨e, rfl, he1, he2, rfl, hwx⟩ := hrel
          subst hwx
          by_cases her : e < r
          · have c := HC.out.later hbel e (by omega)
            have hb := HC.out.byte e (by omega)
            have hsx := stops_any (rd raw e)
            have hneg : Lib.indexByte [32, 9, 13, 10, 44, 93, 125] (rd raw e).toNat.toUInt8 < 0 := by
              rw [stop_index _ hb.1 hb.2]
              cases h0 : stopB (rd raw e) with
              | false => rfl
              | true => exact absurd ((stopB_iff _).1 h0) (HNS.out e he1 her)
            have i1 : (0 : Int) ≤ (e : Int) := by omega
            have i2 : (e : Int) < (n : Int) := by omega
            generalize Lib.indexByte [32, 9, 13, 10, 44, 93, 125] (rd raw e).toNat.toUInt8 = z at *
            clear hb
            generalize rd raw e = y at *
            go_wp2_with (go_at_call 45; refine (hsx _).mono ?_; rintro e0 wz ⟨rfl, rfl⟩)
            go_roundg (n - (e + 1))
            case measure => omega
            case rel => exact ⟨e + 1, rfl, by omega, by omega, by go_num, rfl⟩
          · obtain rfl : e = r := by omega
            by_cases hen : e < n
            · have c := HC.out.later hbel e hen
              have hb := HC.out.byte e hen
              have hsx := stops_any (rd raw e)
              have hneg : decide (Lib.indexByte [32, 9, 13, 10, 44, 93, 125] (rd raw e).toNat.toUInt8 < 0) = false := by
                rw [decide_eq_false_iff_not, stop_index _ hb.1 hb.2]
                rcases HST.out with h0 | h0
                · omega
                · rw [(stopB_iff _).2 h0]; decide
              have i1 : (0 : Int) ≤ (e : Int) := by omega
              have i2 : (e : Int) < (n : Int) := by omega
              generalize Lib.indexByte [32, 9, 13, 10, 44, 93, 125] (rd raw e).toNat.toUInt8 = z at *
              clear hb HST
              generalize rd raw e = y at *
              go_wp2_with (first
                | (go_at_call 45; refine (hsx _).mono ?_; rintro e0 wz ⟨rfl, rfl⟩)
                | (at_builtin; refine wpList_append_own _ rfl (.tmp 32) (.tmp 38) 61 rfl w.heap.size 64 j0 _ 2 8 Try.underlying61 hj hy0 hy1 hy2 rfl (by decide) _ _ _ rfl (htok.alloc _) ⟨_, 0, none⟩ 1 1 [.int .i32 (i : Int), .int .i32 (e : Int)] rfl rfl (World.news_of_block (cs := #[.int .i32 (i : Int), .int .i32 (e : Int)]) (t := 64) (fr := (0, 0)) (heap_alloc_new _ _)) (by simp [Value.oneCell']) (by unfold maxLen; omega) (by omega) (by simp; omega) ?_; intro tv' w2 hown2 hgrow2 _))
              go_roundg (n - e)
              case measure => omega
              case rel => exact ⟨e, _, _, rfl, rfl, HI.out.tokStep (by omega) (by omega) hown2 hgrow2, HR.out⟩
            · have i2 : decide ((e : Int) < (n : Int)) = false := by simp; omega
              clear HST
              go_wp2_with (at_builtin; refine wpList_append_own _ rfl (.tmp 32) (.tmp 38) 61 rfl w.heap.size 64 j0 _ 2 8 Try.underlying61 hj hy0 hy1 hy2 rfl (by decide) _ _ _ rfl (htok.alloc _) ⟨_, 0, none⟩ 1 1 [.int .i32 (i : Int), .int .i32 (e : Int)] rfl rfl (World.news_of_block (cs := #[.int .i32 (i : Int), .int .i32 (e : Int)]) (t := 64) (fr := (0, 0)) (heap_alloc_new _ _)) (by simp [Value.oneCell']) (by unfold maxLen; omega) (by omega) (by simp; omega) ?_; intro tv' w2 hown2 hgrow2 _)
              go_roundg (n - e)
              case measure => omega
              case rel => exact ⟨e, _, _, rfl, rfl, HI.out.tokStep (by omega) (by omega) hown2 hgrow2, HR.out⟩
end Go.Proofs.Qxb6603026a
