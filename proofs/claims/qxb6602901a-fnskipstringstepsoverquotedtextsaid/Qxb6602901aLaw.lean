/-
  Seat b6602901a: the law's own walk.
-/
import Derived.Test.Qxb6602901aSkip
import Derived.Laws.AppendOwnNone
namespace Go.Proofs.Qxb6602901a
open Go.RowKit

/-- 'append(v, u...)', both rows of the call's own (either may be nil). -/
theorem wpList_append_rows {P : Program} {w : World} {ops : Array Oper} {rest : List Oper} {o : Oper} {a : Act} {Q : Exit → Act → World → Prop} (hgd : o.guard = none) (s x : Operand) (t : TypeId)
    (ho : o.op = .call { callee := .builtin .append, args := #[s, x], argTypes := #[t, t] })
    (base base2 : Nat) (e : TypeId) (i : TypeInfo) (z : Value) (bytes : Nat) (ht : P.underlying t = some (.slice e)) (hi : P.info? e = some i) (hz : i.zero = some z)
    (hsize : i.size = 1) (hby : i.bytes = bytes) (hzs : z.cells.size = 1)
    (v u : Value) (n m : Nat) (xs news : List Value) (hs : a.eval s = v) (hx : a.eval x = u) (hown : w.ownsRow base e 1 v n xs) (hu : w.ownsRow base2 e 1 u m news)
    (h1 : ∀ u ∈ news, u.oneCell' = true) (h63 : n + m ≤ maxLen) (hbytes : (n + m) * bytes ≤ 140737488355328) (hbase : base ≤ w.heap.size)
    (h : ∀ v' w', w'.ownsRow base e 1 v' (n + m) (xs ++ news) → w.grownBy w' v.ownBlock → wpList P ops Q rest (a.put o.dst v') w') : wpList P ops Q (o :: rest) a w := by
  rcases hu.2 with ⟨rfl, rfl⟩ | ⟨g, cap, cur, rfl, _⟩
  · have hn : news = [] := List.eq_nil_of_length_eq_zero (by have := hu.1; omega)
    subst hn
    refine wpList_append_own_none hgd s x t ho base e i 1 ht hi v n xs hs hown hx (h v w (by simpa using hown) (World.grownBy.refl _ _))
  · refine wpList_append_own w hgd s x t ho base e i z 1 bytes ht hi hz hsize hby hzs (by decide) v n xs hs hown ⟨g, 0, none⟩ m cap news hx hu.1 (hu.cells rfl) h1 h63 hbytes hbase fun v' w' h2 h3 _ => h v' w' h2 h3

theorem ownsRow_below {w w' : World} {B : Nat} {e : TypeId} {size : Nat} {v : Value} {n : Nat} {xs : List Value} (h : w.ownsRow B e size v n xs) (hb : Below w.heap.size w w') : w'.ownsRow B e size v n xs := by
  refine ⟨h.1, ?_⟩
  rcases h.2 with h2 | ⟨g, cap, cur, rfl, hg, hh, r⟩
  · exact .inl h2
  · refine .inr ⟨g, cap, cur, rfl, hg, ?_, r⟩
    rw [hb.block g (Array.getElem?_eq_some_iff.1 hh).1]; exact hh

theorem IsRow.below {k : IntKind} {w w' : World} {a : Option Addr} {len cap : Nat} {zs : List Int} (h : IsRow k w a len cap zs) (hb : Below w.heap.size w w') : IsRow k w' a len cap zs := by
  rcases h with h | ⟨x, rfl, h1, h2, h3, h4, h5⟩
  · exact .inl h
  · refine .inr ⟨x, rfl, h1, h2, h3, fun i hi => ?_, h5⟩
    rw [hb.cell (World.block_lt_of_cell? w _ (h4 i hi))]; exact h4 i hi

theorem IsRow.len_le {w : World} {a : Option Addr} {len cap : Nat} {zs : List Int} (h : IsRow .u8 w a len cap zs) : len ≤ 9223372036854775807 := by
  rcases h with ⟨_, rfl, _⟩ | ⟨x, _, h1, h2, _⟩
  · omega
  · unfold maxLen at h2; omega

theorem IsRow.take {w : World} {a : Option Addr} {len cap : Nat} {zs : List Int} (h : IsRow .u8 w a len cap zs) : (∀ x ∈ zs.take len, 0 ≤ x ∧ x < 256) := by
  rcases h with ⟨_, rfl, _, rfl⟩ | ⟨x, _, h1, h2, h3, _, h5⟩
  · simp
  · intro x hx
    have := bounds_u8 (h5 x (List.mem_of_mem_take hx))
    omega

theorem text_map (c s : List Int) : (34 :: Plain.esc c ++ [34]).map (Value.int .u8) ++ s.map (Value.int .u8) = (Plain.text c s).map (Value.int .u8) := by simp [Plain.text]

set_option maxHeartbeats 1000000 in
theorem law_main (a0 : Option Addr) (len0 cap0 : Nat) (z0 : List Int) (a1 : Option Addr) (len1 cap1 : Nat) (z1 : List Int) (w : World) (w0 : IsRow .u8 w a0 len0 cap0 z0) (w1 : IsRow .u8 w a1 len1 cap1 z1)
    (h0 : len0 ≤ 262144) (h1 : len1 ≤ 262144) :
    Calls Try.prog 6 #[.slice a0 len0 cap0, .slice a1 len1 cap1] w fun e w' => e = .returned (.bool true) ∧ Below w.heap.size w w' := by
  obtain ⟨i0, hi, hz0, hz1, hz2⟩ := info_parts info5
  have HW1 : Hid (IsRow .u8 w a1 len1 cap1 z1) := w1
  have hbytes := bytes_yes a0 a1 len0 cap0 len1 cap1 w (by omega)
  have hclone := clone_any a0 len0 cap0 z0 w w0 (by omega)
  have HT : Hid (∀ x ∈ z0.take len0, 0 ≤ x ∧ x < 256) := w0.take
  clear w0 w1
  generalize z0.take len0 = c at hclone HT
  go_enter Try.func6, Try.ntmps6
  go_wp2_with (go_at_call 18; refine hbytes.mono ?_; rintro e w ⟨rfl, rfl⟩)
  clear hbytes
  refine hclone.mono ?_
  rintro e x1 ⟨v0, rfl, -, own0, bel1⟩
  clear hclone
  go_wp2_with fail
  refine (clone_any a1 len1 cap1 z1 x1 (HW1.out.below bel1) (by omega)).mono ?_
  rintro e x2 ⟨v1, rfl, -, own1, bel2⟩
  have own0' := ownsRow_below own0 bel2
  clear own0
  generalize z1.take len1 = s at own1
  go_wp2_with fail
  refine (quote_own _ v0 len0 c x2 own0' h0).mono ?_
  rintro e x3 ⟨cp, rfl, own2, bel3⟩
  have own1' := ownsRow_below own1 bel3
  have hc : c.length = len0 := by have := own0'.1; simpa using this
  have hs : s.length = len1 := by have := own1.1; simpa using this
  have hle := (Plain.esc_len c).2
  have hbel : Below w.heap.size w x3 := (bel1.trans (bel2.mono bel1.size)).trans (bel3.mono (Nat.le_trans bel1.size bel2.size))
  have hsz : w.heap.size ≤ x2.heap.size := Nat.le_trans bel1.size bel2.size
  have hsz3 := bel3.size
  clear own0' own1 bel1 bel2 bel3
  have HC : Hid (c.length = len0) := hc
  have HS : Hid (s.length = len1) := hs
  have hle2 : (Plain.esc c).length ≤ 524288 := by omega
  clear hc hs hle
  generalize hE : (Plain.esc c).length = E at own2 hle2 ⊢
  have HE : Hid ((Plain.esc c).length = E) := hE
  clear hE
  go_wp2_with (first
    | (at_builtin; refine wpList_append_rows rfl (.tmp 25) (.tmp 26) 22 rfl x2.heap.size x1.heap.size 5 i0 (.int .u8 0) 1 Try.underlying22 hi hz0 hz1 hz2 rfl _ v1 (E + 2) len1 _ _ rfl rfl own2 own1' (ints_oneCell _ _) (by unfold maxLen; omega) (by omega) hsz3 ?_; intro v' x4 own4 grow4))
  rw [text_map] at own4
  have hb4 : Below w.heap.size w x4 := hbel.grown grow4 (Nat.le_trans hsz hsz3) (fun k hk => by have hk' : x2.heap.size = k := Option.some.inj hk; omega)
  clear grow4 own2 own1' hbel
  refine (zzskip_own _ _ v' c s x4 HT.out (by omega) own4).mono ?_
  rintro e x5 ⟨rfl, rfl⟩
  rw [HE.out, show (((E + 2 : Nat) : Int)) = (E : Int) + 2 from by omega]
  go_wp2_with fail
  go_ret
  exact ⟨by simp, hb4⟩

theorem law_any (a0 : Option Addr) (len0 cap0 : Nat) (z0 : List Int) (a1 : Option Addr) (len1 cap1 : Nat) (z1 : List Int) (w : World) (w0 : IsRow .u8 w a0 len0 cap0 z0) (w1 : IsRow .u8 w a1 len1 cap1 z1) :
    Calls Try.prog 6 #[.slice a0 len0 cap0, .slice a1 len1 cap1] w fun e w' => e = .returned (.bool true) ∧ Below w.heap.size w w' := by
  have m0 := w0.len_le
  have m1 := w1.len_le
  by_cases h : len0 + len1 ≤ 1048576
  · by_cases h0 : len0 ≤ 262144
    · by_cases h1 : len1 ≤ 262144
      · exact law_main a0 len0 cap0 z0 a1 len1 cap1 z1 w w0 w1 h0 h1
      · have hbytes := bytes_yes a0 a1 len0 cap0 len1 cap1 w h
        clear w0 w1
        go_enter Try.func6, Try.ntmps6
        go_wp2_with (go_at_call 18; refine hbytes.mono ?_; rintro e w ⟨rfl, rfl⟩)
        go_ret
        exact ⟨rfl, Below.refl _ _⟩
    · have hbytes := bytes_yes a0 a1 len0 cap0 len1 cap1 w h
      clear w0 w1
      go_enter Try.func6, Try.ntmps6
      go_wp2_with (go_at_call 18; refine hbytes.mono ?_; rintro e w ⟨rfl, rfl⟩)
      go_ret
      exact ⟨rfl, Below.refl _ _⟩
  · have hbytes := bytes_no a0 a1 len0 cap0 len1 cap1 w m0 m1 h
    clear w0 w1
    go_enter Try.func6, Try.ntmps6
    go_wp2_with (go_at_call 18; refine hbytes.mono ?_; rintro e w ⟨rfl, rfl⟩)
    go_ret
    exact ⟨rfl, Below.refl _ _⟩

end Go.Proofs.Qxb6602901a
