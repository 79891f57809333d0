/-
  Walks of seat b6603026a: number.
-/
import Derived.Test.Qxb6603026aWord
namespace Go.Proofs.Qxb6603026a
open Go.RowKit Gram
attribute [local go_sem ↓] Go.wp_at_zero Go.wp_at_succ

section
variable {W : World} {P rb ro n cap : Nat} {raw : List Int} {w : World} {pos : Nat} {sv ev : Value} {T : List (Int × Int)}

/-- A run of bytes of a number or a word. -/
def Lits (raw : List Int) (n a b : Nat) : Prop := a ≤ b ∧ b ≤ n ∧ ∀ j, a ≤ j → j < b → isLit (rd raw j)
theorem Lits.refl {a : Nat} (h : a ≤ n) : Lits raw n a a := ⟨Nat.le_refl _, h, fun j h1 h2 => by omega⟩
theorem Lits.succ {a b : Nat} (h : Lits raw n a b) (hb : b < n) (hw : isLit (rd raw b)) : Lits raw n a (b + 1) :=
  ⟨by have := h.1; omega, by omega, fun j h1 h2 => by
    by_cases e : j = b
    · subst e; exact hw
    · exact h.2.2 j h1 (by omega)⟩
theorem Lits.digs {a b c : Nat} (h : Lits raw n a b) (hd : Digs raw n b c) : Lits raw n a c :=
  ⟨by have := h.1; have := hd.1; omega, hd.2.1, fun j h1 h2 => by
    by_cases e : j < b
    · exact h.2.2 j h1 e
    · have := hd.2.2 j (by omega) h2
      unfold isLit; omega⟩

theorem pk_hit {p : Nat} {x : Int} (h : pk raw n p = x) (hx : 0 ≤ x) : p < n ∧ rd raw p = x := by
  unfold pk at h
  split at h
  · exact ⟨by assumption, h⟩
  · omega
theorem digAt_hit {p : Nat} (hp : p < n) (h : 48 ≤ rd raw p ∧ rd raw p ≤ 57) : digAt raw n p = true := by
  simp [digAt, hp, dgB_iff, h]

/-- What 'number' leaves. -/
def NumPost (W : World) (P rb ro n cap : Nat) (raw : List Int) (pos : Nat) (T : List (Int × Int)) (e : Ending) (w' : World) : Prop :=
  ∃ b, e = .returned (.bool b) ∧ Below P W w' ∧ (b = true → ∃ sv' ev' p, PS W P rb ro n cap w' p sv' ev' (T ++ [((pos : Int), (p : Int))]) ∧ pos < p ∧ Lits raw n pos p)

set_option maxRecDepth 100000 in
set_option maxHeartbeats 4000000 in
theorem number_any (C : Ctx W P rb ro n raw) (h : PS W P rb ro n cap w pos sv ev T) :
    Calls Try.prog 43 #[.pointer (some ⟨P, 0, none⟩)] w fun e w' => NumPost W P rb ro n cap raw pos T e w' := by
  have hbig := C.big
  have hpn := h.pn
  have hTl := h.le
  have HC : Hid (Ctx W P rb ro n raw) := C
  have hpk0 := peek_any C h
  generalize hx0 : pk raw n pos = x0 at hpk0
  have HX0 : Hid (pk raw n pos = x0) := hx0
  have c1 := h.c1
  obtain ⟨i0, hi, hz0, hz1, hz2⟩ := info_parts info21
  clear C h hx0
  go_enter Try.func43, Try.ntmps43
  go_upto_if 11 with (go_at_call 39; refine hpk0.mono ?_; rintro e w1 ⟨rfl, hps1⟩)
  clear c1 hpk0
  go_cut [] (fun wr => ∃ p, PS W P rb ro n cap wr p sv ev T ∧ Lits raw n pos p)
  case first =>
    have HP1 : Hid (PS W P rb ro n cap w1 pos sv ev T) := hps1
    have c1 := hps1.c1
    have fz := hps1.fz 1
    clear hps1
    by_cases hx : x0 = 45
    · subst hx
      obtain ⟨hl, hr⟩ := pk_hit HX0.out (by decide)
      have HR : Hid (rd raw pos = 45) := hr
      clear hr
      go_wp2
      go_meet
      case rel => exact ⟨pos + 1, HP1.out.setPos (pos + 1) _ (by omega) (by omega) (by omega), (Lits.refl (by omega)).succ hl (by rw [HR.out]; unfold isLit; decide)⟩
    · have hx' : (x0 == 45) = false := by simpa using hx
      clear hx
      go_wp2
      go_meet
      case rel => exact ⟨pos, HP1.out, Lits.refl (by omega)⟩
  case rest =>
    clear HX0 hps1
    obtain ⟨p, hps, hnum⟩ := hcut
    have HP : Hid (PS W P rb ro n cap wc p sv ev T) := hps
    have HN : Hid (Lits raw n pos p) := hnum
    have hpp := hnum.1
    have hpn' := hps.pn
    have hpk1 := peek_any HC.out hps
    generalize hx1 : pk raw n p = x1 at hpk1
    have HX1 : Hid (pk raw n p = x1) := hx1
    clear hx1 hps hnum
    go_upto_if 22 with (go_at_call 39; refine hpk1.mono ?_; rintro e w2 ⟨rfl, hps2⟩)
    clear hpk1
    go_cut [] (fun wr => ∃ p', PS W P rb ro n cap wr p' sv ev T ∧ Lits raw n pos p' ∧ pos < p')
    case first =>
      have HP2 : Hid (PS W P rb ro n cap w2 p sv ev T) := hps2
      have c1 := hps2.c1
      have fz := hps2.fz 1
      by_cases hx : x1 = 48
      · subst hx
        obtain ⟨hl, hr⟩ := pk_hit HX1.out (by decide)
        have HR : Hid (rd raw p = 48) := hr
        clear hr hps2
        go_wp2
        go_meet
        case rel => exact ⟨p + 1, HP2.out.setPos (p + 1) _ (by omega) (by omega) (by omega), HN.out.succ hl (by rw [HR.out]; unfold isLit; decide), by omega⟩
      · have hx' : (x1 == 48) = false := by simpa using hx
        by_cases hd : 49 ≤ x1 ∧ x1 ≤ 57
        · obtain ⟨hd1, hd2⟩ := hd
          obtain ⟨hl, hr⟩ := pk_hit HX1.out (by omega)
          have hdg := digits_any HC.out hps2
          rw [digAt_hit hl (by omega)] at hdg
          clear hps2 hr hx
          go_wp2_with (go_at_call 47; refine hdg.mono ?_; rintro e w3 ⟨rfl, p', hps3, hdgs, hgt⟩)
          go_meet
          case rel => exact ⟨p', hps3, HN.out.digs hdgs, by have := hgt (by trivial); omega⟩
        · by_cases hd1 : 49 ≤ x1
          · have hd2 : ¬ x1 ≤ 57 := by omega
            clear hps2 hd hx
            go_wp2
            go_ret
            exact ⟨false, rfl, HP2.out.below, fun h => by cases h⟩
          · have hd2 : decide (49 ≤ x1) = false := by simpa using hd1
            clear hps2 hd hx
            go_wp2
            go_ret
            exact ⟨false, rfl, HP2.out.below, fun h => by cases h⟩
    case rest =>
      clear HX1 hps2 HP HN hpp hpn'
      obtain ⟨q, hps, hnum, hpq⟩ := hcut
      have HQ : Hid (PS W P rb ro n cap wc q sv ev T) := hps
      have HN : Hid (Lits raw n pos q) := hnum
      have hpn' := hps.pn
      have hpk2 := peek_any HC.out hps
      generalize hx2 : pk raw n q = x2 at hpk2
      have HX2 : Hid (pk raw n q = x2) := hx2
      clear hx2 hps hnum
      go_upto_if 40 with (go_at_call 39; refine hpk2.mono ?_; rintro e w3 ⟨rfl, hps3⟩)
      clear hpk2
      go_cut [] (fun wr => ∃ p', PS W P rb ro n cap wr p' sv ev T ∧ Lits raw n pos p' ∧ pos < p')
      case first =>
        have HP3 : Hid (PS W P rb ro n cap w3 q sv ev T) := hps3
        have c1 := hps3.c1
        have fz := hps3.fz 1
        clear hps3
        by_cases hx : x2 = 46
        · subst hx
          obtain ⟨hl, hr⟩ := pk_hit HX2.out (by decide)
          have HR : Hid (rd raw q = 46) := hr
          have hps4 := HP3.out.setPos (q + 1) ((q : Int) + 1) (by omega) (by omega) (by omega)
          have hdg := digits_any HC.out hps4
          clear hr hps4
          cases hdb : digAt raw n (q + 1) with
          | false =>
            rw [hdb] at hdg
            go_wp2_with (go_at_call 47; refine hdg.mono ?_; rintro e w5 ⟨rfl, p', hps5, hdgs, hgt⟩)
            go_ret
            exact ⟨false, rfl, hps5.below, fun h => by cases h⟩
          | true =>
            rw [hdb] at hdg
            go_wp2_with (go_at_call 47; refine hdg.mono ?_; rintro e w5 ⟨rfl, p', hps5, hdgs, hgt⟩)
            go_meet
            case rel => exact ⟨p', hps5, (HN.out.succ hl (by rw [HR.out]; unfold isLit; decide)).digs hdgs, by have := hdgs.1; omega⟩
        · have hx' : (x2 == 46) = false := by simpa using hx
          clear hx
          go_wp2
          go_meet
          case rel => exact ⟨q, HP3.out, HN.out, hpq⟩
      case rest =>
        clear HX2 hps3 HQ HN hpn' hpq
        obtain ⟨q, hps, hnum, hpq⟩ := hcut
        have HQ : Hid (PS W P rb ro n cap wc q sv ev T) := hps
        have HN : Hid (Lits raw n pos q) := hnum
        have hpn' := hps.pn
        have hpk2 := peek_any HC.out hps
        generalize hx2 : pk raw n q = x2 at hpk2
        have HX2 : Hid (pk raw n q = x2) := hx2
        clear hx2 hps hnum
        obtain ⟨be, hbe⟩ : ∃ be : Bool, be = (x2 == 101 || x2 == 69) := ⟨_, rfl⟩
        have HBE : Hid (be = (x2 == 101 || x2 == 69)) := hbe
        clear hbe
        go_upto_region 15 with (go_at_call 39; refine hpk2.mono ?_; rintro e w3 ⟨rfl, hps3⟩)
        clear hpk2
        have HP3 : Hid (PS W P rb ro n cap w3 q sv ev T) := hps3
        clear hps3
        go_cut [58] (fun v wr => v = .bool be ∧ wr = w3)
        case first =>
          by_cases h1 : x2 = 101
          · subst h1
            go_wp2
            go_meet
            case rel => exact ⟨by rw [HBE.out]; rfl, rfl⟩
          · by_cases h2 : x2 = 69
            · subst h2
              go_wp2
              go_meet
              case rel => exact ⟨by rw [HBE.out]; rfl, rfl⟩
            · have e1 : (x2 == 101) = false := by simpa using h1
              have e2 : (x2 == 69) = false := by simpa using h2
              have HB : Hid (be = false) := by have := HBE.out; rw [e1, e2] at this; exact this
              clear h1 h2
              go_wp2
              go_meet
              case rel => exact ⟨by rw [HB.out], rfl⟩
        case rest =>
          obtain ⟨rfl, rfl⟩ := hcut
          go_upto_if 58 with fail
          go_cut [] (fun wr => ∃ p', PS W P rb ro n cap wr p' sv ev T ∧ Lits raw n pos p' ∧ pos < p')
          case first =>
            have c1 := HP3.out.c1
            have fz := HP3.out.fz 1
            cases be with
            | false =>
              go_wp2
              go_meet
              case rel => exact ⟨q, HP3.out, HN.out, hpq⟩
            | true =>
              have hx2 : x2 = 101 ∨ x2 = 69 := by have := HBE.out.symm; simpa using this
              obtain ⟨hl, hr⟩ := pk_hit HX2.out (by omega)
              have HL : Hid (Lits raw n pos (q + 1)) := HN.out.succ hl (by rw [hr]; unfold isLit; omega)
              have hps4 := HP3.out.setPos (q + 1) ((q : Int) + 1) (by omega) (by omega) (by omega)
              have hpk3 := peek_any HC.out hps4
              generalize hx3 : pk raw n (q + 1) = x3 at hpk3
              have HX3 : Hid (pk raw n (q + 1) = x3) := hx3
              clear hx2 hr hps4 hx3
              go_upto_region 18 with (go_at_call 39; refine hpk3.mono ?_; rintro e w4 ⟨rfl, hps5⟩)
              clear hpk3 c1 fz
              have HP5 : Hid (PS W P rb ro n cap w4 (q + 1) sv ev T) := hps5
              have c1 := hps5.c1
              have fz := hps5.fz 1
              by_cases hsg : x3 = 43 ∨ x3 = 45
              · obtain ⟨hl2, hr2⟩ := pk_hit HX3.out (by omega)
                have HL2 : Hid (Lits raw n pos (q + 1 + 1)) := HL.out.succ hl2 (by rw [hr2]; unfold isLit; omega)
                have hps6 := hps5.setPos (q + 1 + 1) ((q : Int) + 1 + 1) (by omega) (by omega) (by omega)
                have hdg := digits_any HC.out hps6
                clear hps5 hps6 hr2
                rcases hsg with h | h
                all_goals
                  subst h
                  cases hdb : digAt raw n (q + 1 + 1) with
                  | false =>
                    rw [hdb] at hdg
                    go_wp2_with (go_at_call 47; refine hdg.mono ?_; rintro e w7 ⟨rfl, p', hps7, hdgs, hgt⟩)
                    go_ret
                    exact ⟨false, rfl, hps7.below, fun h => by cases h⟩
                  | true =>
                    rw [hdb] at hdg
                    go_wp2_with (go_at_call 47; refine hdg.mono ?_; rintro e w7 ⟨rfl, p', hps7, hdgs, hgt⟩)
                    go_meet
                    case rel => exact ⟨p', hps7, HL2.out.digs hdgs, by have := hdgs.1; omega⟩
              · have e1 : (x3 == 43) = false := by rw [beq_eq_false_iff_ne]; omega
                have e2 : (x3 == 45) = false := by rw [beq_eq_false_iff_ne]; omega
                have hdg := digits_any HC.out hps5
                clear hps5 hsg
                cases hdb : digAt raw n (q + 1) with
                | false =>
                  rw [hdb] at hdg
                  go_wp2_with (go_at_call 47; refine hdg.mono ?_; rintro e w7 ⟨rfl, p', hps7, hdgs, hgt⟩)
                  go_ret
                  exact ⟨false, rfl, hps7.below, fun h => by cases h⟩
                | true =>
                  rw [hdb] at hdg
                  go_wp2_with (go_at_call 47; refine hdg.mono ?_; rintro e w7 ⟨rfl, p', hps7, hdgs, hgt⟩)
                  go_meet
                  case rel => exact ⟨p', hps7, HL.out.digs hdgs, by have := hdgs.1; omega⟩
          case rest =>
            clear HX2 HP3 HQ HN hpn' hpq HBE
            obtain ⟨p, hps, hnum, hpq⟩ := hcut
            have hpn' := hps.pn
            have hC0 := hps.toC
            have hSl : (T.map (·.1)).length ≤ pos := by simpa using hTl
            have hEl : (T.map (·.2)).length ≤ pos := by simpa using hTl
            have HN : Hid (Lits raw n pos p) := hnum
            generalize hS : T.map (·.1) = S at *
            generalize hE : T.map (·.2) = E at *
            have HSE : Hid (T.map (·.1) = S ∧ T.map (·.2) = E) := ⟨hS, hE⟩
            have HC1 : Hid (PC W P rb ro n cap wc p sv ev S E) := hC0
            have c2 := hC0.c2
            have fz2 := hC0.fz 2
            have hPl := hC0.lt
            have hso := hC0.so
            have wr32 : IntKind.i32.wrap (pos : Int) = (pos : Int) := IntWalk.i32_in _ (by omega)
            clear hS hE hC0 hps hnum
            go_upto_region 23 with (at_builtin; refine wpList_append_lies _ rfl (.tmp 88) (.tmp 91) 42 rfl (P + 1) 21 i0 _ 1 4 Try.underlying42 hi hz0 hz1 hz2 rfl (by omega) sv _ _ rfl (hso.alloc _) ⟨wc.heap.size, 0, none⟩ 1 1 [.int .i32 (pos : Int)] rfl rfl (cell_one_new _ _ _) (by simp [Value.oneCell']) (by omega) (by unfold maxLen; omega) (by omega) (by simp; omega) (wc.heap.size + 1) (by simp) ?_; intro g cp w1 hown1 hgrow hat hlt1; have q2 := blk_c ((HC1.out.alloc _).blkS hgrow) 2; have qf := blk_f ((HC1.out.alloc _).blkS hgrow) 2)
            have HC2 : Hid (PC W P rb ro n cap (w1.setCell ⟨P, 2, none⟩ (.slice (some ⟨g, 0, none⟩) (S.length + 1) cp)) p (.slice (some ⟨g, 0, none⟩) (S.length + 1) cp) ev (S ++ [(pos : Int)]) E) := (HC1.out.alloc _).appendS (by simp) hown1 hgrow hat
            clear hown1 hgrow hat q2 qf hso hPl hlt1 HC1 c2 fz2
            generalize w1.setCell ⟨P, 2, none⟩ (.slice (some ⟨g, 0, none⟩) (S.length + 1) cp) = v2 at *
            generalize Value.slice (some ⟨g, 0, none⟩) (S.length + 1) cp = sv' at HC2
            have c1 := HC2.out.c1
            have c3 := HC2.out.c3
            have hPl := HC2.out.lt
            have heo := HC2.out.eo
            have wr32' : IntKind.i32.wrap (p : Int) = (p : Int) := IntWalk.i32_in _ (by omega)
            go_cut [] (fun wr => ∃ ev', PC W P rb ro n cap wr p sv' ev' (S ++ [(pos : Int)]) (E ++ [(p : Int)]))
            case first =>
              go_region_law
                ((refine step_append_lies _ (by rfl) _ _ _ (by rfl) (P + 1) 21 i0 _ 1 4 Try.underlying42 hi hz0 hz1 hz2 rfl (by omega) ev _ _ (by rfl) ((heo.alloc _).drew) ⟨v2.heap.size, 0, none⟩ 1 1 [.int .i32 (p : Int)] (by rfl) (by rfl) (World.news_of_block (cs := #[.int .i32 (p : Int)]) (t := 21) (fr := (0, 0)) (heap_alloc_new v2 _)) (by simp [Value.oneCell']) (by omega) (by unfold maxLen; omega) (by omega) (by simp; omega) (v2.heap.size + 1) (by simp) ?_; intro g cp w1 hown1 hgrow hat hlt1; have q2 := blk_c ((HC2.out.alloc _).drew.blkE hgrow) 3; have qf := blk_f ((HC2.out.alloc _).drew.blkE hgrow) 3))
              all_goals
                go_wp2
                go_meet
                case rel => exact ⟨_, (HC2.out.alloc _).drew.appendE (by simp) hown1 hgrow hat⟩
            case rest =>
              obtain ⟨ev', hC3⟩ := hcut
              go_wp2
              go_ret
              refine ⟨true, rfl, hC3.below, fun _ => ⟨sv', ev', p, ?_, hpq, HN.out⟩⟩
              rw [← HSE.out.1, ← HSE.out.2] at hC3
              exact PC.toS (by simpa using hC3) (by simp; omega) (by omega)
end
end Go.Proofs.Qxb6603026a
