/-
  Walks of seat b6603026a: str.
-/
import Derived.Test.Qxb6603026aWord
import Derived.Test.Qxb6603026aClose
namespace Go.Proofs.Qxb6603026a
open Go.RowKit Gram
attribute [local go_sem ↓] Go.wp_at_zero Go.wp_at_succ

section
variable {W : World} {P rb ro n cap : Nat} {raw : List Int} {w : World} {pos : Nat} {sv ev : Value} {T : List (Int × Int)}

theorem mid_u {a p p1 : Nat} (h : Mid raw n a p) (hx : rd raw p = 92) (hp1 : p1 = p + 1) (hn : p1 + 5 ≤ n) (hh : ∀ j, 1 ≤ j → j < 5 → hexB (rd raw (p1 + j)) = true) : Mid raw n a (p1 + 5) := by
  subst hp1
  have h1 := h.esc (by omega) hx
  have q1 := hexB_ne _ (hh 1 (by omega) (by omega))
  have q2 := hexB_ne _ (hh 2 (by omega) (by omega))
  have q3 := hexB_ne _ (hh 3 (by omega) (by omega))
  have q4 := hexB_ne _ (hh 4 (by omega) (by omega))
  exact (((h1.plain (by omega) q1.1 q1.2).plain (by omega) q2.1 q2.2).plain (by omega) q3.1 q3.2).plain (by omega) q4.1 q4.2

def badEsc (e : Int) : Bool := e != 34 && e != 92 && e != 47 && e != 98 && e != 102 && e != 110 && e != 114 && e != 116

set_option maxRecDepth 100000 in
set_option maxHeartbeats 20000000 in
theorem str_any (C : Ctx W P rb ro n raw) (h : PS W P rb ro n cap w pos sv ev T) (hlt : pos < n) :
    Calls Try.prog 42 #[.pointer (some ⟨P, 0, none⟩)] w fun e w' => StrPost W P rb ro n cap raw pos T e w' := by
  have hbig := C.big
  have hpn := h.pn
  have hTl := h.le
  have HC : Hid (Ctx W P rb ro n raw) := C
  have HP0 : Hid (PS W P rb ro n cap w pos sv ev T) := h
  have c0 := h.c0
  have c1 := h.c1
  have fz1 := h.fz 1
  obtain ⟨i0, hi, hz0, hz1, hz2⟩ := info_parts info21
  clear C h
  go_enter Try.func42, Try.ntmps42
  go_wp2
  go_loopg [] (n - (pos + 1)) (fun k wr => ∃ p : Nat, k = n - p ∧ pos < p ∧ PS W P rb ro n cap wr p sv ev T ∧ Mid raw n (pos + 1) p)
  case atStart => exact ⟨pos + 1, rfl, by omega, HP0.out.setPos (pos + 1) _ (by omega) (by omega) (by omega), Mid.refl _ _ _⟩
  case round =>
    clear HP0 c0 c1 fz1
    obtain ⟨p, rfl, hpp, hp, hmid⟩ := hrel
    have HP : Hid (PS W P rb ro n cap wr p sv ev T) := hp
    have HM : Hid (Mid raw n (pos + 1) p) := hmid
    have hpn' := hp.pn
    have c0 := hp.c0
    have c1 := hp.c1
    have fz := hp.fz 1
    clear hmid
    by_cases hl : p < n
    · have c := hp.rc HC.out p hl
      have hb := HC.out.byte p hl
      have i1 : (0 : Int) ≤ (p : Int) := by omega
      have i2 : (p : Int) < (n : Int) := by omega
      clear hp
      generalize hx : rd raw p = x at *
      have HX : Hid (rd raw p = x) := hx
      clear hx
      obtain ⟨hb1, hb2⟩ := hb
      by_cases h34 : x = 34
      · subst h34
        have hC0 := HP.out.toC
        have hSl : (T.map (·.1)).length ≤ pos := by simpa using hTl
        have hEl : (T.map (·.2)).length ≤ pos := by simpa using hTl
        generalize hS : T.map (·.1) = S at *
        generalize hE : T.map (·.2) = E at *
        have HSE : Hid (T.map (·.1) = S ∧ T.map (·.2) = E) := ⟨hS, hE⟩
        have HC0 : Hid (PC W P rb ro n cap wr p sv ev S E) := hC0
        clear hS hE hC0
        go_wp2_with fail
        go_quiet (fail)
        go_wp2
        go_quiet (fail)
        go_upto_region 6 with fail
        go_cut [] (fun wr => PC W P rb ro n cap wr (p + 1) sv ev S E)
        case first =>
          go_wp2
          go_meet
          case rel => exact (HC0.out.drewN _).setPos (p + 1) _ (by omega)
        case rest =>
          clear c0 c1 fz c
          have HC1 : Hid (PC W P rb ro n cap wc (p + 1) sv ev S E) := hcut
          have c2 := hcut.c2
          have fz2 := hcut.fz 2
          have hPl := hcut.lt
          have hso := hcut.so
          have wr32 : IntKind.i32.wrap (pos : Int) = (pos : Int) := IntWalk.i32_in _ (by omega)
          clear hcut
          go_upto_region 8 with (at_builtin; refine wpList_append_lies _ rfl (.tmp 51) (.tmp 54) 42 rfl (P + 1) 21 i0 _ 1 4 Try.underlying42 hi hz0 hz1 hz2 rfl (by omega) sv _ _ rfl (hso.alloc _) ⟨wc.heap.size, 0, none⟩ 1 1 [.int .i32 (pos : Int)] rfl rfl (cell_one_new _ _ _) (by simp [Value.oneCell']) (by omega) (by unfold maxLen; omega) (by omega) (by simp; omega) (wc.heap.size + 1) (by simp) ?_; intro g cp w1 hown1 hgrow hat hlt1; have q2 := blk_c ((HC1.out.alloc _).blkS hgrow) 2; have qf := blk_f ((HC1.out.alloc _).blkS hgrow) 2)
          have HC2 : Hid (PC W P rb ro n cap (w1.setCell ⟨P, 2, none⟩ (.slice (some ⟨g, 0, none⟩) (S.length + 1) cp)) (p + 1) (.slice (some ⟨g, 0, none⟩) (S.length + 1) cp) ev (S ++ [(pos : Int)]) E) := (HC1.out.alloc _).appendS (by simp) hown1 hgrow hat
          clear hown1 hgrow hat q2 qf hso hPl hlt1 HC1 c2 fz2
          generalize w1.setCell ⟨P, 2, none⟩ (.slice (some ⟨g, 0, none⟩) (S.length + 1) cp) = v2 at *
          generalize Value.slice (some ⟨g, 0, none⟩) (S.length + 1) cp = sv' at HC2
          have c1 := HC2.out.c1
          have c3 := HC2.out.c3
          have hPl := HC2.out.lt
          have heo := HC2.out.eo
          have wr32' : IntKind.i32.wrap ((p : Int) + 1) = (p : Int) + 1 := IntWalk.i32_in _ (by omega)
          go_cut [] (fun wr => ∃ ev', PC W P rb ro n cap wr (p + 1) sv' ev' (S ++ [(pos : Int)]) (E ++ [((p : Int) + 1)]))
          case first =>
            go_region_law
              ((refine step_append_lies _ (by rfl) _ _ _ (by rfl) (P + 1) 21 i0 _ 1 4 Try.underlying42 hi hz0 hz1 hz2 rfl (by omega) ev _ _ (by rfl) ((heo.alloc _).drew) ⟨v2.heap.size, 0, none⟩ 1 1 [.int .i32 ((p : Int) + 1)] (by rfl) (by rfl) (World.news_of_block (cs := #[.int .i32 ((p : Int) + 1)]) (t := 21) (fr := (0, 0)) (heap_alloc_new v2 _)) (by simp [Value.oneCell']) (by omega) (by unfold maxLen; omega) (by omega) (by simp; omega) (v2.heap.size + 1) (by simp) ?_; intro g cp w1 hown1 hgrow hat hlt1; have q2 := blk_c ((HC2.out.alloc _).drew.blkE hgrow) 3; have qf := blk_f ((HC2.out.alloc _).drew.blkE hgrow) 3))
            all_goals
              go_wp2
              go_meet
              case rel => exact ⟨_, (HC2.out.alloc _).drew.appendE (by simp) hown1 hgrow hat⟩
          case rest =>
            obtain ⟨ev', hC3⟩ := hcut
            go_wp2
            go_ret
            refine ⟨true, rfl, hC3.below, fun _ => ⟨sv', ev', p, ?_, HM.out p (.here hl HX.out)⟩⟩
            rw [← HSE.out.1, ← HSE.out.2] at hC3
            exact PC.toS (by simpa using hC3) (by simp; omega) (by omega)
      · by_cases h32 : x < 32
        · have e34 : (x == 34) = false := by simpa using h34
          go_wp2_with fail
          go_quiet (fail)
          go_wp2
          go_quiet (fail)
          go_wp2
          go_ret
          exact ⟨false, rfl, (HP.out.drewN _).below, fun h => by cases h⟩
        · by_cases h92 : x = 92
          · subst h92
            clear h34 h32
            obtain ⟨p1, hp1⟩ : ∃ p1, p1 = p + 1 := ⟨_, rfl⟩
            have HP1 : Hid (p1 = p + 1) := hp1
            have hpa : p + 1 ≤ p1 := by omega
            have hpb : p1 ≤ p + 1 := by omega
            clear hp1
            go_wp2_with fail
            go_quiet (fail)
            go_wp2
            go_quiet (fail)
            go_upto_region 13 with fail
            go_cut [] (fun wr => PS W P rb ro n cap wr p1 sv ev T)
            case first =>
              go_wp2
              go_meet
              case rel => exact (HP.out.drewN _).setPos p1 _ (by omega) (by omega) (by omega)
            case rest =>
              clear c0 c1 fz c
              have HQ : Hid (PS W P rb ro n cap wc p1 sv ev T) := hcut
              have c0 := hcut.c0
              have c1 := hcut.c1
              have fz := hcut.fz 1
              by_cases hl1 : p1 < n
              · have c := hcut.rc HC.out p1 hl1
                have hb := HC.out.byte p1 hl1
                have j1 : (0 : Int) ≤ (p1 : Int) := by omega
                have j2 : (p1 : Int) < (n : Int) := by omega
                have j3 : decide ((n : Int) ≤ (p1 : Int)) = false := by simp; omega
                clear hcut
                generalize hy : rd raw p1 = y at *
                have HY : Hid (rd raw p1 = y) := hy
                clear hy
                obtain ⟨hy1, hy2⟩ := hb
                by_cases h117 : y = 117
                · subst h117
                  by_cases h5 : (n : Int) - (p1 : Int) < 5
                  · go_wp2_with fail
                    go_quiet (fail)
                    go_wp2
                    go_quiet (fail)
                    go_wp2
                    go_quiet (fail)
                    go_wp2
                    go_ret
                    exact ⟨false, rfl, ((HQ.out.drewN _).drewN _).below, fun h => by cases h⟩
                  · have e5 : decide ((n : Int) - (p1 : Int) < 5) = false := by simpa using h5
                    have h5' : p1 + 5 ≤ n := by omega
                    clear h5
                    go_wp2_with fail
                    go_quiet (fail)
                    go_wp2
                    go_quiet (fail)
                    go_wp2
                    go_quiet (fail)
                    go_wp2
                    clear c
                    go_loopg [6] 4 (fun k v wr => ∃ t : Nat, k = 5 - t ∧ 1 ≤ t ∧ t ≤ 5 ∧ v = .int .i64 t ∧ PS W P rb ro n cap wr p1 sv ev T ∧ ∀ j, 1 ≤ j → j < t → hexB (rd raw (p1 + j)) = true)
                    case atStart => exact ⟨1, rfl, Nat.le_refl _, by omega, rfl, (HQ.out.drewN _).drewN _, fun j h1 h2 => by omega⟩
                    case round =>
                      clear c0 c1 fz
                      obtain ⟨t, rfl, ht1, ht5, rfl, hps, hhex⟩ := hrel
                      have HPS : Hid (PS W P rb ro n cap wr p1 sv ev T) := hps
                      have HH : Hid (∀ j, 1 ≤ j → j < t → hexB (rd raw (p1 + j)) = true) := hhex
                      have c0 := hps.c0
                      have c1 := hps.c1
                      have fz := hps.fz 1
                      clear hhex
                      by_cases ht : t ≤ 4
                      · obtain ⟨u, hu⟩ : ∃ u, u = p1 + t := ⟨_, rfl⟩
                        have hwr := wrap_sum hu (by omega)
                        have c := hps.rc HC.out u (by omega)
                        have HU : Hid (u = p1 + t) := hu
                        have k1 : (0 : Int) ≤ (u : Int) := by omega
                        have k2 : (u : Int) < (n : Int) := by omega
                        have k3 : (t : Int) ≤ 4 := by omega
                        have hw := hex_any (rd raw u)
                        clear hu hps
                        generalize hz : rd raw u = z at *
                        have HZ : Hid (rd raw u = z) := hz
                        clear hz
                        cases hxz : hexB z with
                        | true =>
                          rw [hxz] at hw
                          go_wp2_with fail
                          go_quiet ((go_at_call 46; exact Calls.quiet_of_same (hw _)))
                          go_wp2
                          go_roundg (5 - (t + 1))
                          case measure => omega
                          case rel =>
                            refine ⟨t + 1, rfl, by omega, by omega, by go_num, HPS.out.drewN _, fun j h1 h2 => ?_⟩
                            by_cases e : j = t
                            · subst e; rw [← HU.out, HZ.out]; exact hxz
                            · exact HH.out j h1 (by omega)
                        | false =>
                          rw [hxz] at hw
                          go_wp2_with fail
                          go_quiet ((go_at_call 46; exact Calls.quiet_of_same (hw _)))
                          go_wp2
                          go_ret
                          exact ⟨false, rfl, (HPS.out.drewN _).below, fun h => by cases h⟩
                      · obtain rfl : t = 5 := by omega
                        clear hps
                        go_wp2
                        go_roundg (n - (p1 + 5))
                        case measure => omega
                        case rel =>
                          refine ⟨p1 + 5, rfl, by omega, HPS.out.setPos (p1 + 5) _ (by omega) (by omega) (by omega), ?_⟩
                          exact mid_u HM.out HX.out HP1.out (by omega) HH.out
                · have e117 : (y == 117) = false := by simpa using h117
                  clear h117
                  go_wp2_with fail
                  go_quiet (fail)
                  go_wp2
                  go_quiet (fail)
                  go_upto_region 26 with fail
                  go_cut [170] (fun v wr => v = .bool (badEsc y) ∧ PS W P rb ro n cap wr p1 sv ev T)
                  case first =>
                   as_aux_lemma =>
                    have HQ' : Hid (PS W P rb ro n cap wc p1 sv ev T) := HQ.out
                    clear c c0 c1 fz
                    by_cases hall : y ≠ 34 ∧ y ≠ 92 ∧ y ≠ 47 ∧ y ≠ 98 ∧ y ≠ 102 ∧ y ≠ 110 ∧ y ≠ 114 ∧ y ≠ 116
                    · have e1 : (y != 34) = true := by simp; omega
                      have e2 : (y != 92) = true := by simp; omega
                      have e3 : (y != 47) = true := by simp; omega
                      have e4 : (y != 98) = true := by simp; omega
                      have e5 : (y != 102) = true := by simp; omega
                      have e6 : (y != 110) = true := by simp; omega
                      have e7 : (y != 114) = true := by simp; omega
                      have e8 : (y != 116) = true := by simp; omega
                      have HB : Hid (badEsc y = true) := by unfold Hid badEsc; rw [e1, e2, e3, e4, e5, e6, e7, e8]; rfl
                      clear hall
                      go_wp2
                      go_meet
                      case rel => exact ⟨by rw [HB.out], HQ'.out.drewN _⟩
                    · rcases (show y = 34 ∨ y = 92 ∨ y = 47 ∨ y = 98 ∨ y = 102 ∨ y = 110 ∨ y = 114 ∨ y = 116 by omega) with h | h | h | h | h | h | h | h
                      all_goals
                        subst h
                        clear hall
                        go_wp2
                        go_meet
                        case rel => exact ⟨rfl, HQ'.out.drewN _⟩
                  case rest =>
                    obtain ⟨rfl, hq2⟩ := hcut
                    clear c c0 c1 fz
                    have c1 := hq2.c1
                    have fz := hq2.fz 1
                    cases hbe : badEsc y with
                    | true =>
                      go_wp2
                      go_ret
                      exact ⟨false, rfl, hq2.below, fun h => by cases h⟩
                    | false =>
                      have HQ2 : Hid (PS W P rb ro n cap wc p1 sv ev T) := hq2
                      clear hq2
                      go_wp2
                      go_roundg (n - (p1 + 1))
                      case measure => omega
                      case rel =>
                        refine ⟨p1 + 1, rfl, by omega, HQ2.out.setPos (p1 + 1) _ (by omega) (by omega) (by omega), ?_⟩
                        rw [HP1.out]
                        exact HM.out.esc hl HX.out
              · have j3 : decide ((n : Int) ≤ (p1 : Int)) = true := by simp; omega
                clear hcut
                go_wp2_with fail
                go_quiet (fail)
                go_wp2
                go_ret
                exact ⟨false, rfl, (HQ.out.drewN _).below, fun h => by cases h⟩
          · have e34 : (x == 34) = false := by simpa using h34
            have e92 : (x == 92) = false := by simpa using h92
            have e32 : decide (x < 32) = false := by simpa using h32
            have H34 : Hid (x ≠ 34) := h34
            have H92 : Hid (x ≠ 92) := h92
            clear h32 h34 h92
            go_wp2_with fail
            go_quiet (fail)
            go_wp2
            go_quiet (fail)
            go_wp2
            go_roundg (n - (p + 1))
            case measure => omega
            case rel => exact ⟨p + 1, rfl, by omega, (HP.out.drewN _).setPos (p + 1) _ (by omega) (by omega) (by omega), HM.out.plain hl (by rw [HX.out]; exact H34.out) (by rw [HX.out]; exact H92.out)⟩
    · have i2 : decide ((p : Int) < (n : Int)) = false := by simp; omega
      clear hp
      go_wp2_with fail
      go_quiet (fail)
      go_wp2
      go_ret
      exact ⟨false, rfl, (HP.out.drewN _).below, fun h => by cases h⟩
end
end Go.Proofs.Qxb6603026a
