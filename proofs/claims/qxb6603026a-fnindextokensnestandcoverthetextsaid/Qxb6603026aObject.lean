/-
  Walks of seat b6603026a: object.
-/
import Derived.Test.Qxb6603026aClose
import Derived.Test.Qxb6603026aNumber
namespace Go.Proofs.Qxb6603026a
open Go.RowKit Gram
attribute [local go_sem ↓] Go.wp_at_zero Go.wp_at_succ

section
variable {W : World} {P rb ro n cap : Nat} {raw : List Int} {w : World} {pos : Nat} {sv ev : Value} {T : List (Int × Int)}

set_option maxRecDepth 100000 in
set_option maxHeartbeats 4000000 in
theorem object_any (C : Ctx W P rb ro n raw) (d : Nat) (hd : d ≤ 10000) (hSt : SSaid W P rb ro n cap raw)
    (hV : VSaid W P rb ro n cap raw d)
    (h : PS W P rb ro n cap w pos sv ev T) (hlt : pos < n) (hc : rd raw pos = 123) :
    Calls Try.prog 40 #[.pointer (some ⟨P, 0, none⟩), .int .i64 (d : Int)] w fun e w' => ValPost W P rb ro n cap raw pos T e w' := by
  have hbig := C.big
  have hTl := h.le
  have HC : Hid (Ctx W P rb ro n raw) := C
  have HI : Hid (In raw n T.length pos (pos + 1) []) := In.begin _ _ hlt (.inl hc)
  obtain ⟨sa, sc, rfl⟩ := h.svform
  obtain ⟨i0, hi, hz0, hz1, hz2⟩ := info_parts info21
  have hC0 := h.toC
  have hSl : (T.map (·.1)).length ≤ pos := by simpa using hTl
  have hEl : (T.map (·.2)).length ≤ pos := by simpa using hTl
  generalize hS : T.map (·.1) = S at *
  generalize hE : T.map (·.2) = E at *
  have HSE : Hid (T.map (·.1) = S ∧ T.map (·.2) = E) := ⟨hS, hE⟩
  have HC0 : Hid (PC W P rb ro n cap w pos (.slice sa T.length sc) ev S E) := hC0
  have c1 := hC0.c1
  have c2 := hC0.c2
  have hPl := hC0.lt
  have hso := hC0.so
  have wr32 : IntKind.i32.wrap (pos : Int) = (pos : Int) := IntWalk.i32_in _ (by omega)
  clear hC0 hS hE C h hc
  go_enter Try.func40, Try.ntmps40
  go_upto_region 4 with fail
  go_cut [] (fun wr => ∃ sv', PC W P rb ro n cap wr pos sv' ev (S ++ [(pos : Int)]) E)
  case first =>
    go_region_law
      ((refine step_append_lies _ (by rfl) _ _ _ (by rfl) (P + 1) 21 i0 _ 1 4 Try.underlying42 hi hz0 hz1 hz2 rfl (by omega) _ _ _ (by rfl) ((hso.alloc _).drew) ⟨w.heap.size, 0, none⟩ 1 1 [.int .i32 (pos : Int)] (by rfl) (by rfl) (World.news_of_block (cs := #[.int .i32 (pos : Int)]) (t := 21) (fr := (0, 0)) (heap_alloc_new w _)) (by simp [Value.oneCell']) (by omega) (by unfold maxLen; omega) (by omega) (by simp; omega) (w.heap.size + 1) (by simp) ?_; intro g cp w1 hown1 hgrow hat hlt1; have q2 := blk_c ((HC0.out.alloc _).drew.blkS hgrow) 2; have qf := blk_f ((HC0.out.alloc _).drew.blkS hgrow) 2))
    all_goals
      go_wp2
      go_meet
      case rel => exact ⟨_, (HC0.out.alloc _).drew.appendS (by simp) hown1 hgrow hat⟩
  case rest =>
    clear c1 c2 hPl hso wr32 HC0
    obtain ⟨sv', hC1⟩ := hcut
    have HC1 : Hid (PC W P rb ro n cap wc pos sv' ev (S ++ [(pos : Int)]) E) := hC1
    have c3 := hC1.c3
    have hPl := hC1.lt
    have heo := hC1.eo
    clear hC1
    go_upto_region 6 with (at_builtin; refine wpList_append_lies _ rfl (.tmp 32) (.tmp 33) 42 rfl (P + 1) 21 i0 _ 1 4 Try.underlying42 hi hz0 hz1 hz2 rfl (by omega) ev _ _ rfl (heo.alloc _) ⟨wc.heap.size, 0, none⟩ 1 1 [.int .i32 0] rfl rfl (cell_one_new _ _ _) (by simp [Value.oneCell']) (by omega) (by unfold maxLen; omega) (by omega) (by simp; omega) (wc.heap.size + 1) (by simp) ?_; intro g cp w1 hown1 hgrow hat hlt1; have q2 := blk_c ((HC1.out.alloc _).blkE hgrow) 3; have qf := blk_f ((HC1.out.alloc _).blkE hgrow) 3)
    have hC2 := (HC1.out.alloc _).appendE (by simp) hown1 hgrow hat
    have HC2 : Hid (PC W P rb ro n cap (w1.setCell ⟨P, 3, none⟩ (.slice (some ⟨g, 0, none⟩) (E.length + 1) cp)) pos sv' (.slice (some ⟨g, 0, none⟩) (E.length + 1) cp) (S ++ [(pos : Int)]) (E ++ [0])) := hC2
    clear hC2 hown1 hgrow hat q2 qf hlt1 HC1 c3 heo hPl
    generalize w1.setCell ⟨P, 3, none⟩ (.slice (some ⟨g, 0, none⟩) (E.length + 1) cp) = v2 at *
    generalize Value.slice (some ⟨g, 0, none⟩) (E.length + 1) cp = ev' at HC2
    have c1 := HC2.out.c1
    have fz := HC2.out.fz 1
    go_cut [] (fun wr => PS W P rb ro n cap wr (pos + 1) sv' ev' (T ++ [((pos : Int), 0)]))
    case first =>
      go_wp2
      go_meet
      case rel => exact (HC2.out.setPos (pos + 1) _ (by omega)).toPS2 HSE.out.1 HSE.out.2 (by omega) (by omega)
    case rest =>
      clear c1 fz HC2 HSE hSl hEl
      have hsp := space_any HC.out hcut
      go_wp2_with fail
      refine hsp.mono ?_
      rintro e w3 ⟨rfl, p3, hps3, hs3⟩
      clear hsp hcut
      have HI3 : Hid (In raw n T.length pos p3 []) := HI.out.spaces hs3
      have hp3 := hs3.1
      have hpn3 := hps3.pn
      have hpk := peek_any HC.out hps3
      generalize hx : pk raw n p3 = x at hpk
      have HX : Hid (pk raw n p3 = x) := hx
      clear hx hps3 hs3 HI
      go_wp2_with fail
      refine hpk.mono ?_
      rintro e w4 ⟨rfl, hps4⟩
      clear hpk
      by_cases hx : x = 125
      · subst hx
        obtain ⟨hl, hr⟩ := pk_hit HX.out (by decide)
        have HR : Hid (Val raw n pos T.length (p3 + 1) [((pos : Int), ((T.length + 1 : Nat) : Int))]) := HI3.out.close hl (.inl hr)
        have HP4 : Hid (PS W P rb ro n cap w4 p3 sv' ev' (T ++ [((pos : Int), 0)])) := hps4
        have c1 := hps4.c1
        have fz := hps4.fz 1
        clear hr hps4 HI3 HX
        go_upto_region 10 with fail
        have HP5 : Hid (PS W P rb ro n cap (w4.setCell ⟨P, 1, none⟩ (.int .i64 ((p3 : Int) + 1))) (p3 + 1) sv' ev' (T ++ [((pos : Int), 0)])) := HP4.out.setPos (p3 + 1) _ (by omega) (by simp; omega) (by omega)
        clear c1 fz HP4
        generalize w4.setCell ⟨P, 1, none⟩ (.int .i64 ((p3 : Int) + 1)) = v at *
        obtain ⟨L, hL⟩ : ∃ L, L = (T ++ [((pos : Int), (0 : Int))]).length := ⟨_, rfl⟩
        obtain ⟨a1, b1, e1⟩ := HP5.out.svform
        obtain ⟨g1, b2, e2, hg1⟩ := HP5.out.evform (by simp)
        rw [← hL] at e1 e2
        subst e1 e2
        have c2 := HP5.out.c2
        have c3 := HP5.out.c3
        have hec := HP5.out.endCell hL
        obtain ⟨hec1, hec2⟩ := hec
        have HL : Hid (L = (T ++ [((pos : Int), (0 : Int))]).length) := hL
        have hL1 : L = T.length + 1 := by rw [hL]; simp
        have hL2 : T.length < L := by omega
        have hL3 : L ≤ n + 1 := by omega
        have HL1 : Hid (L = T.length + 1) := hL1
        clear hL hL1
        have i1 : (0 : Int) ≤ (T.length : Int) := by omega
        have i2 : (T.length : Int) < (L : Int) := by omega
        have hne : ¬ P = g1 := by omega
        have hne' : ¬ g1 = P := by omega
        have wr32 : IntKind.i32.wrap (L : Int) = (L : Int) := IntWalk.i32_in _ (by omega)
        go_region_held3 (fun w' => w'.cell? ⟨P, 2, none⟩ = some (.slice a1 L b1) ∧ w'.cell? ⟨P, 3, none⟩ = some (.slice (some ⟨g1, 0, none⟩) L b2)) (go_keep) (fail)
        go_wp2
        go_ret
        have hfin := HP5.out.setEnd (x := (L : Int)) HL.out
        refine ⟨true, rfl, hfin.drew1.below, fun _ => ⟨_, _, p3 + 1, [((pos : Int), (L : Int))], hfin.drew1, by omega, fun _ => ?_⟩⟩
        rw [HL1.out]; exact HR.out
      · have hx' : (x == 125) = false := by simpa using hx
        clear hx HX
        go_wp2_with fail
        go_loopg [] (n - p3) (fun k wr => ∃ (p : Nat) (sv ev : Value) (Ti : List (Int × Int)), k = n - p ∧ pos < p ∧ PS W P rb ro n cap wr p sv ev (T ++ ((pos : Int), 0) :: Ti) ∧ In raw n T.length pos p Ti)
        case atStart => exact ⟨p3, sv', ev', [], rfl, by omega, hps4, HI3.out⟩
        case round =>
          clear hps4 HI3 hp3 hpn3
          obtain ⟨p, s1, v1, Ti, rfl, hpp, hps, hin⟩ := hrel
          have HIn : Hid (In raw n T.length pos p Ti) := hin
          have hsp := space_any HC.out hps
          clear hin
          go_wp2_with fail
          refine hsp.mono ?_
          rintro e w5 ⟨rfl, p5, hps5, hs5⟩
          have HI5 : Hid (In raw n T.length pos p5 Ti) := HIn.out.spaces hs5
          have hp5 := hs5.1
          clear hsp hps HIn hs5
          have hp5n := hps5.pn
          have hpk := peek_any HC.out hps5
          generalize hx : pk raw n p5 = k at hpk
          have HK : Hid (pk raw n p5 = k) := hx
          clear hx hps5
          go_wp2_with fail
          refine hpk.mono ?_
          rintro e wa ⟨rfl, hpsa⟩
          clear hpk
          by_cases hk : k = 34
          · subst hk
            obtain ⟨hlk, hrk⟩ := pk_hit HK.out (by decide)
            have HRK : Hid (rd raw p5 = 34) := hrk
            clear hrk
            go_wp2_with fail
            refine (hSt wa p5 s1 v1 _ hpsa hlk).mono ?_
            rintro e wb ⟨b, rfl, hbb, hstr⟩
            clear hpsa
            cases b with
            | false =>
              go_wp2_with fail
              go_ret
              exact ⟨false, rfl, hbb, fun h => by cases h⟩
            | true =>
              obtain ⟨s6, v6, r, hpsb, hse⟩ := hstr rfl
              have HI6 : Hid (In raw n T.length pos (r + 1) (Ti ++ [((p5 : Int), ((r + 1 : Nat) : Int))])) := HI5.out.val (Val.str _ _ _ hlk HRK.out hse)
              have hle := hse.le.1
              have hsp := space_any HC.out hpsb
              clear hstr hse HI5
              go_wp2_with fail
              refine hsp.mono ?_
              rintro e wc ⟨rfl, pc, hpsc, hsc⟩
              have HIc : Hid (In raw n T.length pos pc (Ti ++ [((p5 : Int), ((r + 1 : Nat) : Int))])) := HI6.out.spaces hsc
              have hpc := hsc.1
              have hpk := peek_any HC.out hpsc
              generalize hx : pk raw n pc = k2 at hpk
              have HK2 : Hid (pk raw n pc = k2) := hx
              clear hx hpsc hsp hsc HI6 hpsb
              go_wp2_with fail
              refine hpk.mono ?_
              rintro e wd ⟨rfl, hpsd⟩
              clear hpk
              have HPd : Hid (PS W P rb ro n cap wd pc s6 v6 ((T ++ ((pos : Int), 0) :: Ti) ++ [((p5 : Int), ((r + 1 : Nat) : Int))])) := hpsd
              have c1 := hpsd.c1
              have fz := hpsd.fz 1
              clear hpsd
              by_cases hk2 : k2 = 58
              · subst hk2
                obtain ⟨hl2, hr2⟩ := pk_hit HK2.out (by decide)
                have HId : Hid (In raw n T.length pos (pc + 1) (Ti ++ [((p5 : Int), ((r + 1 : Nat) : Int))])) := HIc.out.gap hl2 (by rw [hr2]; unfold isGap; decide)
                have HPe : Hid (PS W P rb ro n cap (wd.setCell ⟨P, 1, none⟩ (.int .i64 ((pc : Int) + 1))) (pc + 1) s6 v6 (T ++ ((pos : Int), 0) :: (Ti ++ [((p5 : Int), ((r + 1 : Nat) : Int))]))) := by
                  have h0 := HPd.out.setPos (pc + 1) ((pc : Int) + 1) (by omega) (by have := HPd.out.le; omega) (by omega)
                  simp only [List.append_assoc, List.cons_append] at h0
                  exact h0
                generalize Ti ++ [((p5 : Int), ((r + 1 : Nat) : Int))] = Tk at HId HPe
                clear hr2 HPd HIc HK2
                have hsp := space_any HC.out HPe.out
                go_wp2_with fail
                refine hsp.mono ?_
                rintro e wf ⟨rfl, pf, hpsf, hsf⟩
                have HIf : Hid (In raw n T.length pos pf Tk) := HId.out.spaces hsf
                have hpf := hsf.1
                clear hsp hsf HId HPe c1 fz
                go_wp2_with fail
                refine (hV wf pf s6 v6 _ hpsf).mono ?_
                rintro e w6 ⟨b, rfl, hb6, hval⟩
                clear hpsf
                cases b with
                | false =>
                  go_wp2_with fail
                  go_ret
                  exact ⟨false, rfl, hb6, fun h => by cases h⟩
                | true =>
                  obtain ⟨s7, v7, p7, T7, hps7, hlt7, hv7⟩ := hval rfl
                  have HV7 : Hid (Follow raw n p7 → Val raw n pf (T ++ ((pos : Int), 0) :: Tk).length p7 T7) := hv7
                  have hsp := space_any HC.out hps7
                  clear hv7 hval
                  go_wp2_with fail
                  refine hsp.mono ?_
                  rintro e w8 ⟨rfl, p8, hps8, hs8⟩
                  have HS8 : Hid (Spaces raw n p7 p8) := hs8
                  have hp8 := hs8.1
                  have hpk := peek_any HC.out hps8
                  generalize hx : pk raw n p8 = y at hpk
                  have HY : Hid (pk raw n p8 = y) := hx
                  clear hx hps8 hs8 hsp hps7
                  go_wp2_with fail
                  refine hpk.mono ?_
                  rintro e w9 ⟨rfl, hps9⟩
                  have HP9 : Hid (PS W P rb ro n cap w9 p8 s7 v7 ((T ++ ((pos : Int), 0) :: Tk) ++ T7)) := hps9
                  have hpn9 := hps9.pn
                  have c1 := hps9.c1
                  have fz := hps9.fz 1
                  clear hpk hps9
                  by_cases hy : y = 44 ∨ y = 125
                  · obtain ⟨hl, hr⟩ := pk_hit HY.out (by omega)
                    have HF : Hid (Follow raw n p7) := follow_of HS8.out (.inr ⟨hl, by rw [hr]; unfold isStop; omega⟩)
                    have HI8 : Hid (In raw n T.length pos p8 (Tk ++ T7)) := (HIf.out.val (by have h0 := HV7.out HF.out; rw [show (T ++ ((pos : Int), 0) :: Tk).length = T.length + 1 + Tk.length from by simp; omega] at h0; exact h0)).spaces HS8.out
                    have HPA : Hid (PS W P rb ro n cap w9 p8 s7 v7 (T ++ ((pos : Int), 0) :: (Tk ++ T7))) := by have h0 := HP9.out; simp only [List.append_assoc, List.cons_append] at h0; exact h0
                    clear HP9 HV7 HF HS8 HIf
                    rcases hy with hy | hy
                    · subst hy
                      have HR : Hid (rd raw p8 = 44) := hr
                      clear hr
                      go_wp2
                      go_roundg (n - (p8 + 1))
                      case measure => omega
                      case rel => exact ⟨p8 + 1, s7, v7, Tk ++ T7, rfl, by omega, HPA.out.setPos (p8 + 1) _ (by omega) (by have := HPA.out.le; omega) (by omega), HI8.out.gap hl (by rw [HR.out]; unfold isGap; decide)⟩
                    · subst hy
                      have HR : Hid (Val raw n pos T.length (p8 + 1) (((pos : Int), ((T.length + 1 + (Tk ++ T7).length : Nat) : Int)) :: (Tk ++ T7))) := HI8.out.close hl (.inl hr)
                      generalize Tk ++ T7 = Tj at *
                      clear hr HI8 HY
                      go_upto_region 28 with fail
                      have HP5 : Hid (PS W P rb ro n cap (w9.setCell ⟨P, 1, none⟩ (.int .i64 ((p8 : Int) + 1))) (p8 + 1) s7 v7 (T ++ ((pos : Int), 0) :: Tj)) := HPA.out.setPos (p8 + 1) _ (by omega) (by have := HPA.out.le; omega) (by omega)
                      clear c1 fz HPA
                      generalize w9.setCell ⟨P, 1, none⟩ (.int .i64 ((p8 : Int) + 1)) = v at *
                      obtain ⟨L, hL⟩ : ∃ L, L = (T ++ ((pos : Int), (0 : Int)) :: Tj).length := ⟨_, rfl⟩
                      obtain ⟨a1, b1, e1⟩ := HP5.out.svform
                      obtain ⟨g1, b2, e2, hg1⟩ := HP5.out.evform (by simp; omega)
                      rw [← hL] at e1 e2
                      subst e1 e2
                      have c2 := HP5.out.c2
                      have c3 := HP5.out.c3
                      have hec := HP5.out.endCell hL
                      obtain ⟨hec1, hec2⟩ := hec
                      have HL : Hid (L = (T ++ ((pos : Int), (0 : Int)) :: Tj).length) := hL
                      have hL1 : L = T.length + 1 + Tj.length := by rw [hL]; simp; omega
                      have hL2 : T.length < L := by omega
                      have hL3 : L ≤ n + 1 := by have := HP5.out.le; omega
                      have HL1 : Hid (L = T.length + 1 + Tj.length) := hL1
                      clear hL hL1
                      have i1 : (0 : Int) ≤ (T.length : Int) := by omega
                      have i2 : (T.length : Int) < (L : Int) := by omega
                      have hne : ¬ P = g1 := by omega
                      have hne' : ¬ g1 = P := by omega
                      have wr32 : IntKind.i32.wrap (L : Int) = (L : Int) := IntWalk.i32_in _ (by omega)
                      go_region_held3 (fun w' => w'.cell? ⟨P, 2, none⟩ = some (.slice a1 L b1) ∧ w'.cell? ⟨P, 3, none⟩ = some (.slice (some ⟨g1, 0, none⟩) L b2)) (go_keep) (fail)
                      go_wp2
                      go_ret
                      have hfin := HP5.out.setEnd (x := (L : Int)) HL.out
                      refine ⟨true, rfl, hfin.drew1.below, fun _ => ⟨_, _, p8 + 1, ((pos : Int), (L : Int)) :: Tj, hfin.drew1, by omega, fun _ => ?_⟩⟩
                      rw [HL1.out]; exact HR.out
                  · have e1 : (y == 44) = false := by rw [beq_eq_false_iff_ne]; omega
                    have e2 : (y == 125) = false := by rw [beq_eq_false_iff_ne]; omega
                    clear hy
                    go_wp2
                    go_ret
                    exact ⟨false, rfl, HP9.out.below, fun h => by cases h⟩
              · have e1 : (k2 != 58) = true := by simpa using hk2
                clear hk2
                go_wp2_with fail
                go_ret
                exact ⟨false, rfl, HPd.out.below, fun h => by cases h⟩
          · have e1 : (k != 34) = true := by simpa using hk
            clear hk
            go_wp2_with fail
            go_ret
            exact ⟨false, rfl, hpsa.below, fun h => by cases h⟩
end
end Go.Proofs.Qxb6603026a
