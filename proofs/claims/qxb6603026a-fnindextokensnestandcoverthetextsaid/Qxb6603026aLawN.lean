/-
  Seat b6603026a: the walk of FnIndexTokensNestAndCoverTheText.
-/
import Derived.Test.Qxb6603026aGap
import Derived.Test.Qxb6603026aIndex
import Derived.WalkSmall
import Derived.Deep.CutBlock
namespace Go.Proofs.Qxb6603026a
open Go.RowKit Gram

/-- The open ones in memory: their row's end is the stack's top. -/
def Stk (B : Nat) (w : World) (v : Value) (O : List Nat) : Prop := w.ownsRow B 3 1 v O.length (nats O.reverse)

theorem Stk.form {B : Nat} {w : World} {v : Value} {O : List Nat} (h : Stk B w v O) : ∃ a c, v = .slice a O.length c := by
  have h0 : w.ownsRow B 3 1 v O.length (nats O.reverse) := h
  rcases h0.2 with ⟨h1, h2⟩ | ⟨g, cap, cur, h1, _⟩
  · exact ⟨none, 0, by rw [h1, h2]⟩
  · exact ⟨_, _, h1⟩

theorem nats_snoc (r : List Nat) (x : Nat) : nats (x :: r).reverse = nats r.reverse ++ [.int .i64 (x : Int)] := by
  unfold nats
  rw [List.reverse_cons, List.map_append]
  rfl

theorem nats_len (r : List Nat) : (nats r).length = r.length := by unfold nats; rw [List.length_map]

theorem Stk.top {B : Nat} {w : World} {v : Value} {x m : Nat} {r : List Nat} (h : Stk B w v (x :: r)) (hm : r.length = m) :
    ∃ g c, v = .slice (some ⟨g, 0, none⟩) (m + 1) c ∧ m + 1 ≤ c ∧ w.cell? ⟨g, m, none⟩ = some (.int .i64 (x : Int)) ∧ Stk B w (.slice (some ⟨g, 0, none⟩) m c) r := by
  subst hm
  have h0 := h
  unfold Stk at h0
  rw [nats_snoc, List.length_cons] at h0
  rcases h0.2 with ⟨_, h2⟩ | ⟨g, cap, cur, h1, _, _, hc, _⟩
  · omega
  · subst h1
    refine ⟨g, cap, rfl, hc, ?_, ?_⟩
    · rw [h0.cellAt r.length (by omega), List.getElem?_append_right (by rw [nats_len, List.length_reverse]; exact Nat.le_refl _), nats_len, List.length_reverse, Nat.sub_self]
      rfl
    · exact ownsRow_pop (by rw [nats_len, List.length_reverse, Nat.mul_one]) h0

theorem Stk.push {B : Nat} {w : World} {v : Value} {m x : Nat} {O : List Nat} (hm : O.length = m) (h : w.ownsRow B 3 1 v (m + 1) (nats O.reverse ++ [.int .i64 (x : Int)])) : Stk B w v (x :: O) := by
  unfold Stk
  rw [nats_snoc, List.length_cons, hm]
  exact h

/-- The token that comes. -/
theorem chk_next {raw : List Int} {n t k pe : Nat} {T : List (Int × Int)} {O : List Nat} (hk : k < T.length) (h : chk raw n t (T.drop k) k O pe) :
    ∃ s e : Nat, T.getD k (0, 0) = ((s : Int), (e : Int)) ∧ pe ≤ s ∧ s < n ∧ Gaps raw pe s ∧ (k = 0 ∨ popAll k O ≠ []) ∧ ¬ gapB (rd raw s) ∧
    (((rd raw s = 123 ∨ rd raw s = 91) ∧ k < e ∧ e ≤ t ∧ (∀ x r, popAll k O = x :: r → e ≤ x) ∧ chk raw n t (T.drop (k + 1)) (k + 1) (e :: popAll k O) (s + 1)) ∨
     ((rd raw s ≠ 123 ∧ rd raw s ≠ 91) ∧ s < e ∧ e ≤ n ∧ (rd raw s = 34 → s + 2 ≤ e ∧ rd raw (e - 1) = 34) ∧ chk raw n t (T.drop (k + 1)) (k + 1) (popAll k O) e)) := by
  rw [List.drop_eq_getElem_cons hk] at h
  have e0 : T.getD k (0, 0) = T[k] := by rw [List.getD_eq_getElem?_getD, List.getElem?_eq_getElem hk, Option.getD_some]
  rw [e0]
  exact h

theorem popAll_len (k : Nat) : ∀ O : List Nat, (popAll k O).length ≤ O.length := by
  intro O
  induction O with
  | nil => exact Nat.le_refl _
  | cons x r ih =>
    unfold popAll
    split
    · rw [List.length_cons]; omega
    · exact Nat.le_refl _

set_option maxRecDepth 100000 in
set_option maxHeartbeats 2000000 in
theorem nest_main (b off n cap : Nat) (z : List Int) (w : World) (hbig : n ≤ 1048576) (hn : n ≤ z.length) (h0 : 0 < n) (hc : ∀ j, j < z.length → w.cell? ⟨b, off + j, none⟩ = some (.int .u8 (z.getD j 0))) (hw : ∀ x ∈ z, (Lit.int .u8 x).wf = true) :
    Calls Try.prog 8 #[.slice (some ⟨b, off, none⟩) n cap] w fun e w' => e = .returned (.bool true) ∧ Below w.heap.size w w' := by
  have C : Ctx w w.heap.size b off n z := ctx_of hbig hn h0 hc hw
  have HC : Hid (Ctx w w.heap.size b off n z) := C
  have hby := bytes2_yes (some ⟨b, off, none⟩) n cap w hbig
  have hdoc := doc_any C (str_said C) (ps_start w b off n cap)
  have HCL : Hid (∀ j, j < z.length → w.cell? ⟨b, off + j, none⟩ = some (.int .u8 (z.getD j 0))) := hc
  clear C hc hw
  go_enter Try.func8, Try.ntmps8
  go_wp2_with (go_at_call 29; refine hby.mono ?_; rintro e w ⟨rfl, rfl⟩)
  refine hdoc.mono ?_
  rintro e w2 ⟨bb, rfl, hb2, hd2⟩
  clear hby hdoc
  cases bb with
  | false =>
    go_wp2_with fail
    go_ret
    exact ⟨rfl, hb2⟩
  | true =>
    obtain ⟨sv, ev, T, hps, hDoc⟩ := hd2 rfl
    have hT0 := doc_some hDoc
    have HD : Hid (Doc z n T) := hDoc
    have HPS : Hid (PS w w.heap.size b off n cap w2 n sv ev T) := hps
    have HB2 : Hid (Below w.heap.size w w2) := hb2
    have hTn : T.length ≤ n := hps.le
    have hcl := clone_some b off n cap z w2 hbig hn (fun k hk => by
      rw [HB2.out.cell (p := ⟨b, off + k, none⟩) HC.out.lt]; exact HCL.out k (by omega))
    clear hd2 hDoc hps hb2
    go_wp2_with fail
    refine hcl.mono ?_
    rintro e w3 ⟨rfl, hown3, hb3⟩
    have HB3 : Hid (Below w2.heap.size w2 w3) := hb3
    have HT3 : Hid (Txt w2.heap.size n z w3) := txt_of hbig hn HC.out.byte hown3
    have hzz := zz_any w2.heap.size n n z T w3 HT3.out (scan_doc HD.out) hT0 (by omega)
    clear hcl hown3 hb3
    go_wp2_with fail
    refine hzz.mono ?_
    rintro e w4 ⟨s4, e4, rfl, hZ⟩
    clear hzz
    have hb24 : Below w2.heap.size w2 w4 := HB3.out.trans (hZ.below.mono HB3.out.size)
    have HB4 : Hid (Below w.heap.size w w4) := HB2.out.trans (hb24.mono HB2.out.size)
    have hchk := Gram.check_doc HD.out
    obtain ⟨L, hL⟩ : ∃ L, L = T.length := ⟨_, rfl⟩
    obtain ⟨g3, c3, e3⟩ := own_some hZ.so hT0
    obtain ⟨g4, c4, e4'⟩ := own_some hZ.eo hT0
    have r3 := hZ.so
    have r4 := hZ.eo
    rw [← hL] at e3 e4' r3 r4 hTn hT0 hchk
    subst e3 e4'
    have G3 : g3 < w4.heap.size := (r3.lt g3 rfl).2
    have G4 : g4 < w4.heap.size := (r4.lt g4 rfl).2
    have R3 : Hid (∀ k, k < L → w4.cell? ⟨g3, k, none⟩ = some (.int .i32 (T.getD k (0, 0)).1)) := fun k hk => row_cell r3 k hk
    have R4 : Hid (∀ k, k < L → w4.cell? ⟨g4, k, none⟩ = some (.int .i32 (T.getD k (0, 0)).2)) := fun k hk => row_cell r4 k hk
    have G5 : w2.heap.size < w4.heap.size := Nat.lt_of_lt_of_le HT3.out.lt hZ.below.size
    have R5 : Hid (∀ k, k < n → w4.cell? ⟨w2.heap.size, k, none⟩ = some (.int .u8 (rd z k))) := fun k hk => by
      rw [hZ.below.cell (p := ⟨w2.heap.size, k, none⟩) HT3.out.lt]; exact HT3.out.cell k hk
    obtain ⟨i0, hi, hz0, hz1, hz2⟩ := info_parts info3
    have HCK : Hid (chk z n L (T.drop 0) 0 [] 0) := hchk
    have HL : Hid (L = T.length) := hL
    clear hZ r3 r4 hb24 hL HPS HD hchk
    have t1 : ((L : Int) == 0) = false := by rw [beq_eq_false_iff_ne]; omega
    go_wp2_with (at_make; refine wpList_make_own _ rfl _ _ 26 rfl w4.heap.size 3 i0 (.int .i64 0) 1 Try.underlying26 hi hz0 hz1 _ _ _ L rfl rfl rfl (by rw [hz2]; omega) (by unfold maxLen; omega) (Nat.le_refl _) ?_; intro w5 hown5 hgrow5)
    have hb5 : Below w4.heap.size w4 w5 := (Below.refl _ _).grown hgrow5 (Nat.le_refl _) (fun k h => by cases h)
    have HS0 : Hid (Stk w4.heap.size w5 (.slice (some ⟨w4.heap.size, 0, none⟩) 0 L) []) := hown5
    have HB5 : Hid (Below w4.heap.size w4 w5) := hb5
    clear hown5 hgrow5 hb5
    go_loopg [7, 8, 9] L (fun gk v7 v8 v9 wr => ∃ (k pe : Nat) (O : List Nat), gk = L - k ∧ k ≤ L ∧ v9 = .int .i64 k ∧ v8 = .int .i64 pe ∧ Stk w4.heap.size wr v7 O ∧ Below w4.heap.size w4 wr ∧ chk z n L (T.drop k) k O pe ∧ pe ≤ n ∧ O.length ≤ k)
    case atStart => exact ⟨0, 0, [], rfl, Nat.zero_le _, rfl, rfl, HS0.out, HB5.out, HCK.out, Nat.zero_le _, Nat.le_refl _⟩
    case round =>
      clear HS0 HB5 HCK
      obtain ⟨k, pe, O, rfl, hk, hv9, hv8, hS, hB, hck, hpe, hO⟩ := hrel
      subst hv9 hv8
      have HS : Hid (Stk w4.heap.size wr u7 O) := hS
      have HB : Hid (Below w4.heap.size w4 wr) := hB
      have HR : Hid (∀ k, k < n → wr.cell? ⟨w2.heap.size, k, none⟩ = some (.int .u8 (rd z k))) := fun k hk => by
        rw [hB.cell (p := ⟨w2.heap.size, k, none⟩) G5]; exact R5.out k hk
      by_cases hlt : k < L
      · obtain ⟨s, e, hse, hps, hsn, hgap, hpop, hng, hbr⟩ := chk_next (by rw [← HL.out]; exact hlt) hck
        have d3 := R3.out k hlt
        have d4 := R4.out k hlt
        rw [hse] at d3 d4
        rw [← hB.cell (p := ⟨g3, k, none⟩) G3] at d3
        rw [← hB.cell (p := ⟨g4, k, none⟩) G4] at d4
        have HG : Hid (Gaps z pe s) := hgap
        have HP : Hid (k = 0 ∨ popAll k O ≠ []) := hpop
        have HN : Hid (¬ gapB (rd z s)) := hng
        have HBR : Hid (((rd z s = 123 ∨ rd z s = 91) ∧ k < e ∧ e ≤ L ∧ (∀ x r, popAll k O = x :: r → e ≤ x) ∧ chk z n L (T.drop (k + 1)) (k + 1) (e :: popAll k O) (s + 1)) ∨
     ((rd z s ≠ 123 ∧ rd z s ≠ 91) ∧ s < e ∧ e ≤ n ∧ (rd z s = 34 → s + 2 ≤ e ∧ rd z (e - 1) = 34) ∧ chk z n L (T.drop (k + 1)) (k + 1) (popAll k O) e)) := hbr
        have he : e ≤ 1048576 := by rcases hbr with h | h <;> omega
        have i1 : (0 : Int) ≤ (k : Int) := by omega
        have i2 : (k : Int) < (L : Int) := by omega
        have i3 : ¬ (s : Int) < (pe : Int) := by omega
        have i4 : ¬ (n : Int) ≤ (s : Int) := by omega
        clear hgap hpop hng hbr hck hB hS hse
        go_upto_block 2 with fail
        go_cut [12] (fun _ wx => wx = wr)
        case first =>
          clear HP HN HBR HS d3 d4 HB
          go_wp2_with fail
          go_loopg [12] (s - pe) (fun gk v wx => ∃ q : Nat, gk = s - q ∧ pe ≤ q ∧ q ≤ s ∧ v = .int .i64 q ∧ wx = wr)
          case atStart => exact ⟨pe, rfl, Nat.le_refl _, hps, rfl, rfl⟩
          case round =>
            obtain ⟨q, rfl, hq1, hq2, rfl, rfl⟩ := hrel
            by_cases hqs : q < s
            · have d5 := HR.out q (by omega)
              have hgp := gap_any (rd z q) wr
              rw [(gpB_iff _).2 (HG.out q hq1 hqs)] at hgp
              generalize rd z q = c at *
              have j1 : (q : Int) < (s : Int) := by omega
              have j2 : (q : Int) < (n : Int) := by omega
              have j3 : (0 : Int) ≤ (q : Int) := by omega
              go_wp2_with (go_at_call 30; refine hgp.mono ?_; rintro e wr ⟨rfl, rfl⟩)
              go_roundg (s - (q + 1))
              case measure => omega
              case rel => exact ⟨q + 1, rfl, by omega, by omega, by go_num, rfl⟩
            · have j1 : ¬ (q : Int) < (s : Int) := by omega
              go_wp2_with fail
              go_meet
              case rel => rfl
        case rest =>
          replace hcut := hcut.symm
          subst hcut
          clear HG hps i3
          go_upto_block 4 with fail
          go_cut [7] (fun v wx => wx = wr ∧ Stk w4.heap.size wr v (popAll k O))
          case first =>
            clear HP HN HBR d3 d4 HB HR
            go_wp2_with fail
            go_loopg [7] (O.length) (fun gk v wx => ∃ Y : List Nat, gk = Y.length ∧ Y.length ≤ O.length ∧ popAll k Y = popAll k O ∧ Stk w4.heap.size wr v Y ∧ wx = wr)
            case atStart => exact ⟨O, rfl, Nat.le_refl _, rfl, HS.out, rfl⟩
            case round =>
              clear HS
              obtain ⟨Y, hgk, hYO, hpy, hSY, rfl⟩ := hrel
              cases Y with
              | nil =>
                obtain ⟨ya, yc, hyv⟩ := hSY.form
                have HSY : Hid (Stk w4.heap.size wr u7 (popAll k O)) := by rw [← hpy]; exact hSY
                have hyv2 : u7 = .slice ya 0 yc := hyv
                clear hSY hpy hyv
                subst hyv2
                go_wp2_with fail
                go_meet
                case rel => exact ⟨rfl, HSY.out⟩
              | cons x r =>
                obtain ⟨m, hm⟩ : ∃ m, m = r.length := ⟨_, rfl⟩
                obtain ⟨g, c, hv, hmc, hcx, hSr⟩ := hSY.top hm.symm
                have j0 : m ≤ O.length := by rw [List.length_cons] at hYO; omega
                have j1 : (0 : Int) ≤ (m : Int) + 1 - 1 := by omega
                have j2 : (m : Int) + 1 - 1 < (m : Int) + 1 := by omega
                have j3 : (0 : Int) < (m : Int) + 1 := by omega
                by_cases hxk : x = k
                · have HSr : Hid (Stk w4.heap.size wr (.slice (some ⟨g, 0, none⟩) m c) r) := hSr
                  have HPY : Hid (popAll k r = popAll k O) := by unfold Hid; rw [← hpy, hxk, popAll_eq]
                  have HYO : Hid (r.length ≤ O.length) := by unfold Hid; omega
                  have HGK : Hid (gk = m + 1) := by unfold Hid; rw [hgk, List.length_cons, hm]
                  have HMR : Hid (m = r.length) := hm
                  clear hSY hSr hpy hYO hgk hm
                  subst hv hxk
                  go_wp2_with fail
                  go_roundg m
                  case measure => have := HGK.out; omega
                  case rel => exact ⟨r, HMR.out, HYO.out, HPY.out, HSr.out, rfl⟩
                · have HSY : Hid (Stk w4.heap.size wr (.slice (some ⟨g, 0, none⟩) (m + 1) c) (popAll k O)) := by rw [← hpy, popAll_top hxk, ← hv]; exact hSY
                  have j4 : ((x : Int) == (k : Int)) = false := by rw [beq_eq_false_iff_ne]; omega
                  clear hSY hSr hpy hYO hgk hm
                  subst hv
                  go_wp2_with fail
                  go_meet
                  case rel => exact ⟨rfl, HSY.out⟩
          case rest =>
            obtain ⟨hw, hS⟩ := hcut
            replace hw := hw.symm
            subst hw
            clear HS
            have HS : Hid (Stk w4.heap.size wr u7 (popAll k O)) := hS
            have hYl := popAll_len k O
            clear hS
            generalize popAll k O = Y at *
            obtain ⟨yl, hyl⟩ : ∃ yl, yl = Y.length := ⟨_, rfl⟩
            have HYL : Hid (yl = Y.length) := hyl
            have hyk : yl ≤ k := by omega
            clear hYl hyl
            go_upto_region 29 with fail
            go_cut [104] (fun v wx => v = .bool false ∧ wx = wr)
            case first =>
              clear HBR HN HR
              cases Y with
              | nil =>
                have hk0 : k = 0 := by
                  rcases HP.out with h | h
                  · exact h
                  · exact absurd rfl h
                obtain ⟨ya, yc, hyv⟩ := HS.out.form
                have hyv2 : u7 = .slice ya 0 yc := hyv
                clear HS hyv HP
                subst hyv2 hk0
                go_wp2_with fail
                go_meet
                case rel => exact ⟨rfl, rfl⟩
              | cons x r =>
                obtain ⟨m, hm⟩ : ∃ m, m = r.length := ⟨_, rfl⟩
                obtain ⟨g, c, hv, hmc, hcx, hSr⟩ := HS.out.top hm.symm
                have hm2 : m ≤ k := by have h0 := HYL.out; rw [List.length_cons] at h0; omega
                have j3 : (((m : Int) + 1) == 0) = false := by rw [beq_eq_false_iff_ne]; omega
                clear HS HP hSr hm hcx
                subst hv
                by_cases hk0 : (0 : Int) < (k : Int)
                · go_wp2_with fail
                  go_meet
                  case rel => exact ⟨rfl, rfl⟩
                · go_wp2_with fail
                  go_meet
                  case rel => exact ⟨rfl, rfl⟩
            case rest =>
              obtain ⟨h104, hw⟩ := hcut
              replace hw := hw.symm
              subst hw h104
              have d5 := HR.out s hsn
              have hgp := gap_any (rd z s) wr
              have hgf : gpB (rd z s) = false := by
                cases h : gpB (rd z s) with
                | false => rfl
                | true => exact absurd ((gpB_iff _).1 h) HN.out
              rw [hgf] at hgp
              clear hgf HN HP
              have j5 : (0 : Int) ≤ (s : Int) := by omega
              have j6 : (s : Int) < (n : Int) := by omega
              rcases HBR.out with ⟨hcc, hke, heL, htop, hnx⟩ | ⟨hcc, hse, hen, hq34, hnx⟩
              · have HTOP : Hid (∀ x r, Y = x :: r → e ≤ x) := htop
                have HNX : Hid (chk z n L (T.drop (k + 1)) (k + 1) (e :: Y) (s + 1)) := hnx
                clear HBR htop hnx
                generalize rd z s = c at *
                have j7 : ¬ (e : Int) ≤ (k : Int) := by omega
                have j8 : ¬ (L : Int) < (e : Int) := by omega
                go_upto_region 34 with (go_at_call 30; refine hgp.mono ?_; rintro e' wr ⟨rfl, rfl⟩)
                go_cut [116] (fun v wx => v = .bool true ∧ wx = wr)
                case first =>
                  clear HTOP HNX HS hgp HR
                  rcases hcc with rfl | rfl
                  · go_wp2_with fail
                    go_meet
                    case rel => exact ⟨rfl, rfl⟩
                  · go_wp2_with fail
                    go_meet
                    case rel => exact ⟨rfl, rfl⟩
                case rest =>
                  obtain ⟨h116, hw⟩ := hcut
                  replace hw := hw.symm
                  subst hw h116
                  clear hgp d5 HR
                  go_upto_region 37 with fail
                  go_cut [137] (fun v wx => v = .bool false ∧ wx = wr)
                  case first =>
                    clear HNX
                    cases Y with
                    | nil =>
                      obtain ⟨ya, yc, hyv⟩ := HS.out.form
                      have hyv2 : u7 = .slice ya 0 yc := hyv
                      clear HS hyv HTOP
                      subst hyv2
                      go_wp2_with fail
                      go_meet
                      case rel => exact ⟨rfl, rfl⟩
                    | cons x r =>
                      obtain ⟨m, hm⟩ : ∃ m, m = r.length := ⟨_, rfl⟩
                      obtain ⟨g, c', hv, hmc, hcx, hSr⟩ := HS.out.top hm.symm
                      have hm2 : m ≤ k := by have h0 := HYL.out; rw [List.length_cons] at h0; omega
                      have hex := HTOP.out x r rfl
                      have k1 : (0 : Int) ≤ (m : Int) + 1 - 1 := by omega
                      have k2 : (m : Int) + 1 - 1 < (m : Int) + 1 := by omega
                      have k3 : (0 : Int) < (m : Int) + 1 := by omega
                      have k4 : ¬ (x : Int) < (e : Int) := by omega
                      clear HS HTOP hSr hm
                      subst hv
                      go_wp2_with fail
                      go_meet
                      case rel => exact ⟨rfl, rfl⟩
                  case rest =>
                    obtain ⟨h137, hw⟩ := hcut
                    replace hw := hw.symm
                    subst hw h137
                    have hown : wr.ownsRow w4.heap.size 3 1 u7 yl (nats Y.reverse) := by rw [HYL.out]; exact HS.out
                    have hbs : w4.heap.size ≤ wr.heap.size := HB.out.size
                    clear HTOP HS
                    go_wp2_with (at_builtin; refine wpList_append_own _ rfl (.tmp 138) (.tmp 140) 26 rfl w4.heap.size 3 i0 (.int .i64 0) 1 8 Try.underlying26 hi hz0 hz1 hz2 rfl (by decide) u7 _ _ rfl (hown.alloc _) ⟨wr.heap.size, 0, none⟩ 1 1 [.int .i64 (e : Int)] rfl rfl (cell_one_new _ _ _) (by simp [Value.oneCell']) (by unfold maxLen; omega) (by omega) (by simp; omega) ?_; intro ov w1 hown1 hgrow1 _)
                    have HST : Hid (Stk w4.heap.size w1 ov (e :: Y)) := Stk.push HYL.out.symm hown1
                    have HBW : Hid (Below w4.heap.size w4 w1) := (HB.out.alloc hbs _).grown hgrow1 (by simp; omega) (fun j hj => (hown.lt j hj).1)
                    clear hown1 hgrow1 hown
                    go_roundg (L - (k + 1))
                    case measure => omega
                    case rel => exact ⟨k + 1, s + 1, e :: Y, rfl, by omega, by go_num, by go_num, HST.out, HBW.out, HNX.out, by omega, by have := HYL.out; rw [List.length_cons]; omega⟩
              · have HNX : Hid (chk z n L (T.drop (k + 1)) (k + 1) Y e) := hnx
                have f1 : (rd z s == 123) = false := by rw [beq_eq_false_iff_ne]; exact hcc.1
                have f2 : (rd z s == 91) = false := by rw [beq_eq_false_iff_ne]; exact hcc.2
                clear HBR hnx hcc
                have j7 : ¬ (e : Int) ≤ (s : Int) := by omega
                have j8 : ¬ (n : Int) < (e : Int) := by omega
                by_cases h34 : rd z s = 34
                · obtain ⟨h2, h3⟩ := hq34 h34
                  have d6 := HR.out (e - 1) (by omega)
                  rw [h3] at d6
                  rw [h34] at d5 hgp
                  obtain ⟨e1, rfl⟩ : ∃ e1, e = e1 + 1 := ⟨e - 1, by omega⟩
                  rw [Nat.add_sub_cancel] at d6
                  have k1 : ¬ ((e1 : Int) + 1 - (s : Int)) < 2 := by omega
                  have k2 : (0 : Int) ≤ (e1 : Int) + 1 - 1 := by omega
                  have k3 : (e1 : Int) + 1 - 1 < (n : Int) := by omega
                  clear f1 f2 hq34 h34 h3 HR
                  go_wp2_with (go_at_call 30; refine hgp.mono ?_; rintro e' wr ⟨rfl, rfl⟩)
                  go_roundg (L - (k + 1))
                  case measure => omega
                  case rel => exact ⟨k + 1, e1 + 1, Y, rfl, by omega, by go_num, by go_num, HS.out, HB.out, HNX.out, by omega, by have := HYL.out; omega⟩
                · have f3 : (rd z s == 34) = false := by rw [beq_eq_false_iff_ne]; exact h34
                  clear hq34 h34 HR
                  generalize rd z s = c at *
                  go_wp2_with (go_at_call 30; refine hgp.mono ?_; rintro e' wr ⟨rfl, rfl⟩)
                  go_roundg (L - (k + 1))
                  case measure => omega
                  case rel => exact ⟨k + 1, e, Y, rfl, by omega, by go_num, by go_num, HS.out, HB.out, HNX.out, by omega, by have := HYL.out; omega⟩
      · obtain rfl : k = L := by omega
        have HG : Hid (Gaps z pe n) := by
          rw [List.drop_of_length_le (by rw [← HL.out]; exact Nat.le_refl _)] at hck
          exact hck
        have HBW : Hid (Below w.heap.size w wr) := HB4.out.trans (HB.out.mono HB4.out.size)
        clear hck hS hB HS HB HL R3 R4
        have i2 : ¬ (k : Int) < (k : Int) := by omega
        go_wp2_with fail
        go_loopg [14] (n - pe) (fun gk v wx => ∃ q : Nat, gk = n - q ∧ pe ≤ q ∧ q ≤ n ∧ v = .int .i64 q ∧ wx = wr)
        case atStart => exact ⟨pe, rfl, Nat.le_refl _, hpe, rfl, rfl⟩
        case round =>
          obtain ⟨q, rfl, hq1, hq2, rfl, rfl⟩ := hrel
          by_cases hqs : q < n
          · have d5 := HR.out q (by omega)
            have hgp := gap_any (rd z q) wr
            rw [(gpB_iff _).2 (HG.out q hq1 hqs)] at hgp
            generalize rd z q = c at *
            have j1 : (q : Int) < (n : Int) := by omega
            have j3 : (0 : Int) ≤ (q : Int) := by omega
            go_wp2_with (go_at_call 30; refine hgp.mono ?_; rintro e wr ⟨rfl, rfl⟩)
            go_roundg (n - (q + 1))
            case measure => omega
            case rel => exact ⟨q + 1, rfl, by omega, by omega, by go_num, rfl⟩
          · have j1 : ¬ (q : Int) < (n : Int) := by omega
            go_wp2_with fail
            go_ret
            exact ⟨rfl, HBW.out⟩

set_option maxRecDepth 100000 in
/-- Whatever the text. -/
theorem nest_any (a0 : Option Addr) (len0 cap0 : Nat) (z0 : List Int) (w : World) (w0 : IsRow .u8 w a0 len0 cap0 z0) :
    Calls Try.prog 8 #[.slice a0 len0 cap0] w fun e w' => e = .returned (.bool true) ∧ Below w.heap.size w w' := by
  have m0 := w0.len_le
  by_cases hbig : len0 ≤ 1048576
  · by_cases hz : len0 = 0
    · subst hz
      have hby := bytes2_yes a0 0 cap0 w (by omega)
      have hdoc := doc_empty w.heap.size cap0 a0 (w.alloc (.cells #[.slice a0 0 cap0, .int .i64 0, .slice none 0 0, .slice none 0 0] 44)) (by rw [cell_of_row _ _ 0 _ _ _ (heap_alloc_new w _)]; rfl) (by rw [cell_of_row _ _ 1 _ _ _ (heap_alloc_new w _)]; rfl)
      clear w0
      go_enter Try.func8, Try.ntmps8
      go_wp2_with (first | (go_at_call 29; refine hby.mono ?_; rintro e w ⟨rfl, rfl⟩) | (go_at_call 26; refine hdoc.mono ?_; rintro e w2 ⟨rfl, q, rfl⟩))
      go_ret
      refine ⟨rfl, ?_⟩
      have hb := (Below.refl w.heap.size w).alloc (Nat.le_refl _) (.cells #[.slice a0 0 cap0, .int .i64 0, .slice none 0 0, .slice none 0 0] 44)
      exact ⟨hb.os, hb.tape, hb.output, hb.size, hb.block⟩
    · rcases w0 with ⟨_, h1, _⟩ | ⟨x, rfl, hl, hm, hzl, hcell, hwf⟩
      · exact absurd h1 hz
      · obtain ⟨b, off, rfl, hc⟩ := ints_at hcell (by omega)
        exact nest_main b off len0 cap0 z0 w hbig (by omega) (by omega) hc hwf
  · have hby := bytes2_no a0 len0 cap0 w m0 hbig
    clear w0
    go_enter Try.func8, Try.ntmps8
    go_wp2_with (go_at_call 29; refine hby.mono ?_; rintro e w ⟨rfl, rfl⟩)
    go_ret
    exact ⟨rfl, Below.refl _ _⟩
end Go.Proofs.Qxb6603026a
