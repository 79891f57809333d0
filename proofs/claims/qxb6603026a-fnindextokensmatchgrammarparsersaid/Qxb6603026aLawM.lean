/-
  Seat b6603026a: the walk of FnIndexTokensMatchGrammarParser.
-/
import Derived.Test.Qxb6603026aFront
namespace Go.Proofs.Qxb6603026a
open Go.RowKit Gram

set_option maxHeartbeats 2000000 in
theorem match_main (b off n cap : Nat) (z : List Int) (w : World) (hbig : n ≤ 1048576) (hn : n ≤ z.length) (h0 : 0 < n) (hc : ∀ j, j < z.length → w.cell? ⟨b, off + j, none⟩ = some (.int .u8 (z.getD j 0))) (hw : ∀ x ∈ z, (Lit.int .u8 x).wf = true) :
    Calls Try.prog 7 #[.slice (some ⟨b, off, none⟩) n cap] w fun e w' => e = .returned (.bool true) ∧ Below w.heap.size w w' := by
  have C : Ctx w w.heap.size b off n z := ctx_of hbig hn h0 hc hw
  have HC : Hid (Ctx w w.heap.size b off n z) := C
  have hby := bytes_yes (some ⟨b, off, none⟩) n cap w hbig
  have hdoc := doc_any C (str_said C) (ps_start w b off n cap)
  have HCL : Hid (∀ j, j < z.length → w.cell? ⟨b, off + j, none⟩ = some (.int .u8 (z.getD j 0))) := hc
  clear C hc hw
  go_enter Try.func7, Try.ntmps7
  go_wp2_with (go_at_call 25; refine hby.mono ?_; rintro e w ⟨rfl, rfl⟩)
  refine hdoc.mono ?_
  rintro e w2 ⟨bb, rfl, hb2, hd2⟩
  clear hby hdoc
  cases bb with
  | false =>
    go_wp2_with fail
    go_ret
    exact ⟨rfl, hb2⟩
  | true =>
    obtain ⟨sv, ev, T, hps, hDoc⟩ := hd2 rfl
    have hT0 := doc_some hDoc
    have HD : Hid (Doc z n T) := hDoc
    have HPS : Hid (PS w w.heap.size b off n cap w2 n sv ev T) := hps
    have HB2 : Hid (Below w.heap.size w w2) := hb2
    have hTn : T.length ≤ n := hps.le
    have hcl := clone_some b off n cap z w2 hbig hn (fun k hk => by
      rw [HB2.out.cell (p := ⟨b, off + k, none⟩) HC.out.lt]; exact HCL.out k (by omega))
    clear hd2 hDoc hps hb2
    go_wp2_with fail
    refine hcl.mono ?_
    rintro e w3 ⟨rfl, hown3, hb3⟩
    have HB3 : Hid (Below w2.heap.size w2 w3) := hb3
    have hzz := zz_any w2.heap.size n n z T w3 (txt_of hbig hn HC.out.byte hown3) (scan_doc HD.out) hT0 (by omega)
    clear hcl hown3 hb3
    go_wp2_with fail
    refine hzz.mono ?_
    rintro e w4 ⟨s4, e4, rfl, hZ⟩
    clear hzz
    have hb24 : Below w2.heap.size w2 w4 := HB3.out.trans (hZ.below.mono HB3.out.size)
    have HB4 : Hid (Below w.heap.size w w4) := HB2.out.trans (hb24.mono HB2.out.size)
    have hP := HPS.out
    have hblk : w4.heap[w.heap.size]? = some (.cells #[.slice (some ⟨b, off, none⟩) n cap, .int .i64 (n : Int), sv, ev] 44 (0, 0)) := by rw [hb24.block _ hP.lt]; exact hP.blk
    have hso := ownsRow_below hP.so hb24
    have heo := ownsRow_below hP.eo hb24
    obtain ⟨L, hL⟩ : ∃ L, L = T.length := ⟨_, rfl⟩
    obtain ⟨g1, c1, e1⟩ := own_some hso hT0
    obtain ⟨g2, c2, e2⟩ := own_some heo hT0
    obtain ⟨g3, c3, e3⟩ := own_some hZ.so hT0
    obtain ⟨g4, c4, e4'⟩ := own_some hZ.eo hT0
    have r1 := hso
    have r2 := heo
    have r3 := hZ.so
    have r4 := hZ.eo
    rw [← hL] at e1 e2 e3 e4' r1 r2 r3 r4 hTn
    subst e1 e2 e3 e4'
    have k2 : w4.cell? ⟨w.heap.size, 2, none⟩ = some (.slice (some ⟨g1, 0, none⟩) L c1) := by rw [cell_of_row w4 _ 2 _ _ _ hblk]; rfl
    have k3 : w4.cell? ⟨w.heap.size, 3, none⟩ = some (.slice (some ⟨g2, 0, none⟩) L c2) := by rw [cell_of_row w4 _ 3 _ _ _ hblk]; rfl
    have R1 : Hid (∀ k, k < L → w4.cell? ⟨g1, k, none⟩ = some (.int .i32 (T.getD k (0, 0)).1)) := fun k hk => row_cell r1 k hk
    have R2 : Hid (∀ k, k < L → w4.cell? ⟨g2, k, none⟩ = some (.int .i32 (T.getD k (0, 0)).2)) := fun k hk => row_cell r2 k hk
    have R3 : Hid (∀ k, k < L → w4.cell? ⟨g3, k, none⟩ = some (.int .i32 (T.getD k (0, 0)).1)) := fun k hk => row_cell r3 k hk
    have R4 : Hid (∀ k, k < L → w4.cell? ⟨g4, k, none⟩ = some (.int .i32 (T.getD k (0, 0)).2)) := fun k hk => row_cell r4 k hk
    clear hZ hP hblk hso heo r1 r2 r3 r4 hb24 hL HPS HD
    go_wp2_with fail
    go_loopg [6] L (fun k v wr => ∃ (m q : Nat), k = L - m ∧ m ≤ L ∧ v = .int .i64 m ∧ wr = w4.drewN q)
    case atStart => exact ⟨0, 0, rfl, Nat.zero_le _, rfl, rfl⟩
    case round =>
      obtain ⟨m, q, rfl, hm, rfl, rfl⟩ := hrel
      by_cases hlt : m < L
      · have d1 := R1.out m hlt
        have d2 := R2.out m hlt
        have d3 := R3.out m hlt
        have d4 := R4.out m hlt
        have i1 : (0 : Int) ≤ (m : Int) := by omega
        have i2 : (m : Int) < (L : Int) := by omega
        generalize (T.getD m (0, 0)).1 = x at *
        generalize (T.getD m (0, 0)).2 = y at *
        go_wp2_with fail
        go_quiet (fail)
        go_wp2
        go_roundg (L - (m + 1))
        case measure => omega
        case rel => exact ⟨m + 1, _, rfl, by omega, by go_num, rfl⟩
      · have i2 : ¬ (m : Int) < (L : Int) := by omega
        go_wp2
        go_ret
        refine ⟨rfl, ?_⟩
        have hb := HB4.out
        exact ⟨hb.os, hb.tape, hb.output, hb.size, hb.block⟩

/-- Whatever the text. -/
theorem match_any (a0 : Option Addr) (len0 cap0 : Nat) (z0 : List Int) (w : World) (w0 : IsRow .u8 w a0 len0 cap0 z0) :
    Calls Try.prog 7 #[.slice a0 len0 cap0] w fun e w' => e = .returned (.bool true) ∧ Below w.heap.size w w' := by
  have m0 := w0.len_le
  by_cases hbig : len0 ≤ 1048576
  · by_cases hz : len0 = 0
    · subst hz
      have hby := bytes_yes a0 0 cap0 w (by omega)
      have hdoc := doc_empty w.heap.size cap0 a0 (w.alloc (.cells #[.slice a0 0 cap0, .int .i64 0, .slice none 0 0, .slice none 0 0] 44)) (by rw [cell_of_row _ _ 0 _ _ _ (heap_alloc_new w _)]; rfl) (by rw [cell_of_row _ _ 1 _ _ _ (heap_alloc_new w _)]; rfl)
      clear w0
      go_enter Try.func7, Try.ntmps7
      go_wp2_with (first | (go_at_call 25; refine hby.mono ?_; rintro e w ⟨rfl, rfl⟩) | (go_at_call 26; refine hdoc.mono ?_; rintro e w2 ⟨rfl, q, rfl⟩))
      go_ret
      refine ⟨rfl, ?_⟩
      have hb := (Below.refl w.heap.size w).alloc (Nat.le_refl _) (.cells #[.slice a0 0 cap0, .int .i64 0, .slice none 0 0, .slice none 0 0] 44)
      exact ⟨hb.os, hb.tape, hb.output, hb.size, hb.block⟩
    · rcases w0 with ⟨_, h1, _⟩ | ⟨x, rfl, hl, hm, hzl, hcell, hwf⟩
      · exact absurd h1 hz
      · obtain ⟨b, off, rfl, hc⟩ := ints_at hcell (by omega)
        exact match_main b off len0 cap0 z0 w hbig (by omega) (by omega) hc hwf
  · have hby := bytes_no a0 len0 cap0 w m0 hbig
    clear w0
    go_enter Try.func7, Try.ntmps7
    go_wp2_with (go_at_call 25; refine hby.mono ?_; rintro e w ⟨rfl, rfl⟩)
    go_ret
    exact ⟨rfl, Below.refl _ _⟩
end Go.Proofs.Qxb6603026a
