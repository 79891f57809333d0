/-
  Walks of seat b6603026a: word.
-/
import Derived.Test.Qxb6603026aState
import Derived.Deep.RegionLaw
namespace Go.Proofs.Qxb6603026a
open Go.RowKit Gram
attribute [local go_sem ↓] Go.wp_at_zero Go.wp_at_succ

theorem wrap_sum {a b u : Nat} (h : u = a + b) (hb : u ≤ 2097152) : IntKind.i64.wrap ((a : Int) + (b : Int)) = (u : Int) := by
  rw [IntWalk.i64_in _ (by omega)]; omega

section
variable {W : World} {P rb ro n cap : Nat} {raw : List Int} {w : World} {pos : Nat} {sv ev : Value} {T : List (Int × Int)}

set_option maxHeartbeats 2000000 in
theorem word_tail (C : Ctx W P rb ro n raw) (h : PS W P rb ro n cap w pos sv ev T) (s : ByteArray) (h0 : 0 < s.size) (h5 : s.size ≤ 5) :
    Calls Try.prog 44 #[.pointer (some ⟨P, 0, none⟩), .string s] w fun e w' => ∃ b, e = .returned (.bool b) ∧ Below P W w' ∧
      (b = true → ∃ sv' ev', PS W P rb ro n cap w' (pos + s.size) sv' ev' (T ++ [((pos : Int), ((pos + s.size : Nat) : Int))]) ∧ ∀ j (hj : j < s.size), rd raw (pos + j) = (s[j].toNat : Int)) := by
  have hbig := C.big
  have hpn := h.pn
  have HC : Hid (Ctx W P rb ro n raw) := C
  have HP : Hid (PS W P rb ro n cap w pos sv ev T) := h
  have c0 := h.c0
  have c1 := h.c1
  obtain ⟨i0, hi, hz0, hz1, hz2⟩ := info_parts info21
  by_cases hlt : pos + s.size ≤ n
  · have j1 : decide ((n : Int) - (pos : Int) < (s.size : Int)) = false := by simp; omega
    clear C h
    go_enter Try.func44, Try.ntmps44
    go_wp2_with fail
    go_quiet (fail)
    go_wp2
    go_loopg [5] (s.size) (fun k v wr => ∃ (t q : Nat), k = s.size - t ∧ t ≤ s.size ∧ v = .int .i64 t ∧ wr = w.drewN q ∧ ∀ j (hj : j < s.size), j < t → rd raw (pos + j) = (s[j].toNat : Int))
    case atStart => exact ⟨0, _, rfl, Nat.zero_le _, rfl, rfl, fun j _ h => by omega⟩
    case round =>
      obtain ⟨t, q, rfl, htl, rfl, rfl, hm⟩ := hrel
      have HM : Hid (∀ j (hj : j < s.size), j < t → rd raw (pos + j) = (s[j].toNat : Int)) := hm
      clear hm
      by_cases ht : t < s.size
      · have c := HP.out.rc HC.out (pos + t) (by omega)
        have hb := HC.out.byte (pos + t) (by omega)
        obtain ⟨u, hu⟩ : ∃ u, u = pos + t := ⟨_, rfl⟩
        have hwr := wrap_sum hu (by omega)
        rw [← hu] at c hb
        have HU : Hid (u = pos + t) := hu
        have k1 : (0 : Int) ≤ (u : Int) := by omega
        have k2 : (u : Int) < (n : Int) := by omega
        have k3 : (t : Int) < (s.size : Int) := by omega
        clear hu
        generalize hx : rd raw u = x at *
        have HX : Hid (rd raw u = x) := hx
        clear hx
        by_cases he : x = (s[t].toNat : Int)
        · have e1 : (x != (s[t].toNat : Int)) = false := by simp [he]
          have HE : Hid (x = (s[t].toNat : Int)) := he
          clear he
          go_wp2
          go_quiet (fail)
          go_wp2
          go_roundg (s.size - (t + 1))
          case measure => omega
          case rel =>
            refine ⟨t + 1, _, rfl, by omega, by go_num, rfl, fun j hj h => ?_⟩
            by_cases e : j = t
            · subst e; rw [← HU.out, HX.out]; exact HE.out
            · exact HM.out j hj (by omega)
        · have e1 : (x != (s[t].toNat : Int)) = true := by simpa using he
          clear he
          go_wp2
          go_quiet (fail)
          go_wp2
          go_ret
          exact ⟨false, rfl, ((HP.out.drewN _).drewN _).below, fun h => by cases h⟩
      · obtain rfl : t = s.size := by omega
        have hC0 := HP.out.toC.drewN q
        have hTl := HP.out.le
        have hSl : (T.map (·.1)).length ≤ pos := by simpa using hTl
        have hEl : (T.map (·.2)).length ≤ pos := by simpa using hTl
        clear c0 c1
        generalize w.drewN q = v at *
        generalize hS : T.map (·.1) = S at *
        generalize hE : T.map (·.2) = E at *
        have HSE : Hid (T.map (·.1) = S ∧ T.map (·.2) = E) := ⟨hS, hE⟩
        have HC0 : Hid (PC W P rb ro n cap v pos sv ev S E) := hC0
        clear hS hE
        have c1 := hC0.c1
        have c2 := hC0.c2
        have hPl := hC0.lt
        have hso := hC0.so
        have wr32 : IntKind.i32.wrap (pos : Int) = (pos : Int) := IntWalk.i32_in _ (by omega)
        clear hC0
        go_upto_region 8 with fail
        go_cut [] (fun wr => ∃ sv', PC W P rb ro n cap wr pos sv' ev (S ++ [(pos : Int)]) E)
        case first =>
          go_region_law
            ((refine step_append_lies _ (by rfl) _ _ _ (by rfl) (P + 1) 21 i0 _ 1 4 Try.underlying42 hi hz0 hz1 hz2 rfl (by omega) sv _ _ (by rfl) ((hso.alloc _).drew) ⟨v.heap.size, 0, none⟩ 1 1 [.int .i32 (pos : Int)] (by rfl) (by rfl) (World.news_of_block (cs := #[.int .i32 (pos : Int)]) (t := 21) (fr := (0, 0)) (heap_alloc_new v _)) (by simp [Value.oneCell']) (by omega) (by unfold maxLen; omega) (by omega) (by simp; omega) (v.heap.size + 1) (by simp) ?_; intro g cp w1 hown1 hgrow hat hlt1; have q2 := blk_c ((HC0.out.alloc _).drew.blkS hgrow) 2; have qf := blk_f ((HC0.out.alloc _).drew.blkS hgrow) 2))
          all_goals
            go_wp2
            go_meet
            case rel => exact ⟨_, (HC0.out.alloc _).drew.appendS (by simp) hown1 hgrow hat⟩
        case rest =>
          obtain ⟨sv', hC1⟩ := hcut
          clear c1 c2 hPl hso HC0 wr32
          have HC1 : Hid (PC W P rb ro n cap wc pos sv' ev (S ++ [(pos : Int)]) E) := hC1
          have c1 := hC1.c1
          have f1 := hC1.fz 1
          clear hC1
          obtain ⟨pe, hpe⟩ : ∃ pe, pe = pos + s.size := ⟨_, rfl⟩
          have HPE : Hid (pe = pos + s.size) := hpe
          have hpe1 : pe ≤ n := by omega
          have wr32 : IntKind.i32.wrap (pe : Int) = (pe : Int) := IntWalk.i32_in _ (by omega)
          have hpe2 : pos + 1 ≤ pe := by omega
          have HST : Hid (PC W P rb ro n cap (wc.setCell ⟨P, 1, none⟩ (.int .i64 ((pos : Int) + (s.size : Int)))) pe sv' ev (S ++ [(pos : Int)]) E) := HC1.out.setPos pe _ (by omega)
          clear hpe HC1
          go_upto_region 10 with fail
          generalize wc.setCell ⟨P, 1, none⟩ (.int .i64 ((pos : Int) + (s.size : Int))) = v2 at *
          have hC2 := HST.out
          have hSl' : E.length ≤ pos := hEl
          clear c1 f1
          have c1 := hC2.c1
          have c3 := hC2.c3
          have hPl := hC2.lt
          have heo := hC2.eo
          clear hC2
          go_cut [] (fun wr => ∃ ev', PC W P rb ro n cap wr pe sv' ev' (S ++ [(pos : Int)]) (E ++ [(pe : Int)]))
          case first =>
            go_region_law
              ((refine step_append_lies _ (by rfl) _ _ _ (by rfl) (P + 1) 21 i0 _ 1 4 Try.underlying42 hi hz0 hz1 hz2 rfl (by omega) ev _ _ (by rfl) ((heo.alloc _).drew) ⟨v2.heap.size, 0, none⟩ 1 1 [.int .i32 (pe : Int)] (by rfl) (by rfl) (World.news_of_block (cs := #[.int .i32 (pe : Int)]) (t := 21) (fr := (0, 0)) (heap_alloc_new v2 _)) (by simp [Value.oneCell']) (by omega) (by unfold maxLen; omega) (by omega) (by simp; omega) (v2.heap.size + 1) (by simp) ?_; intro g cp w1 hown1 hgrow hat hlt1; have q2 := blk_c ((HST.out.alloc _).drew.blkE hgrow) 3; have qf := blk_f ((HST.out.alloc _).drew.blkE hgrow) 3))
            all_goals
              go_wp2
              go_meet
              case rel => exact ⟨_, (HST.out.alloc _).drew.appendE (by simp) hown1 hgrow hat⟩
          case rest =>
            obtain ⟨ev', hC3⟩ := hcut
            go_wp2
            go_ret
            refine ⟨true, rfl, hC3.below, fun _ => ⟨sv', ev', ?_, fun j hj => HM.out j hj hj⟩⟩
            rw [← HSE.out.1, ← HSE.out.2] at hC3
            rw [← HPE.out]
            exact PC.toS (by simpa using hC3) (by simp; omega) hpe1
  · have j1 : decide ((n : Int) - (pos : Int) < (s.size : Int)) = true := by simp; omega
    clear C h
    go_enter Try.func44, Try.ntmps44
    go_wp2_with fail
    go_quiet (fail)
    go_wp2
    go_ret
    exact ⟨false, rfl, (HP.out.drewN _).below, fun h => by cases h⟩
end
end Go.Proofs.Qxb6603026a
