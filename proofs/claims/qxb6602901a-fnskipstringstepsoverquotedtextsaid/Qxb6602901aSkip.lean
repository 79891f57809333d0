/-
  Walks of seat b6602901a: bytes.IndexByte, skipString at a quoted text.
-/
import Derived.Test.Qxb6602901aQuote
import Derived.Shelf.Bytes.SlIndexAt
namespace Go.Proofs.Qxb6602901a
open Go.RowKit

set_option maxRecDepth 100000 in
theorem index_any (a : Addr) (n c : Nat) (xs : List Int) (w : World) (hx : xs.length = n) (hc : ∀ i, i < n → w.cell? (a.add i) = some (.int .u8 (xs.getD i 0))) :
    Calls Try.prog 26 #[.slice (some a) n c, .int .u8 34] w fun e w' => e = .returned (.int .i64 (Lib.indexByte (Lib.bytesOf xs) 34)) ∧ w' = w := by
  go_enter Try.func26, Try.ntmps26
  go_wp2
  rw [run_callFunc_extern Try.func27 (by kernel_rfl) (by kernel_rfl) (by kernel_rfl) (e := Extern.BytealgIndexByte.indexByte) (by kernel_rfl), Lib.run_indexByteAt w a n c xs hx hc 34]
  simp only [Result.andThen]
  rw [Oper.upon_value]
  go_wp2
  go_ret
  exact ⟨rfl, rfl⟩

/-- The cells of what is left of a row behind a place. -/
theorem cells_behind {w : World} {g n i : Nat} {d : List Int} (hc : ∀ k, k < n → w.cell? ⟨g, k, none⟩ = some (.int .u8 (d.getD k 0))) :
    ∀ j, j < n - i → w.cell? ((⟨g, i, none⟩ : Addr).add j) = some (.int .u8 ((d.drop i).getD j 0)) := by
  intro j hj
  rw [Addr.add_lit, hc (i + j) (by omega)]
  simp [List.getD_eq_getElem?_getD, List.getElem?_drop]

theorem ret_int {k : IntKind} {a b : Int} (h : a = b) : Ending.returned (.int k a) = .returned (.int k b) := by rw [h]

set_option maxHeartbeats 1000000 in
theorem skip_text (g cap : Nat) (c s : List Int) (w : World) (hb : ∀ x ∈ c, 0 ≤ x ∧ x < 256) (hbig : (Plain.text c s).length ≤ 1048576) (hcap : (Plain.text c s).length ≤ cap)
    (hc : ∀ k, k < (Plain.text c s).length → w.cell? ⟨g, k, none⟩ = some (.int .u8 ((Plain.text c s).getD k 0))) :
    Calls Try.prog 23 #[.slice (some ⟨g, 0, none⟩) (Plain.text c s).length cap, .int .i64 0] w fun e w' => e = .returned (.int .i64 (((Plain.esc c).length + 2 : Nat) : Int)) ∧ w' = w := by
  have HC : Hid (∀ k, k < (Plain.text c s).length → w.cell? ⟨g, k, none⟩ = some (.int .u8 ((Plain.text c s).getD k 0))) := hc
  have HR : Hid (∀ i, Plain.At c i → ∃ q n : Nat, Lib.indexByte (Lib.bytesOf ((Plain.text c s).drop i)) 34 = (q : Int) ∧ 1 ≤ i ∧ i + q < (Plain.text c s).length ∧ Plain.Slashes (Plain.text c s) (i + q) n ∧
      ((n % 2 = 0 ∧ i + q + 1 = (Plain.esc c).length + 2) ∨ (n % 2 = 1 ∧ Plain.At c (i + q + 1)))) := fun i h => Plain.round_law c s hb i h
  have h0 : w.cell? ⟨g, 0, none⟩ = some (.int .u8 34) := hc 0 (by rw [Plain.text_length]; omega)
  have hpos : 0 < (Plain.text c s).length := by rw [Plain.text_length]; omega
  clear hc hb
  generalize hd : Plain.text c s = d at *
  have HD : Hid (Plain.text c s = d) := hd
  clear hd
  generalize hn : d.length = n at *
  have HN : Hid (d.length = n) := hn
  clear hn
  go_enter Try.func23, Try.ntmps23
  go_wp2
  go_loop [1] (fun t => ∃ i : Nat, Plain.At c i ∧ t = .int .i64 i) (fun t => n - (intOf t).toNat)
  case atStart => exact ⟨1, ⟨[], c, rfl, rfl⟩, rfl⟩
  case round =>
    obtain ⟨i, hat, rfl⟩ := hrel
    obtain ⟨q, m, hq, hi1, hiq, ⟨hmp, hyes, hno⟩, hend⟩ := HR.out i hat
    have hcells := cells_behind (i := i) HC.out
    have hlen : (d.drop i).length = n - i := by rw [List.length_drop, HN.out]
    have hidx := index_any ⟨g, i, none⟩ (n - i) (cap - i) (d.drop i) w hlen hcells
    rw [hq] at hidx
    have HIX := hidx
    clear hcells hlen hq h0
    go_wp2_with (go_at_call 26; refine HIX.mono ?_; rintro e w' ⟨rfl, rfl⟩)
    have HY : Hid (∀ t jn, jn + t + 1 = i + q → t < m → w'.cell? ⟨g, jn, none⟩ = some (.int .u8 92)) := by
      intro t jn he ht
      rw [HC.out jn (by omega), ← hyes t ht, show i + q - 1 - t = jn by omega]
    have HX : Hid (∀ jn, jn + m + 1 = i + q → ∃ x : Int, w'.cell? ⟨g, jn, none⟩ = some (.int .u8 x) ∧ (x == 92) = false) := by
      intro jn he
      refine ⟨d.getD jn 0, HC.out jn (by omega), ?_⟩
      rw [beq_eq_false_iff_ne, show jn = i + q - 1 - m by omega]
      exact hno
    clear hyes hno hidx HIX
    go_loop [6, 7] (fun bs j => ∃ t jn : Nat, t ≤ m ∧ jn + t + 1 = i + q ∧ bs = .int .i64 t ∧ j = .int .i64 jn) (fun bs _ => m - (intOf bs).toNat)
    case atStart => exact ⟨0, i + q - 1, Nat.zero_le _, by omega, rfl, by go_num⟩
    case round =>
      obtain ⟨t, jn, htm, hjn, rfl, rfl⟩ := hrel
      have HJ : Hid (jn + t + 1 = i + q) := hjn
      have hjle : jn < n := by omega
      have hjb : t < n := by omega
      clear hjn
      by_cases htl : t < m
      · have hcell := HY.out t jn HJ.out htl
        have hj1 : 1 ≤ jn := by have := HJ.out; omega
        go_wp2
        go_round
        case rel => exact ⟨t + 1, jn - 1, by omega, by have := HJ.out; omega, by go_num, by go_num⟩
        case measure => simp [intOf]; omega
      · obtain rfl : t = m := by omega
        obtain ⟨x, hcell, hx⟩ := HX.out jn HJ.out
        rcases hend with ⟨hev, hfin⟩ | ⟨hodd, hat'⟩
        · have HF : Hid (i + q + 1 = (Plain.esc c).length + 2) := hfin
          have hz : ((t : Int) % 2 == 0) = true := by rw [beq_iff_eq]; omega
          clear hfin hev
          go_wp2
          go_ret
          exact ⟨ret_int (by have := HF.out; omega), rfl⟩
        · have hz : ((t : Int) % 2 == 0) = false := by rw [beq_eq_false_iff_ne]; omega
          clear hodd
          go_wp2
          go_round
          case rel => exact ⟨i + q + 1, hat', by go_num⟩
          case measure => simp [intOf]; omega

theorem zzskip_text (g cap : Nat) (c s : List Int) (w : World) (hb : ∀ x ∈ c, 0 ≤ x ∧ x < 256) (hbig : (Plain.text c s).length ≤ 1048576) (hcap : (Plain.text c s).length ≤ cap)
    (hc : ∀ k, k < (Plain.text c s).length → w.cell? ⟨g, k, none⟩ = some (.int .u8 ((Plain.text c s).getD k 0))) :
    Calls Try.prog 16 #[.slice (some ⟨g, 0, none⟩) (Plain.text c s).length cap, .int .i64 0] w fun e w' => e = .returned (.int .i64 (((Plain.esc c).length + 2 : Nat) : Int)) ∧ w' = w := by
  have H := skip_text g cap c s w hb hbig hcap hc
  clear hc hb
  generalize (Plain.text c s).length = n at *
  generalize (Plain.esc c).length + 2 = m at *
  go_enter Try.func16, Try.ntmps16
  go_wp2_with (go_at_call 23; refine H.mono ?_; rintro e w' ⟨rfl, rfl⟩)
  go_ret
  exact ⟨rfl, rfl⟩

/-- The same at a row of the call's own. -/
theorem zzskip_own (B n : Nat) (v : Value) (c s : List Int) (w : World) (hb : ∀ x ∈ c, 0 ≤ x ∧ x < 256) (hbig : n ≤ 1048576)
    (h : w.ownsRow B 5 1 v n ((Plain.text c s).map (Value.int .u8))) :
    Calls Try.prog 16 #[v, .int .i64 0] w fun e w' => e = .returned (.int .i64 (((Plain.esc c).length + 2 : Nat) : Int)) ∧ w' = w := by
  have hn : (Plain.text c s).length = n := by have := h.1; simpa using this
  have ht := Plain.text_length c s
  rcases h.2 with ⟨rfl, rfl⟩ | ⟨g, cap, cur, rfl, _, _, hnc, _⟩
  · omega
  · subst hn
    refine zzskip_text g cap c s w hb hbig hnc (fun k hk => ?_)
    rw [h.cellAt k (by omega), List.getElem?_map, List.getElem?_eq_getElem hk, List.getD_eq_getElem?_getD, List.getElem?_eq_getElem hk]
    rfl
end Go.Proofs.Qxb6602901a
