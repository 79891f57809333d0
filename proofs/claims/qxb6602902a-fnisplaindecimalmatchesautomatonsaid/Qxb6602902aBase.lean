/-
  Walks of seat b6602902a.
-/
import Derived.Test.Qxb6602902aRows
import Derived.Test.Qxb6602902aPlain
import Derived.WalkKit
import Derived.WalkSpells
import Derived.WalkLawsBesides
import Derived.OpenShut
import Derived.Deep.QuietTactic
import Derived.BigQuiet
import Derived.Deep.Draws
namespace Go.Proofs.Qxb6602902a
open Go.RowKit Plain

theorem ret_bool {a b : Bool} (h : a = b) : Ending.returned (.bool a) = .returned (.bool b) := by rw [h]

/-- zzQ1IsDigitByte. -/
theorem digit_any (c : Int) (w : World) :
    Calls Try.prog 8 #[.int .u8 c] w fun e w' => e = .returned (.bool (dig c)) ∧ w' = w := by
  by_cases h : 48 ≤ c ∧ c ≤ 57
  · have hd : dig c = true := by simp [dig, h]
    rw [hd]
    rcases (show c = 48 ∨ c = 49 ∨ c = 50 ∨ c = 51 ∨ c = 52 ∨ c = 53 ∨ c = 54 ∨ c = 55 ∨ c = 56 ∨ c = 57 by omega) with h | h | h | h | h | h | h | h | h | h
    all_goals
      subst h
      clear hd
      go_enter Try.func8, Try.ntmps8
      go_wp2
      go_ret
      exact ⟨rfl, rfl⟩
  · have hd : dig c = false := by simp [dig, h]
    rw [hd]
    have e0 : (c == 48) = false := by rw [beq_eq_false_iff_ne]; omega
    have e1 : (c == 49) = false := by rw [beq_eq_false_iff_ne]; omega
    have e2 : (c == 50) = false := by rw [beq_eq_false_iff_ne]; omega
    have e3 : (c == 51) = false := by rw [beq_eq_false_iff_ne]; omega
    have e4 : (c == 52) = false := by rw [beq_eq_false_iff_ne]; omega
    have e5 : (c == 53) = false := by rw [beq_eq_false_iff_ne]; omega
    have e6 : (c == 54) = false := by rw [beq_eq_false_iff_ne]; omega
    have e7 : (c == 55) = false := by rw [beq_eq_false_iff_ne]; omega
    have e8 : (c == 56) = false := by rw [beq_eq_false_iff_ne]; omega
    have e9 : (c == 57) = false := by rw [beq_eq_false_iff_ne]; omega
    clear h hd
    go_enter Try.func8, Try.ntmps8
    go_wp2
    go_ret
    exact ⟨rfl, rfl⟩

theorem all_go {l : List Int} {k : Nat} {x : Int} {r : List Int} (h1 : l.all dig = (l.drop k).all dig) (h2 : l.drop k = x :: r) (hx : 48 ≤ x ∧ x ≤ 57) : l.all dig = r.all dig := by
  have : dig x = true := by simp [dig, hx]
  rw [h1, h2]; simp [this]

theorem all_stop {l : List Int} {k : Nat} {x : Int} {r : List Int} (h1 : l.all dig = (l.drop k).all dig) (h2 : l.drop k = x :: r) (hx : ¬ (48 ≤ x ∧ x ≤ 57)) : allDig l = false := by
  have : dig x = false := by simp [dig, hx]
  unfold allDig; rw [h1, h2]; simp [this]

theorem all_end {s : ByteArray} (h1 : (nums s).all dig = ((nums s).drop s.size).all dig) : (!s.toList.isEmpty) = allDig (nums s) := by
  have e : (nums s).drop s.size = [] := List.drop_of_length_le (by rw [nums_length]; exact Nat.le_refl _)
  unfold allDig; rw [h1, e, Lib.toList_data]
  simp [nums]

/-- isDigits. -/
theorem digits_any (s : ByteArray) (w : World) (hs : s.size ≤ 1048576) :
    Calls Try.prog 14 #[.string s] w fun e w' => e = .returned (.bool (allDig (nums s))) ∧ w' = w := by
  have HN : Hid ((nums s).length = s.size) := nums_length s
  have HG : Hid (∀ k (h : k < s.size), (nums s).drop k = (s[k].toNat : Int) :: (nums s).drop (k + 1)) := nums_get s
  go_enter Try.func14, Try.ntmps14
  go_wp2
  go_loop [3] (fun i => ∃ k : Nat, k ≤ s.size ∧ i = .int .i64 k ∧ (nums s).all dig = ((nums s).drop k).all dig) (fun i => s.size - (intOf i).toNat)
  case atStart => exact ⟨0, Nat.zero_le _, rfl, rfl⟩
  case round =>
    obtain ⟨k, hk, rfl, hall⟩ := hrel
    have HA : Hid ((nums s).all dig = ((nums s).drop k).all dig) := hall
    clear hall
    by_cases hlt : k < s.size
    · have hg := HG.out k hlt
      have HGK : Hid ((nums s).drop k = (s[k].toNat : Int) :: (nums s).drop (k + 1)) := hg
      clear hg
      by_cases hd : 48 ≤ (s[k].toNat : Int) ∧ (s[k].toNat : Int) ≤ 57
      · obtain ⟨hd1, hd2⟩ := hd
        go_wp2
        go_round
        case rel => exact ⟨k + 1, by omega, by go_num, all_go HA.out HGK.out (by omega)⟩
        case measure => simp [intOf]; omega
      · by_cases hd1 : (s[k].toNat : Int) < 48
        · go_wp2
          go_ret
          exact ⟨ret_bool (all_stop HA.out HGK.out (by omega)).symm, rfl⟩
        · have hd2 : 57 < (s[k].toNat : Int) := by omega
          go_wp2
          go_ret
          exact ⟨ret_bool (all_stop HA.out HGK.out (by omega)).symm, rfl⟩
    · obtain rfl : k = s.size := by omega
      go_wp2
      go_ret
      exact ⟨ret_bool (all_end HA.out), rfl⟩

/-- Does it begin with a minus sign? -/
def hp (s : ByteArray) : Bool := (s.extract 0 1).toList == [45]

theorem hp_empty (s : ByteArray) (h : s.size = 0) : hp s = false := by
  have : s.data.toList = [] := List.eq_nil_of_length_eq_zero (by simpa using h)
  unfold hp
  rw [Lib.toList_data, Lib.extract_data, this]
  rfl

theorem trim_hp (s : ByteArray) : trim (nums s) = if hp s = true then nums (s.extract 1 s.size) else nums s := by
  have e1 : nums (s.extract 1 s.size) = (nums s).drop 1 := by
    rw [nums_extract, List.take_of_length_le]
    rw [List.length_drop, nums_length]; exact Nat.le_refl _
  rw [e1]
  unfold hp
  rw [Lib.toList_data, Lib.extract_data]
  unfold nums
  cases s.data.toList with
  | nil => rfl
  | cons c r =>
    by_cases hc : c = 45
    · subst hc; simp [trim]
    · have hne : ¬ ((c.toNat : Int) = 45) := by
        intro h
        apply hc
        apply UInt8.toNat_inj.1
        simp
        omega
      simp [trim, hne, hc]

/-- internal/stringslite.HasPrefix at one byte. -/
theorem begins_any (s : ByteArray) (w : World) (hs : s.size ≤ 1048576) :
    Calls Try.prog 21 #[.string s, .string ⟨#[45]⟩] w fun e w' => e = .returned (.bool (hp s)) ∧ w' = w := by
  by_cases h0 : s.size = 0
  · rw [hp_empty s h0]
    have hd : decide ((1 : Int) ≤ (s.size : Int)) = false := by simp; omega
    go_enter Try.func21, Try.ntmps21
    go_wp2
    go_ret
    exact ⟨rfl, rfl⟩
  · have hd : (1 : Int) ≤ (s.size : Int) := by omega
    go_enter Try.func21, Try.ntmps21
    go_wp2
    go_ret
    exact ⟨rfl, rfl⟩

theorem trim_yes (s : ByteArray) (w : World) (hs : s.size ≤ 1048576) (h : hp s = true) :
    Calls Try.prog 17 #[.string s, .string ⟨#[45]⟩] w fun e w' => e = .returned (.string (s.extract 1 s.size)) ∧ w' = w := by
  have h0 : ¬ s.size = 0 := by intro h0; rw [hp_empty s h0] at h; cases h
  have hp1 := begins_any s w hs
  rw [h] at hp1
  have H : Calls Try.prog 19 #[.string s, .string ⟨#[45]⟩] w fun e w' => e = .returned (.string (s.extract 1 s.size)) ∧ w' = w := by
    clear h
    have hd : (1 : Int) ≤ (s.size : Int) := by omega
    go_enter Try.func19, Try.ntmps19
    go_wp2_with (go_at_call 21; refine hp1.mono ?_; rintro e w ⟨rfl, rfl⟩)
    go_ret
    exact ⟨rfl, rfl⟩
  clear hp1 h
  go_enter Try.func17, Try.ntmps17
  go_wp2_with (go_at_call 19; refine H.mono ?_; rintro e w ⟨rfl, rfl⟩)
  go_ret
  exact ⟨rfl, rfl⟩

theorem trim_no (s : ByteArray) (w : World) (hs : s.size ≤ 1048576) (h : hp s = false) :
    Calls Try.prog 17 #[.string s, .string ⟨#[45]⟩] w fun e w' => e = .returned (.string s) ∧ w' = w := by
  have hp1 := begins_any s w hs
  rw [h] at hp1
  have H : Calls Try.prog 19 #[.string s, .string ⟨#[45]⟩] w fun e w' => e = .returned (.string s) ∧ w' = w := by
    clear h
    go_enter Try.func19, Try.ntmps19
    go_wp2_with (go_at_call 21; refine hp1.mono ?_; rintro e w ⟨rfl, rfl⟩)
    go_ret
    exact ⟨rfl, rfl⟩
  clear hp1 h
  go_enter Try.func17, Try.ntmps17
  go_wp2_with (go_at_call 19; refine H.mono ?_; rintro e w ⟨rfl, rfl⟩)
  go_ret
  exact ⟨rfl, rfl⟩

/-- internal/stringslite.Index at one byte. -/
theorem index_any (s : ByteArray) (w : World) :
    Calls Try.prog 20 #[.string s, .string ⟨#[46]⟩] w fun e w' => e = .returned (.int .i64 (Lib.indexByte s.data.toList 46)) ∧ w' = w := by
  have hix : ∀ w, Calls Try.prog 22 #[.string s, .int .u8 46] w fun e w' => e = .returned (.int .i64 (Lib.indexByte s.data.toList 46)) ∧ w' = w := by
    intro w
    go_enter Try.func22, Try.ntmps22
    go_wp2
    rw [run_callFunc_extern Try.func26 (by kernel_rfl) (by kernel_rfl) (by kernel_rfl) (e := Extern.BytealgIndexByte.indexByte) (by kernel_rfl), Lib.run_indexByteString]
    simp only [Result.andThen]
    rw [Oper.upon_value]
    go_wp2
    go_ret
    exact ⟨rfl, rfl⟩
  by_cases hE : ([46] == s.toList) = true
  · have e : s.data.toList = [46] := by rw [← Lib.toList_data]; exact (beq_iff_eq.1 hE).symm
    have e2 : Lib.indexByte s.data.toList 46 = 0 := by rw [e]; rfl
    rw [e2]
    clear e e2 hix
    go_enter Try.func20, Try.ntmps20
    go_wp2_with fail
    go_ret
    exact ⟨rfl, rfl⟩
  · have hE' : ([46] == s.toList) = false := by simpa using hE
    clear hE
    go_enter Try.func20, Try.ntmps20
    go_wp2_with (go_at_call 22; refine (hix _).mono ?_; rintro e w ⟨rfl, rfl⟩)
    go_ret
    exact ⟨rfl, rfl⟩

theorem cut_no (s : ByteArray) (w : World) (hi : Lib.indexByte s.data.toList 46 = -1) :
    Calls Try.prog 16 #[.string s, .string ⟨#[46]⟩] w fun e w' => e = .returned (.tuple #[.string s, .string ⟨#[]⟩, .bool false]) ∧ w' = w := by
  have hix := index_any s w
  rw [hi] at hix
  clear hi
  have H : Calls Try.prog 18 #[.string s, .string ⟨#[46]⟩] w fun e w' => e = .returned (.tuple #[.string s, .string ⟨#[]⟩, .bool false]) ∧ w' = w := by
    go_enter Try.func18, Try.ntmps18
    go_wp2_with (go_at_call 20; refine hix.mono ?_; rintro e w ⟨rfl, rfl⟩)
    go_ret3
    exact ⟨rfl, rfl⟩
  clear hix
  go_enter Try.func16, Try.ntmps16
  go_wp2_with (go_at_call 18; refine H.mono ?_; rintro e w ⟨rfl, rfl⟩)
  go_ret3
  exact ⟨rfl, rfl⟩

set_option maxHeartbeats 1000000 in
theorem cut_yes (s : ByteArray) (w : World) (i : Nat) (hi : Lib.indexByte s.data.toList 46 = (i : Int)) (hl : i < s.size) (hs : s.size ≤ 1048576) :
    Calls Try.prog 16 #[.string s, .string ⟨#[46]⟩] w fun e w' => e = .returned (.tuple #[.string (s.extract 0 i), .string (s.extract (i + 1) s.size), .bool true]) ∧ ∃ n, w' = w.drewN n := by
  have hix := index_any s w
  rw [hi] at hix
  clear hi
  have H : Calls Try.prog 18 #[.string s, .string ⟨#[46]⟩] w fun e w' => e = .returned (.tuple #[.string (s.extract 0 i), .string (s.extract (i + 1) s.size), .bool true]) ∧ ∃ n, w' = w.drewN n := by
    have c1 : (0 : Int) ≤ ↑i := by omega
    have c2 : (↑i : Int) ≤ ↑s.size := by omega
    have c3 : (0 : Int) ≤ ↑i + 1 := by omega
    have c4 : (↑i + 1 : Int) ≤ ↑s.size := by omega
    go_enter Try.func18, Try.ntmps18
    go_wp2_with (go_at_call 20; refine hix.mono ?_; rintro e w ⟨rfl, rfl⟩)
    go_quiet (fail)
    go_wp2
    go_ret3
    exact ⟨rfl, _, rfl⟩
  clear hix
  go_enter Try.func16, Try.ntmps16
  go_wp2_with (go_at_call 18; refine H.mono ?_; rintro e w' ⟨rfl, n, rfl⟩)
  go_ret3
  exact ⟨rfl, n, rfl⟩

end Go.Proofs.Qxb6602902a
