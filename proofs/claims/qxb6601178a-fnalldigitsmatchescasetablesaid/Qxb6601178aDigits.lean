/- allDigits and the table of the ten digits; the walk of FnAllDigitsMatchesCaseTable. -/
import Derived.Test.Qxb6601178aRows
import Derived.WalkKit
import Derived.WalkSpells
import Derived.WalkLawsBesides
import Derived.Deep.QuietTactic
import Derived.BigQuiet
import Derived.PlainAid
namespace Go.Proofs.Qxb6601178a
open Go.RowKit Go.PlainAid

theorem ret_bool {a b : Bool} (h : a = b) : Ending.returned (.bool a) = .returned (.bool b) := by rw [h]

theorem notEmpty {s : ByteArray} (h : 0 < s.size) : s.toList.isEmpty = false := by
  rw [ByteArray.toList_eq]
  cases e : s.data.toList with
  | nil => have : s.data.toList.length = 0 := by rw [e]; rfl
           have h' : 0 < s.data.size := h
           simp at this; rw [this] at h'; simp at h'
  | cons => rfl

/-- The bytes below k are digits. -/
def Digs (s : ByteArray) (k : Nat) : Prop := ∀ j, j < k → 48 ≤ bt s j ∧ bt s j ≤ 57
theorem digs_snoc {s : ByteArray} {k : Nat} (h : Digs s k) (h1 : 48 ≤ bt s k) (h2 : bt s k ≤ 57) : Digs s (k + 1) := fun j hj => by
  rcases Nat.lt_succ_iff_lt_or_eq.mp hj with h' | rfl
  · exact h j h'
  · exact ⟨h1, h2⟩
/-- How many bytes below k are no digits. -/
def cnt (s : ByteArray) : Nat → Int
  | 0 => 0
  | k + 1 => cnt s k + if 48 ≤ bt s k ∧ bt s k ≤ 57 then 0 else 1
theorem cnt_bd (s : ByteArray) : ∀ k, 0 ≤ cnt s k ∧ cnt s k ≤ k
  | 0 => by simp [cnt]
  | k + 1 => by
    have := cnt_bd s k
    unfold cnt; split <;> omega
theorem cnt_yes {s : ByteArray} {k : Nat} (h : 48 ≤ bt s k ∧ bt s k ≤ 57) : cnt s (k + 1) = cnt s k := by simp [cnt, h]
theorem cnt_no {s : ByteArray} {k : Nat} (h : ¬ (48 ≤ bt s k ∧ bt s k ≤ 57)) : cnt s (k + 1) = cnt s k + 1 := by simp [cnt, h]
theorem cnt_zero (s : ByteArray) : ∀ k, cnt s k = 0 ↔ Digs s k
  | 0 => by simp [cnt, Digs]
  | k + 1 => by
    have ih := cnt_zero s k
    have b := cnt_bd s k
    by_cases h : 48 ≤ bt s k ∧ bt s k ≤ 57
    · rw [cnt_yes h, ih]
      exact ⟨fun H => digs_snoc H h.1 h.2, fun H j hj => H j (by omega)⟩
    · rw [cnt_no h]
      exact ⟨fun H => by omega, fun H => absurd (H k (by omega)) h⟩

theorem law_some {s : ByteArray} {b : Bool} (hb : b = true ↔ (0 < s.size ∧ Digs s s.size)) (hp : 0 < s.size) : b = (cnt s s.size == 0) := by
  rw [Bool.eq_iff_iff, hb, ← cnt_zero]; simp [hp]
theorem law_none {s : ByteArray} {b : Bool} (hb : b = true ↔ (0 < s.size ∧ Digs s s.size)) (hp : ¬ 0 < s.size) : b = false := by
  cases b; rfl; exact absurd (hb.1 rfl).1 hp

set_option maxHeartbeats 800000 in
theorem digit_yes (c : Int) (w : World) (h1 : 48 ≤ c) (h2 : c ≤ 57) :
    Calls Try.prog 9 #[.int .u8 c] w fun e w' => e = .returned (.bool true) ∧ w' = w := by
  obtain rfl | rfl | rfl | rfl | rfl | rfl | rfl | rfl | rfl | rfl : c = 48 ∨ c = 49 ∨ c = 50 ∨ c = 51 ∨ c = 52 ∨ c = 53 ∨ c = 54 ∨ c = 55 ∨ c = 56 ∨ c = 57 := by omega
  all_goals
    clear h1 h2
    go_enter Try.func9, Try.ntmps9
    go_wp2
    go_ret
    exact ⟨rfl, rfl⟩

set_option maxHeartbeats 800000 in
theorem digit_no (c : Int) (w : World) (h : c < 48 ∨ 57 < c) :
    Calls Try.prog 9 #[.int .u8 c] w fun e w' => e = .returned (.bool false) ∧ w' = w := by
  rcases h with h | h
  all_goals
    go_enter Try.func9, Try.ntmps9
    go_wp2
    go_ret
    exact ⟨rfl, rfl⟩

set_option maxHeartbeats 400000 in
theorem all_is (s : ByteArray) (b : Bool) (w : World) (hs : s.size ≤ maxLen) (hb : b = true ↔ (0 < s.size ∧ Digs s s.size)) :
    Calls Try.prog 18 #[.string s] w fun e w' => e = .returned (.bool b) ∧ w' = w := by
  unfold maxLen at hs
  have HB : Hid (b = true ↔ (0 < s.size ∧ Digs s s.size)) := hb
  have no : Hid (¬ (0 < s.size ∧ Digs s s.size) → b = false) := fun h => by cases b; rfl; exact absurd (hb.1 rfl) h
  clear hb
  by_cases h0 : s.size = 0
  · obtain rfl := no.out (by omega)
    obtain rfl : s = { data := #[] } := ByteArray.ext (Array.eq_empty_of_size_eq_zero h0)
    clear no HB h0 hs
    go_enter Try.func18, Try.ntmps18
    go_wp2
    go_ret
    exact ⟨rfl, rfl⟩
  · have hbt := get_bt s
    have hne : s.toList.isEmpty = false := notEmpty (by omega)
    have h1 : 0 < s.size := by omega
    clear h0
    go_enter Try.func18, Try.ntmps18
    go_wp2
    go_loop [8] (fun i => ∃ k : Nat, k ≤ s.size ∧ i = .int .i64 k ∧ Hid (Digs s k)) (fun i => s.size - (intOf i).toNat)
    case atStart => exact ⟨0, Nat.zero_le _, rfl, fun j hj => by omega⟩
    case round =>
      obtain ⟨k, hk, rfl, hD⟩ := hrel
      by_cases hlt : k < s.size
      · by_cases d1 : 48 ≤ bt s k
        · by_cases d2 : bt s k ≤ 57
          · have hD' : Hid (Digs s (k + 1)) := digs_snoc hD.out d1 d2
            go_wp2
            go_round
            case rel => exact ⟨k + 1, by omega, by go_num, hD'⟩
            case measure => simp [intOf]; omega
          · obtain rfl := no.out (fun h => d2 (h.2 k hlt).2)
            go_wp2
            go_ret
            exact ⟨rfl, rfl⟩
        · obtain rfl := no.out (fun h => d1 (h.2 k hlt).1)
          go_wp2
          go_ret
          exact ⟨rfl, rfl⟩
      · obtain rfl := HB.out.2 ⟨h1, fun j hj => hD.out j (by omega)⟩
        go_wp2
        go_ret
        exact ⟨rfl, rfl⟩

set_option maxHeartbeats 400000 in
theorem zzall_is (s : ByteArray) (b : Bool) (w : World) (hs : s.size ≤ maxLen) (hb : b = true ↔ (0 < s.size ∧ Digs s s.size)) :
    Calls Try.prog 10 #[.string s] w fun e w' => e = .returned (.bool b) ∧ w' = w := by
  have HB : Hid (b = true ↔ (0 < s.size ∧ Digs s s.size)) := hb
  clear hb
  go_enter Try.func10, Try.ntmps10
  go_wp2_with (go_at_call 18; refine (all_is _ b _ hs HB.out).mono ?_; rintro e w' ⟨rfl, rfl⟩)
  go_ret
  exact ⟨rfl, rfl⟩

set_option maxHeartbeats 400000 in
theorem bytes8_yes (a : ByteArray) (w : World) (h : a.size ≤ 1048576) :
    Calls Try.prog 8 #[.string a] w fun e w' => e = .returned (.bool true) ∧ w' = w := by
  go_enter Try.func8, Try.ntmps8
  go_wp2
  go_ret
  exact ⟨rfl, rfl⟩

set_option maxHeartbeats 400000 in
theorem bytes8_no (a : ByteArray) (w : World) (ha : a.size ≤ maxLen) (h : 1048576 < a.size) :
    Calls Try.prog 8 #[.string a] w fun e w' => e = .returned (.bool false) ∧ w' = w := by
  unfold maxLen at ha
  go_enter Try.func8, Try.ntmps8
  go_wp2
  go_ret
  exact ⟨rfl, rfl⟩

set_option maxHeartbeats 400000 in
theorem digits_walk (a0 : ByteArray) (w0 : a0.size ≤ maxLen) (w : World) :
    Calls Try.prog 3 #[.string a0] w fun e w' => e = .returned (.bool true) ∧ Grown w w' := by
  have w1 : a0.size ≤ 9223372036854775807 := by unfold maxLen at w0; omega
  obtain ⟨b, hb⟩ : ∃ b : Bool, b = true ↔ (0 < a0.size ∧ Digs a0 a0.size) := by
    by_cases h : (0 < a0.size ∧ Digs a0 a0.size)
    · exact ⟨true, by simp [h]⟩
    · exact ⟨false, by simp [h]⟩
  have HB : Hid (b = true ↔ (0 < a0.size ∧ Digs a0 a0.size)) := hb
  clear hb
  by_cases hsz : a0.size ≤ 1048576
  · have hbt := get_bt a0
    go_enter Try.func3, Try.ntmps3
    go_wp2_with (go_at_call 8; refine (bytes8_yes _ _ hsz).mono ?_; rintro e w' ⟨rfl, rfl⟩)
    go_loop [3, 4] (fun n i => ∃ k : Nat, k ≤ a0.size ∧ i = .int .i64 k ∧ n = .int .i64 (cnt a0 k)) (fun _ i => a0.size - (intOf i).toNat)
    case atStart => exact ⟨0, Nat.zero_le _, rfl, rfl⟩
    case round =>
      obtain ⟨k, hk, rfl, rfl⟩ := hrel
      have hc := cnt_bd a0 k
      by_cases hlt : k < a0.size
      · by_cases d : 48 ≤ bt a0 k ∧ bt a0 k ≤ 57
        · have e1 : Hid (cnt a0 (k + 1) = cnt a0 k) := cnt_yes d
          obtain ⟨d1, d2⟩ := d
          go_wp2_with (go_at_call 9; refine (digit_yes _ _ d1 d2).mono ?_; rintro e w' ⟨rfl, rfl⟩)
          go_round
          case rel => exact ⟨k + 1, by omega, by go_num, by rw [e1.out]⟩
          case measure => simp [intOf]; omega
        · have e1 : Hid (cnt a0 (k + 1) = cnt a0 k + 1) := cnt_no d
          have d' : bt a0 k < 48 ∨ 57 < bt a0 k := by omega
          clear d
          go_wp2_with (go_at_call 9; refine (digit_no _ _ d').mono ?_; rintro e w' ⟨rfl, rfl⟩)
          go_round
          case rel => exact ⟨k + 1, by omega, by go_num, by rw [e1.out]⟩
          case measure => simp [intOf]; omega
      · obtain rfl : k = a0.size := by omega
        by_cases hp : 0 < a0.size
        · go_wp2_with (go_at_call 10; refine (zzall_is _ b _ w0 HB.out).mono ?_; rintro e w' ⟨rfl, rfl⟩)
          go_ret
          exact ⟨ret_bool (by rw [law_some HB.out hp]; simp), Grown.refl _⟩
        · go_wp2_with (go_at_call 10; refine (zzall_is _ b _ w0 HB.out).mono ?_; rintro e w' ⟨rfl, rfl⟩)
          go_ret
          exact ⟨ret_bool (by rw [law_none HB.out hp]; rfl), Grown.refl _⟩
  · go_enter Try.func3, Try.ntmps3
    go_wp2_with (go_at_call 8; refine (bytes8_no _ _ w0 (by omega)).mono ?_; rintro e w' ⟨rfl, rfl⟩)
    go_ret
    exact ⟨rfl, Grown.refl _⟩
end Go.Proofs.Qxb6601178a
