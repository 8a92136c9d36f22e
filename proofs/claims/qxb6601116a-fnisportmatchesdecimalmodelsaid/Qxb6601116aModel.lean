/- The comparison digit by digit; the plain laws on leading zeros and the number of digits left. -/
import Derived.Test.Qxb6601116aPort
namespace Go.Proofs.Qxb6601116a
open Go.RowKit Go.PlainAid

/-- a is at most b, byte by byte, over the places below n. -/
def LexLe (a b : ByteArray) (n : Nat) : Prop := ∀ i, i < n → (∀ j, j < i → bt a j = bt b j) → bt a i ≤ bt b i
theorem lex_end {a b : ByteArray} {n : Nat} (h : ∀ j, j < n → bt a j = bt b j) : LexLe a b n := fun i hi _ => by rw [h i hi]; exact Int.le_refl _
theorem lex_part {a b : ByteArray} {n k : Nat} (h : ∀ j, j < k → bt a j = bt b j) (hk : k < n) (hd : bt a k ≠ bt b k) : LexLe a b n ↔ bt a k < bt b k := by
  constructor
  · intro H; have := H k hk h; omega
  · intro H i hi hj
    rcases Nat.lt_trichotomy i k with h1 | h1 | h1
    · rw [h i h1]; exact Int.le_refl _
    · subst h1; omega
    · exact absurd (hj k h1) hd

set_option maxHeartbeats 400000 in
theorem atMost_any (a b : ByteArray) (r : Bool) (w : World) (hab : a.size = b.size) (hs : a.size ≤ maxLen) (hr : r = true ↔ LexLe a b a.size) :
    Calls Try.prog 18 #[.string a, .string b] w fun e w' => e = .returned (.bool r) ∧ ∃ n, w' = w.drewN n := by
  unfold maxLen at hs
  have hba := get_bt a
  have hbb := get_bt b
  have HR : Hid (r = true ↔ LexLe a b a.size) := hr
  have HS : a.size ≤ b.size := by omega
  clear hr hab
  go_enter Try.func18, Try.ntmps18
  go_wp2
  go_loopw [5] (fun i wr => ∃ k n : Nat, k ≤ a.size ∧ i = .int .i64 k ∧ Hid (∀ j, j < k → bt a j = bt b j) ∧ wr = w.drewN n) (fun i _ => a.size - (intOf i).toNat)
  case atStart => exact ⟨0, 0, Nat.zero_le _, rfl, fun j hj => by omega, rfl⟩
  case round =>
    obtain ⟨k, n, hk, rfl, hH, rfl⟩ := hrel
    by_cases hlt : k < a.size
    · have hlt2 : k < b.size := by omega
      by_cases he : bt a k = bt b k
      · have he' : (bt a k != bt b k) = false := by simpa using he
        have hH' : Hid (∀ j, j < k + 1 → bt a j = bt b j) := fun j hj => by
          rcases Nat.lt_succ_iff_lt_or_eq.mp hj with h' | rfl
          · exact hH.out j h'
          · exact he
        clear he
        go_wp2
        go_quiet (fail)
        go_wp2
        go_roundw
        case rel => exact ⟨k + 1, _, by omega, by go_num, hH', rfl⟩
        case measure => simp [intOf]; omega
      · have he' : (bt a k != bt b k) = true := by simpa using he
        have HL : Hid (LexLe a b a.size ↔ bt a k < bt b k) := lex_part hH.out hlt he
        clear he
        go_wp2
        go_quiet (fail)
        go_wp2
        go_quiet (fail)
        go_wp2
        go_ret
        exact ⟨ret_bool (by rw [Bool.eq_iff_iff, HR.out, HL.out]; simp), _, by rw [World.drewN_drewN, World.drewN_drewN]⟩
    · go_wp2
      go_ret
      exact ⟨ret_bool (HR.out.2 (lex_end (fun j hj => hH.out j (by omega)))).symm, _, rfl⟩

/-! ### The plain law -/
theorem val_zeros {s : ByteArray} : ∀ {k}, (∀ j, j < k → bt s j = 48) → val s k = 0
  | 0, _ => rfl
  | k + 1, h => by
    have h1 := val_zeros (fun j hj => h j (Nat.lt_succ_of_lt hj)) (k := k)
    have h2 := h k (Nat.lt_succ_self k)
    show val s k * 10 + (bt s k - 48) = 0; omega
theorem port_empty {s : ByteArray} (h : s.size = 0) : ¬ IsPort s := fun H => by
  have := H.2.1; rw [h] at this; simp [val] at this
theorem port_bad {s : ByteArray} {k : Nat} (h : k < s.size) (hd : ¬ (48 ≤ bt s k ∧ bt s k ≤ 57)) : ¬ IsPort s := fun H => hd (H.1 k h)
theorem val_succ (s : ByteArray) (k : Nat) : val s (k + 1) = val s k * 10 + (bt s k - 48) := rfl
theorem port_none {s : ByteArray} {k : Nat} (hz : ∀ j, j < k → bt s j = 48) (hk : k = s.size) : ¬ IsPort s := fun H => by
  have := H.2.1; rw [← hk, val_zeros hz] at this; omega
theorem port_long {s : ByteArray} {k : Nat} (hd : Digs s s.size) (hz : ∀ j, j < k → bt s j = 48) (hn : bt s k ≠ 48) (hk : k + 5 < s.size) : ¬ IsPort s := fun H => by
  have h1 := val_mono hd (show k + 6 ≤ s.size by omega)
  have h2 := H.2.2
  have d0 := hd k (by omega); have d1 := hd (k + 1) (by omega); have d2 := hd (k + 2) (by omega)
  have d3 := hd (k + 3) (by omega); have d4 := hd (k + 4) (by omega); have d5 := hd (k + 5) (by omega)
  rw [val_succ, val_succ, val_succ, val_succ, val_succ, val_succ, val_zeros hz] at h1
  omega
theorem port_short {s : ByteArray} {k : Nat} (hd : Digs s s.size) (hz : ∀ j, j < k → bt s j = 48) (hn : bt s k ≠ 48) (hk : k < s.size) (hk' : s.size < k + 5) : IsPort s := by
  have v := val_zeros hz
  have d0 := hd k (by omega)
  refine ⟨hd, ?_⟩
  obtain e | e | e | e : s.size = k + 1 ∨ s.size = k + 2 ∨ s.size = k + 3 ∨ s.size = k + 4 := by omega
  · rw [e, val_succ, v]; omega
  · have d1 := hd (k + 1) (by omega)
    rw [e, val_succ, val_succ, v]; omega
  · have d1 := hd (k + 1) (by omega)
    have d2 := hd (k + 2) (by omega)
    rw [e, val_succ, val_succ, val_succ, v]; omega
  · have d1 := hd (k + 1) (by omega)
    have d2 := hd (k + 2) (by omega)
    have d3 := hd (k + 3) (by omega)
    rw [e, val_succ, val_succ, val_succ, val_succ, v]; omega
theorem bt_extract (s : ByteArray) (k j : Nat) (h : k + j < s.size) : bt (s.extract k s.size) j = bt s (k + j) := by
  unfold bt
  rw [dif_pos (by rw [ByteArray.size_extract]; omega), dif_pos h, ByteArray.getElem_extract]
/-- the text 65535 -/
def most : ByteArray := { data := #[54, 53, 53, 51, 53] }
theorem port_five {s : ByteArray} {k : Nat} (hd : Digs s s.size) (hz : ∀ j, j < k → bt s j = 48) (hn : bt s k ≠ 48) (hk : s.size = k + 5) : IsPort s ↔ LexLe (s.extract k s.size) most 5 := by
  have v := val_zeros hz
  have d0 := hd k (by omega); have d1 := hd (k + 1) (by omega); have d2 := hd (k + 2) (by omega)
  have d3 := hd (k + 3) (by omega); have d4 := hd (k + 4) (by omega)
  have ev : val s s.size = ((((bt s k - 48) * 10 + (bt s (k + 1) - 48)) * 10 + (bt s (k + 2) - 48)) * 10 + (bt s (k + 3) - 48)) * 10 + (bt s (k + 4) - 48) := by
    rw [hk, val_succ, val_succ, val_succ, val_succ, val_succ, v]; omega
  have x0 : bt (s.extract k s.size) 0 = bt s k := bt_extract s k 0 (by omega)
  have x1 := bt_extract s k 1 (by omega); have x2 := bt_extract s k 2 (by omega)
  have x3 := bt_extract s k 3 (by omega); have x4 := bt_extract s k 4 (by omega)
  have m0 : bt most 0 = 54 := rfl
  have m1 : bt most 1 = 53 := rfl
  have m2 : bt most 2 = 53 := rfl
  have m3 : bt most 3 = 51 := rfl
  have m4 : bt most 4 = 53 := rfl
  constructor
  · intro H i hi hj
    have h2 := H.2.2
    rw [ev] at h2
    obtain rfl | rfl | rfl | rfl | rfl : i = 0 ∨ i = 1 ∨ i = 2 ∨ i = 3 ∨ i = 4 := by omega
    · omega
    · have := hj 0 (by omega); omega
    · have := hj 0 (by omega); have := hj 1 (by omega); omega
    · have := hj 0 (by omega); have := hj 1 (by omega); have := hj 2 (by omega); omega
    · have := hj 0 (by omega); have := hj 1 (by omega); have := hj 2 (by omega); have := hj 3 (by omega); omega
  · intro H
    refine ⟨hd, ?_⟩
    rw [ev]
    have h0 := H 0 (by omega) (fun j hj => by omega)
    refine ⟨by omega, ?_⟩
    by_cases c0 : bt s k = 54
    · have h1 := H 1 (by omega) (fun j hj => by obtain rfl : j = 0 := by omega
                                                omega)
      by_cases c1 : bt s (k + 1) = 53
      · have h2 := H 2 (by omega) (fun j hj => by obtain rfl | rfl : j = 0 ∨ j = 1 := by omega
                                                  all_goals omega)
        by_cases c2 : bt s (k + 2) = 53
        · have h3 := H 3 (by omega) (fun j hj => by obtain rfl | rfl | rfl : j = 0 ∨ j = 1 ∨ j = 2 := by omega
                                                    all_goals omega)
          by_cases c3 : bt s (k + 3) = 51
          · have h4 := H 4 (by omega) (fun j hj => by obtain rfl | rfl | rfl | rfl : j = 0 ∨ j = 1 ∨ j = 2 ∨ j = 3 := by omega
                                                      all_goals omega)
            omega
          · omega
        · omega
      · omega
    · omega
end Go.Proofs.Qxb6601116a
