/- isPort answers true exactly where all bytes are digits and their number lies in 1 to 65535. -/
import Derived.Test.Qxb6601116aRows
import Derived.WalkKit
import Derived.WalkSpells
import Derived.WalkLawsBesides
import Derived.Deep.QuietTactic
import Derived.BigQuiet
import Derived.PlainAid
namespace Go.Proofs.Qxb6601116a
open Go.RowKit Go.PlainAid

/-- The number that the first k bytes spell. -/
def val (s : ByteArray) : Nat → Int
  | 0 => 0
  | k + 1 => val s k * 10 + (bt s k - 48)
/-- The bytes from a on, below k, are digits. -/
def Digs (s : ByteArray) (k : Nat) : Prop := ∀ j, j < k → 48 ≤ bt s j ∧ bt s j ≤ 57
theorem digs_mono {s : ByteArray} {k m : Nat} (h : Digs s m) (hk : k ≤ m) : Digs s k := fun j hj => h j (by omega)
theorem digs_snoc {s : ByteArray} {k : Nat} (h : Digs s k) (h1 : 48 ≤ bt s k) (h2 : bt s k ≤ 57) : Digs s (k + 1) := fun j hj => by
  rcases Nat.lt_succ_iff_lt_or_eq.mp hj with h' | rfl
  · exact h j h'
  · exact ⟨h1, h2⟩
theorem val_nonneg {s : ByteArray} : ∀ {k}, Digs s k → 0 ≤ val s k
  | 0, _ => by simp [val]
  | k + 1, h => by
    have := val_nonneg (digs_mono h (Nat.le_succ k))
    have := h k (by omega)
    unfold val; omega
theorem val_mono {s : ByteArray} {k : Nat} : ∀ {m}, Digs s m → k ≤ m → val s k ≤ val s m
  | 0, _, hk => by obtain rfl : k = 0 := by omega
                   exact Int.le_refl _
  | m + 1, h, hk => by
    by_cases e : k = m + 1
    · subst e; exact Int.le_refl _
    · have h1 := val_mono (digs_mono h (Nat.le_succ m)) (show k ≤ m by omega)
      have h2 := val_nonneg (digs_mono h (Nat.le_succ m))
      have h3 := h m (by omega)
      show val s k ≤ val s m * 10 + (bt s m - 48); omega
/-- What isPort answers true to. -/
def IsPort (s : ByteArray) : Prop := Digs s s.size ∧ 1 ≤ val s s.size ∧ val s s.size ≤ 65535

theorem ret_bool {a b : Bool} (h : a = b) : Ending.returned (.bool a) = .returned (.bool b) := by rw [h]

set_option maxHeartbeats 400000 in
theorem isPort_yes (s : ByteArray) (w : World) (hs : s.size ≤ maxLen) (hp : IsPort s) :
    Calls Try.prog 17 #[.string s] w fun e w' => e = .returned (.bool true) ∧ w' = w := by
  unfold maxLen at hs
  have hbt := get_bt s
  have HP : Hid (IsPort s) := hp
  clear hp
  go_enter Try.func17, Try.ntmps17
  go_wp2
  go_loop [3, 7] (fun n i => ∃ k : Nat, k ≤ s.size ∧ i = .int .i64 k ∧ n = .int .i64 (val s k)) (fun _ i => s.size - (intOf i).toNat)
  case atStart => exact ⟨0, Nat.zero_le _, rfl, rfl⟩
  case round =>
    obtain ⟨k, hk, rfl, rfl⟩ := hrel
    have v0 := val_nonneg (digs_mono HP.out.1 hk)
    have v1 := val_mono HP.out.1 hk
    have v2 := HP.out.2.1
    have v3 := HP.out.2.2
    by_cases hlt : k < s.size
    · have d := HP.out.1 k hlt
      have hv : val s (k + 1) ≤ 65535 := Int.le_trans (val_mono HP.out.1 hlt) HP.out.2.2
      have e1 : Hid (val s (k + 1) = val s k * 10 + (bt s k - 48)) := rfl
      rw [e1.out] at hv
      obtain ⟨d1, d2⟩ := d
      go_wp2
      go_round
      case rel => exact ⟨k + 1, by omega, by go_num, by rw [e1.out]⟩
      case measure => simp [intOf]; omega
    · obtain rfl : k = s.size := by omega
      go_wp2
      go_ret
      exact ⟨ret_bool (decide_eq_true (by omega)), rfl⟩

set_option maxHeartbeats 400000 in
theorem isPort_no (s : ByteArray) (w : World) (hs : s.size ≤ maxLen) (hp : ¬ IsPort s) :
    Calls Try.prog 17 #[.string s] w fun e w' => e = .returned (.bool false) ∧ w' = w := by
  unfold maxLen at hs
  have hbt := get_bt s
  have HP : Hid (¬ IsPort s) := hp
  clear hp
  go_enter Try.func17, Try.ntmps17
  go_wp2
  go_loop [3, 7] (fun n i => ∃ k : Nat, k ≤ s.size ∧ i = .int .i64 k ∧ n = .int .i64 (val s k) ∧ val s k ≤ 65535 ∧ Hid (Digs s k)) (fun _ i => s.size - (intOf i).toNat)
  case atStart => exact ⟨0, Nat.zero_le _, rfl, rfl, by simp [val], fun j hj => by omega⟩
  case round =>
    obtain ⟨k, hk, rfl, rfl, hv, hd⟩ := hrel
    have v0 := val_nonneg hd.out
    by_cases hlt : k < s.size
    · have e1 : Hid (val s (k + 1) = val s k * 10 + (bt s k - 48)) := rfl
      by_cases d1 : 48 ≤ bt s k
      · by_cases d2 : bt s k ≤ 57
        · have hd' : Hid (Digs s (k + 1)) := digs_snoc hd.out d1 d2
          by_cases hv' : val s k * 10 + (bt s k - 48) ≤ 65535
          · go_wp2
            go_round
            case rel => exact ⟨k + 1, by omega, by go_num, by rw [e1.out], by rw [e1.out]; exact hv', hd'⟩
            case measure => simp [intOf]; omega
          · go_wp2
            go_ret
            exact ⟨rfl, rfl⟩
        · go_wp2
          go_ret
          exact ⟨rfl, rfl⟩
      · go_wp2
        go_ret
        exact ⟨rfl, rfl⟩
    · obtain rfl : k = s.size := by omega
      have hz : ¬ 0 < val s s.size := fun h => HP.out ⟨hd.out, by omega, hv⟩
      go_wp2
      go_ret
      exact ⟨rfl, rfl⟩

set_option maxHeartbeats 400000 in
theorem zzIsPort_yes (s : ByteArray) (w : World) (hs : s.size ≤ maxLen) (hp : IsPort s) :
    Calls Try.prog 9 #[.string s] w fun e w' => e = .returned (.bool true) ∧ w' = w := by
  go_enter Try.func9, Try.ntmps9
  go_wp2_with (go_at_call 17; refine (isPort_yes _ _ hs hp).mono ?_; rintro e w' ⟨rfl, rfl⟩)
  go_ret
  exact ⟨rfl, rfl⟩

set_option maxHeartbeats 400000 in
theorem zzIsPort_no (s : ByteArray) (w : World) (hs : s.size ≤ maxLen) (hp : ¬ IsPort s) :
    Calls Try.prog 9 #[.string s] w fun e w' => e = .returned (.bool false) ∧ w' = w := by
  go_enter Try.func9, Try.ntmps9
  go_wp2_with (go_at_call 17; refine (isPort_no _ _ hs hp).mono ?_; rintro e w' ⟨rfl, rfl⟩)
  go_ret
  exact ⟨rfl, rfl⟩
end Go.Proofs.Qxb6601116a
