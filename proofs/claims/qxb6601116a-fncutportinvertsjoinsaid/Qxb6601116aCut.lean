/- The walks of cutPort and ZZcutPort: a scan down from the end of the text. -/
import Derived.Test.Qxb6601116aRows
import Derived.WalkKit
import Derived.WalkSpells
import Derived.WalkLawsBesides
import Derived.Deep.QuietTactic
import Derived.BigQuiet
import Derived.PlainAid
namespace Go.Proofs.Qxb6601116a
open Go.RowKit Go.PlainAid

/-- Scan down from place k: the place of the ':' at which the text is cut, if any. -/
def cutI (s : ByteArray) : Nat → Option Nat
  | 0 => .none
  | k + 1 => if bt s k = 58 then some k else if bt s k = 93 then .none else cutI s k

def cutH (s : ByteArray) : Option Nat → ByteArray
  | some i => s.extract 0 i
  | .none => s
def cutP (s : ByteArray) : Option Nat → ByteArray
  | some i => s.extract (i + 1) s.size
  | .none => ByteArray.empty

theorem cut_zero (s : ByteArray) : cutI s 0 = .none := rfl
theorem cut_hit {s : ByteArray} {k : Nat} (h : bt s k = 58) : cutI s (k + 1) = some k := by simp [cutI, h]
theorem cut_stop {s : ByteArray} {k : Nat} (h : bt s k = 93) : cutI s (k + 1) = .none := by simp [cutI, h]
theorem cut_on {s : ByteArray} {k : Nat} (h : bt s k ≠ 58) (h' : bt s k ≠ 93) : cutI s (k + 1) = cutI s k := by simp [cutI, h, h']

set_option maxHeartbeats 400000 in
theorem cut_any (s : ByteArray) (w : World) (hs : s.size ≤ maxLen) :
    Calls Try.prog 19 #[.string s] w fun e w' => e = .returned (.tuple #[.string (cutH s (cutI s s.size)), .string (cutP s (cutI s s.size))]) ∧ ∃ n, w' = w.drewN n := by
  unfold maxLen at hs
  have hbt := get_bt s
  go_enter Try.func19, Try.ntmps19
  go_wp2
  go_loop [4] (fun i => ∃ k : Nat, k ≤ s.size ∧ i = .int .i64 ((k : Int) - 1) ∧ Hid (cutI s s.size = cutI s k)) (fun i => (intOf i + 1).toNat)
  case atStart => exact ⟨s.size, Nat.le_refl _, rfl, rfl⟩
  case round =>
    obtain ⟨k, hk, rfl, H⟩ := hrel
    rcases k with _ | k
    · go_wp2
      go_ret2
      exact ⟨by rw [H.out, cut_zero]; rfl, 0, rfl⟩
    · by_cases h1 : bt s k = 58
      · have H2 : Hid (cutI s s.size = some k) := (H.out.trans (cut_hit h1))
        clear H
        go_wp2
        go_quiet (fail)
        go_wp2
        go_ret2
        exact ⟨by rw [H2.out]; rfl, _, rfl⟩
      · by_cases h2 : bt s k = 93
        · have H2 : Hid (cutI s s.size = .none) := (H.out.trans (cut_stop h2))
          clear H
          go_wp2
          go_ret2
          exact ⟨by rw [H2.out]; rfl, 0, rfl⟩
        · have H2 : Hid (cutI s s.size = cutI s k) := (H.out.trans (cut_on h1 h2))
          clear H
          go_wp2
          go_round
          case rel => exact ⟨k, by omega, rfl, H2⟩
          case measure => simp [intOf]

set_option maxHeartbeats 400000 in
theorem zzcut_any (s : ByteArray) (w : World) (hs : s.size ≤ maxLen) :
    Calls Try.prog 14 #[.string s] w fun e w' => e = .returned (.tuple #[.string (cutH s (cutI s s.size)), .string (cutP s (cutI s s.size))]) ∧ ∃ n, w' = w.drewN n := by
  go_enter Try.func14, Try.ntmps14
  go_wp2_with (go_at_call 19; refine (cut_any _ _ hs).mono ?_; rintro e w' ⟨rfl, n, rfl⟩)
  go_ret2
  exact ⟨rfl, n, rfl⟩

set_option maxHeartbeats 400000 in
theorem bytes_yes (a b : ByteArray) (w : World) (h : a.size + b.size ≤ 1048576) :
    Calls Try.prog 16 #[.string a, .string b] w fun e w' => e = .returned (.bool true) ∧ w' = w := by
  go_enter Try.func16, Try.ntmps16
  go_wp2
  go_ret
  exact ⟨rfl, rfl⟩

set_option maxHeartbeats 400000 in
theorem bytes_no (a b : ByteArray) (w : World) (ha : a.size ≤ maxLen) (hb : b.size ≤ maxLen) (h : 1048576 < a.size + b.size) :
    Calls Try.prog 16 #[.string a, .string b] w fun e w' => e = .returned (.bool false) ∧ w' = w := by
  unfold maxLen at ha hb
  by_cases h1 : 1048576 < a.size
  · go_enter Try.func16, Try.ntmps16
    go_wp2
    go_ret
    exact ⟨rfl, rfl⟩
  · by_cases h2 : 1048576 < b.size
    · go_enter Try.func16, Try.ntmps16
      go_wp2
      go_ret
      exact ⟨rfl, rfl⟩
    · go_enter Try.func16, Try.ntmps16
      go_wp2
      go_ret
      exact ⟨rfl, rfl⟩
end Go.Proofs.Qxb6601116a
