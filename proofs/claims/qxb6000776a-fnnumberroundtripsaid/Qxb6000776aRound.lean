/- The walk of FnNumberRoundTrip. -/
import Derived.Test.Qxb6000776aNumber
import Derived.OpenShut
namespace Go.Proofs.Qxb6000776a
open Go.RowKit Go.PlainAid

theorem pad_is (n : Int) (W : Nat) (w : World) (hW : W ≤ 9) (h0 : 0 ≤ n) (h1 : n < p10 W) :
    Calls Try.prog 6 #[.int .i64 n, .int .i64 W] w fun e w' => ∃ (l : List Int) (C : Array Value), e = .returned (.string (strOfNums l)) ∧ Hid (l.length = W ∧ DigL l ∧ sv l = n) ∧ (strOfNums l).size ≤ 9 ∧ w' = w.alloc (.cells C 5) := by
  refine (pad_any n W w hW h0 h1).mono ?_
  rintro e w' ⟨l, C, rfl, hl, hd, hn, rfl⟩
  exact ⟨l, C, rfl, ⟨hl, hd, hn⟩, by rw [strOfNums_size]; omega, rfl⟩
theorem zznumber_is (l : List Int) (t : ByteArray) (n : Int) (W : Nat) (least most : Int) (w : World) (hW : W ≤ 9) (h : Hid (l.length = W ∧ DigL l ∧ sv l = n)) :
    Calls Try.prog 7 #[.string (strOfNums l ++ t), .bool false, .int .i64 W, .int .i64 least, .int .i64 most] w fun e w' =>
      e = .returned (.tuple #[.int .i64 n, .string t, .bool (decide (n < least) || decide (most < n))]) ∧ Below w.heap.size w w' :=
  zznumber_text l t n W least most w h.out.1 hW h.out.2.1 h.out.2.2
theorem after_alloc {w w2 : World} {o : Obj} {B : Nat} (h : Below B (w.alloc o) w2) (hB : w.heap.size ≤ B := by simp) : Below w.heap.size w w2 :=
  ((Below.refl _ _).alloc (Nat.le_refl _) _).trans (h.mono hB)

set_option maxHeartbeats 400000 in
theorem bytes4_yes (n wd l m : Int) (a : ByteArray) (w : World) (h : a.size ≤ 1048576) :
    Calls Try.prog 4 #[.int .i64 n, .int .i64 wd, .int .i64 l, .int .i64 m, .string a] w fun e w' => e = .returned (.bool true) ∧ w' = w := by
  go_enter Try.func4, Try.ntmps4
  go_wp2
  go_ret
  exact ⟨rfl, rfl⟩

set_option maxHeartbeats 400000 in
theorem bytes4_no (n wd l m : Int) (a : ByteArray) (w : World) (ha : a.size ≤ maxLen) (h : 1048576 < a.size) :
    Calls Try.prog 4 #[.int .i64 n, .int .i64 wd, .int .i64 l, .int .i64 m, .string a] w fun e w' => e = .returned (.bool false) ∧ w' = w := by
  unfold maxLen at ha
  go_enter Try.func4, Try.ntmps4
  go_wp2
  go_ret
  exact ⟨rfl, rfl⟩

set_option maxHeartbeats 1000000 in
theorem round_walk (a0 a1 a2 a3 : Int) (a4 : ByteArray) (w0 : (Lit.int .i64 a0).wf = true) (w1 : (Lit.int .i64 a1).wf = true) (w4 : a4.size ≤ maxLen) (w : World) :
    Calls Try.prog 3 #[.int .i64 a0, .int .i64 a1, .int .i64 a2, .int .i64 a3, .string a4] w fun e w' => e = .returned (.bool true) ∧ Below w.heap.size w w' := by
  have b0 := bounds_i64 w0
  have b1 := bounds_i64 w1
  have b4 : a4.size ≤ 9223372036854775807 := by unfold maxLen at w4; omega
  clear w0 w1
  by_cases hsz : a4.size ≤ 1048576
  · by_cases h1 : a1 < 1
    · go_enter Try.func3, Try.ntmps3
      go_wp2_with (go_at_call 4; refine (bytes4_yes _ _ _ _ _ _ hsz).mono ?_; rintro e w' ⟨rfl, rfl⟩)
      go_ret
      exact ⟨rfl, Below.refl _ _⟩
    · by_cases h2 : 9 < a1
      · go_enter Try.func3, Try.ntmps3
        go_wp2_with (go_at_call 4; refine (bytes4_yes _ _ _ _ _ _ hsz).mono ?_; rintro e w' ⟨rfl, rfl⟩)
        go_ret
        exact ⟨rfl, Below.refl _ _⟩
      · obtain ⟨W, rfl⟩ : ∃ W : Nat, a1 = W := ⟨a1.toNat, by omega⟩
        have hW : W ≤ 9 := by omega
        have hp := p10_le hW
        by_cases h3 : a0 < 0
        · go_enter Try.func3, Try.ntmps3
          go_wp2_with (go_at_call 4; refine (bytes4_yes _ _ _ _ _ _ hsz).mono ?_; rintro e w' ⟨rfl, rfl⟩)
          go_ret
          exact ⟨rfl, Below.refl _ _⟩
        · have h3' : 0 ≤ a0 := by omega
          by_cases h4 : p10 W ≤ a0
          · go_enter Try.func3, Try.ntmps3
            go_wp2_with (first | (go_at_call 4; refine (bytes4_yes _ _ _ _ _ _ hsz).mono ?_; rintro e w' ⟨rfl, rfl⟩) | (go_at_call 5; refine (ten_any _ _ hW).mono ?_; rintro e w' ⟨rfl, rfl⟩))
            go_ret
            exact ⟨rfl, Below.refl _ _⟩
          · have h4' : a0 < p10 W := by omega
            by_cases c1 : a0 < a2
            · go_enter Try.func3, Try.ntmps3
              go_wp2_with (first | (go_at_call 4; refine (bytes4_yes _ _ _ _ _ _ hsz).mono ?_; rintro e w' ⟨rfl, rfl⟩) | (go_at_call 5; refine (ten_any _ _ hW).mono ?_; rintro e w' ⟨rfl, rfl⟩) | (go_at_call 6; refine (pad_is _ _ _ hW h3' h4').mono ?_; rintro e w' ⟨l, C, rfl, HL, hsl, rfl⟩) | (go_at_call 7; refine (zznumber_is l a4 a0 W a2 a3 _ hW HL).mono ?_; rintro e w2 ⟨rfl, hb⟩))
              go_ret
              exact ⟨rfl, after_alloc hb⟩
            · by_cases c2 : a3 < a0
              · go_enter Try.func3, Try.ntmps3
                go_wp2_with (first | (go_at_call 4; refine (bytes4_yes _ _ _ _ _ _ hsz).mono ?_; rintro e w' ⟨rfl, rfl⟩) | (go_at_call 5; refine (ten_any _ _ hW).mono ?_; rintro e w' ⟨rfl, rfl⟩) | (go_at_call 6; refine (pad_is _ _ _ hW h3' h4').mono ?_; rintro e w' ⟨l, C, rfl, HL, hsl, rfl⟩) | (go_at_call 7; refine (zznumber_is l a4 a0 W a2 a3 _ hW HL).mono ?_; rintro e w2 ⟨rfl, hb⟩))
                go_ret
                exact ⟨rfl, after_alloc hb⟩
              · go_enter Try.func3, Try.ntmps3
                go_wp2_with (first | (go_at_call 4; refine (bytes4_yes _ _ _ _ _ _ hsz).mono ?_; rintro e w' ⟨rfl, rfl⟩) | (go_at_call 5; refine (ten_any _ _ hW).mono ?_; rintro e w' ⟨rfl, rfl⟩) | (go_at_call 6; refine (pad_is _ _ _ hW h3' h4').mono ?_; rintro e w' ⟨l, C, rfl, HL, hsl, rfl⟩) | (go_at_call 7; refine (zznumber_is l a4 a0 W a2 a3 _ hW HL).mono ?_; rintro e w2 ⟨rfl, hb⟩))
                go_ret
                exact ⟨rfl, after_alloc hb⟩
  · go_enter Try.func3, Try.ntmps3
    go_wp2_with (go_at_call 4; refine (bytes4_no _ _ _ _ _ _ w4 (by omega)).mono ?_; rintro e w' ⟨rfl, rfl⟩)
    go_ret
    exact ⟨rfl, Below.refl _ _⟩
end Go.Proofs.Qxb6000776a
