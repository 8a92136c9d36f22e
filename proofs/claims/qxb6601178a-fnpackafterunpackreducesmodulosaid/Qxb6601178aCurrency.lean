/- packCurrency, unpackCurrency, zzIsCode: their walks; the plain laws on codes of three capitals. -/
import Derived.Test.Qxb6601178aRows
import Derived.WalkKit
import Derived.WalkSpells
import Derived.WalkLawsBesides
import Derived.Deep.QuietTactic
import Derived.BigQuiet
import Derived.LoopN
import Derived.PlainAid
import Derived.Laws.BytesArg
namespace Go.Proofs.Qxb6601178a
open Go.RowKit Go.PlainAid

theorem notEmptyC {s : ByteArray} (h : 0 < s.size) : s.toList.isEmpty = false := by
  rw [ByteArray.toList_eq]
  cases e : s.data.toList with
  | nil => have : s.data.toList.length = 0 := by rw [e]; rfl
           have h' : 0 < s.data.size := h
           simp at this; rw [this] at h'; simp at h'
  | cons => rfl
theorem quo26 {x : Int} (h1 : 0 ≤ x) (h2 : x ≤ 65534) : IntKind.u16.wrap (x.tdiv 26) = x / 26 := by
  rw [Int.tdiv_eq_ediv_of_nonneg h1, IntKind.wrap_u16]; omega
theorem rem26 {x : Int} (h1 : 0 ≤ x) : x.tmod 26 = x % 26 := Int.tmod_eq_emod_of_nonneg h1
theorem run_code (w : World) (C : Array Value) (l : List Int) (hl : l.length = 3) (h : ∀ i, i < 3 → C[i]? = some (.int .u8 (l.getD i 0))) :
    Sem.run Try.prog (convert 30 9 (.slice (some ⟨w.heap.size, 0, none⟩) 3 3)) (w.alloc (.cells C 29)) = .ok (.string (strOfNums l)) (w.alloc (.cells C 29)) := by
  refine run_convert_bytes_arg _ 30 5 Try.underlying30 Try.underlying5 w.heap.size 0 3 3 l hl (fun i hi => ?_) 9 Try.underlying9
  rw [World.cell?_alloc_mark, Nat.zero_add, h i hi]

set_option maxHeartbeats 400000 in
theorem unpack_some (m : Int) (w : World) (h1 : 0 ≤ m) (h2 : m ≤ 65534) :
    Calls Try.prog 20 #[.int .u16 (m + 1)] w fun e w' => ∃ C : Array Value, e = .returned (.string (strOfNums [65 + m / 26 / 26 % 26, 65 + m / 26 % 26, 65 + m % 26])) ∧ w' = w.alloc (.cells C 29) := by
  have a1 : 0 ≤ m / 26 := by omega
  have a2 : m / 26 ≤ 65534 := by omega
  have b1 : 0 ≤ m / 26 / 26 := by omega
  have b2 : m / 26 / 26 ≤ 65534 := by omega
  have q1 := quo26 h1 h2
  have q2 := quo26 a1 a2
  have q3 := quo26 b1 b2
  have r1 := rem26 a1
  have r2 := rem26 b1
  have hc := run_code w #[.int .u8 (65 + m / 26 / 26 % 26), .int .u8 (65 + m / 26 % 26), .int .u8 (65 + m % 26)] [65 + m / 26 / 26 % 26, 65 + m / 26 % 26, 65 + m % 26] rfl (fun i hi => by
    obtain rfl | rfl | rfl : i = 0 ∨ i = 1 ∨ i = 2 := by omega
    all_goals rfl)
  go_enter Try.func20, Try.ntmps20
  go_wp2
  refine wp_loop_rounds 4 ?_
  repeat any_goals (rw [rounds_succ]; go_wp2)
  go_ret
  exact ⟨_, rfl, rfl⟩

set_option maxHeartbeats 400000 in
theorem pack_some (s : ByteArray) (w : World) (hs : s.size = 3) (a1 : 65 ≤ bt s 0) (a2 : bt s 0 ≤ 90) (b1 : 65 ≤ bt s 1) (b2 : bt s 1 ≤ 90) (c1 : 65 ≤ bt s 2) (c2 : bt s 2 ≤ 90) :
    Calls Try.prog 19 #[.string s] w fun e w' => e = .returned (.int .u16 (((bt s 0 - 65) * 26 + (bt s 1 - 65)) * 26 + (bt s 2 - 65) + 1)) ∧ w' = w := by
  have hbt := get_bt s
  have hne : s.toList.isEmpty = false := notEmptyC (by omega)
  go_enter Try.func19, Try.ntmps19
  go_wp2
  refine wp_loop_rounds 4 ?_
  repeat any_goals (rw [rounds_succ]; go_wp2)
  go_ret
  exact ⟨rfl, rfl⟩

set_option maxHeartbeats 400000 in
theorem pack_none (w : World) :
    Calls Try.prog 19 #[.string { data := #[] }] w fun e w' => e = .returned (.int .u16 0) ∧ w' = w := by
  go_enter Try.func19, Try.ntmps19
  go_wp2
  go_ret
  exact ⟨rfl, rfl⟩

set_option maxHeartbeats 400000 in
theorem unpack_none (w : World) :
    Calls Try.prog 20 #[.int .u16 0] w fun e w' => e = .returned (.string { data := #[] }) ∧ w' = w := by
  go_enter Try.func20, Try.ntmps20
  go_wp2
  go_ret
  exact ⟨rfl, rfl⟩

/-- Three capital letters. -/
def IsCode (s : ByteArray) : Prop := s.size = 3 ∧ ∀ j, j < 3 → 65 ≤ bt s j ∧ bt s j ≤ 90
/-- The number of a code. -/
def packed (s : ByteArray) : Int := ((bt s 0 - 65) * 26 + (bt s 1 - 65)) * 26 + (bt s 2 - 65) + 1

set_option maxHeartbeats 400000 in
theorem zzpack_some (s : ByteArray) (w : World) (h : IsCode s) :
    Calls Try.prog 14 #[.string s] w fun e w' => e = .returned (.int .u16 (packed s)) ∧ w' = w := by
  have a := h.2 0 (by omega)
  have b := h.2 1 (by omega)
  have c := h.2 2 (by omega)
  have hs : Hid (s.size = 3) := h.1
  have ct := fun w => pack_some s w h.1 a.1 a.2 b.1 b.2 c.1 c.2
  have CT : Hid (∀ w, Calls Try.prog 19 #[.string s] w fun e w' => e = .returned (.int .u16 (packed s)) ∧ w' = w) := ct
  clear ct a b c h hs
  go_enter Try.func14, Try.ntmps14
  go_wp2_with (go_at_call 19; refine (CT.out _).mono ?_; rintro e w' ⟨rfl, rfl⟩)
  go_ret
  exact ⟨rfl, rfl⟩

set_option maxHeartbeats 400000 in
theorem zzpack_none (w : World) :
    Calls Try.prog 14 #[.string { data := #[] }] w fun e w' => e = .returned (.int .u16 0) ∧ w' = w := by
  go_enter Try.func14, Try.ntmps14
  go_wp2_with (go_at_call 19; refine (pack_none _).mono ?_; rintro e w' ⟨rfl, rfl⟩)
  go_ret
  exact ⟨rfl, rfl⟩

set_option maxHeartbeats 400000 in
theorem zzunpack_some (m : Int) (w : World) (h1 : 0 ≤ m) (h2 : m ≤ 65534) :
    Calls Try.prog 16 #[.int .u16 (m + 1)] w fun e w' => ∃ C : Array Value, e = .returned (.string (strOfNums [65 + m / 26 / 26 % 26, 65 + m / 26 % 26, 65 + m % 26])) ∧ w' = w.alloc (.cells C 29) := by
  go_enter Try.func16, Try.ntmps16
  go_wp2_with (go_at_call 20; refine (unpack_some _ _ h1 h2).mono ?_; rintro e w' ⟨C, rfl, rfl⟩)
  go_ret
  exact ⟨C, rfl, rfl⟩

set_option maxHeartbeats 400000 in
theorem zzunpack_none (w : World) :
    Calls Try.prog 16 #[.int .u16 0] w fun e w' => e = .returned (.string { data := #[] }) ∧ w' = w := by
  go_enter Try.func16, Try.ntmps16
  go_wp2_with (go_at_call 20; refine (unpack_none _).mono ?_; rintro e w' ⟨rfl, rfl⟩)
  go_ret
  exact ⟨rfl, rfl⟩

set_option maxHeartbeats 800000 in
theorem code_is (s : ByteArray) (b : Bool) (w : World) (_hs : s.size ≤ maxLen) (hb : b = true ↔ IsCode s) :
    Calls Try.prog 13 #[.string s] w fun e w' => e = .returned (.bool b) ∧ w' = w := by
  have hbt := get_bt s
  have HB : Hid (b = true ↔ IsCode s) := hb
  have no : Hid (¬ IsCode s → b = false) := fun h => by cases b; rfl; exact absurd (hb.1 rfl) h
  clear hb
  by_cases h3 : s.size = 3
  · go_enter Try.func13, Try.ntmps13
    go_wp2
    go_loop [3] (fun i => ∃ k : Nat, k ≤ 3 ∧ i = .int .i64 k ∧ Hid (∀ j, j < k → 65 ≤ bt s j ∧ bt s j ≤ 90)) (fun i => 3 - (intOf i).toNat)
    case atStart => exact ⟨0, Nat.zero_le _, rfl, fun j hj => by omega⟩
    case round =>
      obtain ⟨k, hk, rfl, hD⟩ := hrel
      by_cases hlt : k < 3
      · by_cases d1 : 65 ≤ bt s k
        · by_cases d2 : bt s k ≤ 90
          · have hD' : Hid (∀ j, j < k + 1 → 65 ≤ bt s j ∧ bt s j ≤ 90) := fun j hj => by
              rcases Nat.lt_succ_iff_lt_or_eq.mp hj with h' | rfl
              · exact hD.out j h'
              · exact ⟨d1, d2⟩
            go_wp2
            go_round
            case rel => exact ⟨k + 1, by omega, by go_num, hD'⟩
            case measure => simp [intOf]; omega
          · obtain rfl := no.out (fun h => d2 (h.2 k hlt).2)
            go_wp2
            go_ret
            exact ⟨rfl, rfl⟩
        · obtain rfl := no.out (fun h => d1 (h.2 k hlt).1)
          go_wp2
          go_ret
          exact ⟨rfl, rfl⟩
      · obtain rfl := HB.out.2 ⟨h3, fun j hj => hD.out j (by omega)⟩
        go_wp2
        go_ret
        exact ⟨rfl, rfl⟩
  · obtain rfl := no.out (fun h => h3 h.1)
    have h4 : ((s.size : Int) != 3) = true := by simp; omega
    clear h3
    go_enter Try.func13, Try.ntmps13
    go_wp2
    go_ret
    exact ⟨rfl, rfl⟩

/-! ### The plain law -/
theorem bt_three (a b c : Int) (ha : 0 ≤ a ∧ a ≤ 255) (hb : 0 ≤ b ∧ b ≤ 255) (hc : 0 ≤ c ∧ c ≤ 255) : bt (strOfNums [a, b, c]) 0 = a ∧ bt (strOfNums [a, b, c]) 1 = b ∧ bt (strOfNums [a, b, c]) 2 = c := by
  have e0 : bt (strOfNums [a, b, c]) 0 = ((UInt8.ofNat a.toNat).toNat : Int) := rfl
  have e1 : bt (strOfNums [a, b, c]) 1 = ((UInt8.ofNat b.toNat).toNat : Int) := rfl
  have e2 : bt (strOfNums [a, b, c]) 2 = ((UInt8.ofNat c.toNat).toNat : Int) := rfl
  rw [e0, e1, e2, UInt8.toNat_ofNat', UInt8.toNat_ofNat', UInt8.toNat_ofNat', Nat.mod_eq_of_lt (by omega), Nat.mod_eq_of_lt (by omega), Nat.mod_eq_of_lt (by omega)]
  omega
/-- The code of the number m + 1. -/
def codeOf (m : Int) : ByteArray := strOfNums [65 + m / 26 / 26 % 26, 65 + m / 26 % 26, 65 + m % 26]
theorem bt_code (m : Int) : bt (codeOf m) 0 = 65 + m / 26 / 26 % 26 ∧ bt (codeOf m) 1 = 65 + m / 26 % 26 ∧ bt (codeOf m) 2 = 65 + m % 26 :=
  bt_three _ _ _ (by omega) (by omega) (by omega)
theorem isCode_code (m : Int) : IsCode (codeOf m) := by
  obtain ⟨h0, h1, h2⟩ := bt_code m
  refine ⟨rfl, fun j hj => ?_⟩
  obtain rfl | rfl | rfl : j = 0 ∨ j = 1 ∨ j = 2 := by omega
  · omega
  · omega
  · omega
theorem packed_code (m : Int) : packed (codeOf m) = m % 17576 + 1 := by
  obtain ⟨h0, h1, h2⟩ := bt_code m
  unfold packed
  rw [h0, h1, h2]; omega
theorem packed_bd {s : ByteArray} (h : IsCode s) : 1 ≤ packed s ∧ packed s ≤ 17576 := by
  have a := h.2 0 (by omega)
  have b := h.2 1 (by omega)
  have c := h.2 2 (by omega)
  unfold packed; omega
theorem bt_ext {s t : ByteArray} (h : s.size = t.size) (hb : ∀ j, j < s.size → bt s j = bt t j) : s = t := by
  apply ByteArray.ext_getElem h
  intro i h1 h2
  have := hb i h1
  unfold bt at this
  rw [dif_pos h1, dif_pos h2] at this
  exact UInt8.toNat_inj.mp (by omega)
theorem code_packed {s : ByteArray} (h : IsCode s) : codeOf (packed s - 1) = s := by
  have a := h.2 0 (by omega)
  have b := h.2 1 (by omega)
  have c := h.2 2 (by omega)
  obtain ⟨h0, h1, h2⟩ := bt_code (packed s - 1)
  have e : packed s - 1 = ((bt s 0 - 65) * 26 + (bt s 1 - 65)) * 26 + (bt s 2 - 65) := by unfold packed; omega
  rw [e] at h0 h1 h2 ⊢
  apply bt_ext (h.1.symm ▸ rfl)
  intro j hj
  have hj' : j < 3 := hj
  obtain rfl | rfl | rfl : j = 0 ∨ j = 1 ∨ j = 2 := by omega
  · omega
  · omega
  · omega
end Go.Proofs.Qxb6601178a
