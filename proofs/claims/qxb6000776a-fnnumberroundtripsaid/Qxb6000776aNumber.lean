/- The reader number and ZZNumber: their walks; the plain law on a number of W digits with a suffix behind it. -/
import Derived.Test.Qxb6000776aPad
namespace Go.Proofs.Qxb6000776a
open Go.RowKit Go.PlainAid

/-- The number that the first k bytes spell. -/
def val (s : ByteArray) : Nat → Int
  | 0 => 0
  | k + 1 => val s k * 10 + (bt s k - 48)
def Digs (s : ByteArray) (k : Nat) : Prop := ∀ j, j < k → 48 ≤ bt s j ∧ bt s j ≤ 57
theorem val_bd {s : ByteArray} : ∀ {k}, Digs s k → 0 ≤ val s k ∧ val s k < p10 k
  | 0, _ => by simp [val, p10]
  | k + 1, h => by
    have h1 := val_bd (k := k) (fun j hj => h j (by omega))
    have h2 := h k (by omega)
    show 0 ≤ val s k * 10 + (bt s k - 48) ∧ val s k * 10 + (bt s k - 48) < p10 k * 10; omega

/-- '[]byte(s[:W])': a new row, of which only its cells and the old blocks are told. -/
theorem bytes_of (s : ByteArray) (W : Nat) (w : World) (hW : W ≤ s.size) :
    ∃ (cap : Nat) (w1 : World), Sem.run Try.prog (convert 9 27 (.string (s.extract 0 W))) w = .ok (.slice (some ⟨w.heap.size, 0, none⟩) W cap) w1 ∧ (∀ k, k < W → w1.cell? ⟨w.heap.size, k, none⟩ = some (.int .u8 (bt s k))) ∧ Below w.heap.size w w1 := by
  have hr := run_bytes_of_string (P := Try.prog) w 9 27 5 (s.extract 0 W) Try.underlying9 Try.underlying27 Try.underlying5
  have hz : (s.extract 0 W).size = W := by rw [ByteArray.size_extract]; omega
  refine ⟨_, _, hr.trans (by rw [hz]), fun k hk => ?_, ((Below.refl _ _).drew.alloc (Nat.le_refl _) _)⟩
  have hk' : k < (s.extract 0 W).data.size := by show k < (s.extract 0 W).size; omega
  refine (World.cell?_alloc_mark w.drew _ _ _ k).trans ?_
  rw [bytesRow_at _ _ _ hk']
  have e : (s.extract 0 W).data[k] = (s.extract 0 W)[k] := rfl
  rw [e, ByteArray.getElem_extract]
  unfold bt
  rw [dif_pos (by omega)]
  simp

set_option maxHeartbeats 800000 in
theorem number_any (B : Nat) (s : ByteArray) (W : Nat) (least most : Int) (w : World) (hB : B < w.heap.size)
    (c0 : w.cell? ⟨B, 0, none⟩ = some (.string s)) (c1 : w.cell? ⟨B, 1, none⟩ = some (.bool false)) (f0 : w.frozen? ⟨B, 0, none⟩ = false) (f1 : w.frozen? ⟨B, 1, none⟩ = false)
    (hW : W ≤ s.size) (hW9 : W ≤ 9) (hd : Digs s W) :
    Calls Try.prog 8 #[.pointer (some ⟨B, 0, none⟩), .int .i64 W, .int .i64 least, .int .i64 most] w fun e w' => e = .returned (.int .i64 (val s W)) ∧
      w'.cell? ⟨B, 0, none⟩ = some (.string (s.extract W s.size)) ∧ w'.cell? ⟨B, 1, none⟩ = some (.bool (decide (val s W < least ∨ most < val s W))) ∧ Below B w w' := by
  obtain ⟨cap, w1, hrun, hcells, hbel⟩ := bytes_of s W w hW
  have HC : Hid (∀ k, k < W → w1.cell? ⟨w.heap.size, k, none⟩ = some (.int .u8 (bt s k))) := hcells
  have HD : Hid (Digs s W) := hd
  have d0 : w1.cell? ⟨B, 0, none⟩ = some (.string s) := (hbel.cell (p := ⟨B, 0, none⟩) hB).trans c0
  have d1 : w1.cell? ⟨B, 1, none⟩ = some (.bool false) := (hbel.cell (p := ⟨B, 1, none⟩) hB).trans c1
  have g0 : w1.frozen? ⟨B, 0, none⟩ = false := (hbel.frozen (p := ⟨B, 0, none⟩) hB).trans f0
  have g1 : w1.frozen? ⟨B, 1, none⟩ = false := (hbel.frozen (p := ⟨B, 1, none⟩) hB).trans f1
  have hbelB : Hid (Below B w w1) := hbel.mono (Nat.le_of_lt hB)
  clear hcells hd hbel
  go_enter Try.func8, Try.ntmps8
  go_wp2
  clear hrun
  go_loop [9, 37] (fun n i => ∃ k : Nat, k ≤ W ∧ i = .int .i64 k ∧ n = .int .i64 (val s k)) (fun _ i => W - (intOf i).toNat)
  case atStart => exact ⟨0, Nat.zero_le _, rfl, rfl⟩
  case round =>
    obtain ⟨k, hk, rfl, rfl⟩ := hrel
    have hv := val_bd (fun j hj => HD.out j (by omega) : Digs s k)
    have hp := p10_le (show k ≤ 9 by omega)
    by_cases hlt : k < W
    · have hck := HC.out k hlt
      have dk := HD.out k hlt
      go_wp2
      go_round
      case rel => exact ⟨k + 1, by omega, by go_num, rfl⟩
      case measure => simp [intOf]; omega
    · obtain rfl : k = W := by omega
      by_cases h1 : val s k < least
      · go_wp2
        go_ret
        refine ⟨rfl, ?_, ?_, ?_⟩
        · go_simp
        · go_simp
        · exact (hbelB.out.setCell (Nat.le_refl _) _).setCell (Nat.le_refl _) _
      · by_cases h2 : most < val s k
        · go_wp2
          go_ret
          refine ⟨rfl, ?_, ?_, ?_⟩
          · go_simp
          · go_simp
          · exact (hbelB.out.setCell (Nat.le_refl _) _).setCell (Nat.le_refl _) _
        · go_wp2
          go_ret
          refine ⟨rfl, ?_, ?_, ?_⟩
          · go_simp
          · go_simp
          · exact hbelB.out.setCell (Nat.le_refl _) _

set_option maxHeartbeats 400000 in
theorem zznumber_any (s : ByteArray) (W : Nat) (least most : Int) (w : World) (hW : W ≤ s.size) (hW9 : W ≤ 9) (hd : Digs s W) :
    Calls Try.prog 7 #[.string s, .bool false, .int .i64 W, .int .i64 least, .int .i64 most] w fun e w' =>
      e = .returned (.tuple #[.int .i64 (val s W), .string (s.extract W s.size), .bool (decide (val s W < least) || decide (most < val s W))]) ∧ Below w.heap.size w w' := by
  have HD : Hid (Digs s W) := hd
  clear hd
  go_enter Try.func7, Try.ntmps7
  go_wp2_with fail
  refine (number_any w.heap.size s W least most _ (by simp) (by simp) (by simp) (by simp) (by simp) hW hW9 HD.out).mono ?_
  rintro e w2 ⟨rfl, c0, c1, hb⟩
  have hb2 : Hid (Below w.heap.size w w2) := ((Below.refl _ _).alloc (Nat.le_refl _) _).trans hb
  clear hb
  go_wp2
  go_quiet (fail)
  go_wp2
  go_ret3
  exact ⟨rfl, below_drewN hb2.out _⟩

/-! ### The plain law: the text of pad_any, and a suffix behind it -/
theorem bt_nums_at {xs : List Int} (j : Nat) (c : Int) (hj : xs[j]? = some c) (h0 : 0 ≤ c) (h1 : c ≤ 255) : bt (strOfNums xs) j = c := by
  obtain ⟨hl, e0⟩ := List.getElem?_eq_some_iff.mp hj
  have hs : j < (strOfNums xs).size := by rw [strOfNums_size]; exact hl
  unfold bt
  rw [dif_pos hs]
  have e : (strOfNums xs)[j] = UInt8.ofNat (xs[j]).toNat := by
    show (strOfNums xs).data[j] = _
    simp [strOfNums]
  rw [e, e0, UInt8.toNat_ofNat', Nat.mod_eq_of_lt (by omega)]
  omega
theorem bt_left (a b : ByteArray) {k : Nat} (h : k < a.size) : bt (a ++ b) k = bt a k := by
  unfold bt
  rw [dif_pos (by rw [ByteArray.size_append]; omega), dif_pos h, ByteArray.getElem_append_left h]
/-- The number that a list spells, from the left, behind what a spells. -/
def fv (a : Int) (l : List Int) : Int := l.foldl (fun a c => a * 10 + (c - 48)) a
theorem fv_sv : ∀ (l : List Int) (a : Int), fv a l = a * p10 l.length + sv l
  | [], a => by simp [fv, sv, p10]
  | c :: l, a => by
    show fv (a * 10 + (c - 48)) l = a * (p10 l.length * 10) + ((c - 48) * p10 l.length + sv l)
    rw [fv_sv l, Int.mul_comm (p10 l.length) 10, ← Int.mul_assoc, ← Int.add_assoc, ← Int.add_mul]
theorem bt_text {l : List Int} (hd : DigL l) (t : ByteArray) (j : Nat) (hj : j < l.length) : bt (strOfNums l ++ t) j = l[j] := by
  have h := hd l[j] (List.getElem_mem hj)
  rw [bt_left _ _ (by rw [strOfNums_size]; exact hj)]
  exact bt_nums_at j _ (List.getElem?_eq_getElem hj) (by omega) (by omega)
theorem digs_text {l : List Int} (hd : DigL l) (t : ByteArray) : Digs (strOfNums l ++ t) l.length := fun j hj => by
  rw [bt_text hd t j hj]; exact hd _ (List.getElem_mem hj)
theorem val_take {l : List Int} (hd : DigL l) (t : ByteArray) : ∀ k, k ≤ l.length → val (strOfNums l ++ t) k = fv 0 (l.take k)
  | 0, _ => by simp [val, fv]
  | k + 1, hk => by
    show val (strOfNums l ++ t) k * 10 + (bt (strOfNums l ++ t) k - 48) = _
    rw [val_take hd t k (by omega), bt_text hd t k (by omega), List.take_succ_eq_append_getElem (by omega)]
    unfold fv; rw [List.foldl_append]; rfl
theorem val_text {l : List Int} (hd : DigL l) (t : ByteArray) : val (strOfNums l ++ t) l.length = sv l := by
  rw [val_take hd t _ (Nat.le_refl _), List.take_length, fv_sv]; simp
theorem rest_text (l : List Int) (t : ByteArray) : (strOfNums l ++ t).extract l.length (strOfNums l ++ t).size = t :=
  ByteArray.extract_append_eq_right (by rw [strOfNums_size]) (by rw [ByteArray.size_append])

/-- What ZZNumber answers to the text of n in W digits, with t behind it. -/
theorem zznumber_text (l : List Int) (t : ByteArray) (n : Int) (W : Nat) (least most : Int) (w : World) (hl : l.length = W) (hW : W ≤ 9) (hd : DigL l) (hn : sv l = n) :
    Calls Try.prog 7 #[.string (strOfNums l ++ t), .bool false, .int .i64 W, .int .i64 least, .int .i64 most] w fun e w' =>
      e = .returned (.tuple #[.int .i64 n, .string t, .bool (decide (n < least) || decide (most < n))]) ∧ Below w.heap.size w w' := by
  subst hl
  subst hn
  have c := zznumber_any (strOfNums l ++ t) l.length least most w (by rw [ByteArray.size_append, strOfNums_size]; omega) hW (digs_text hd t)
  rw [val_text hd t, rest_text] at c
  exact c
end Go.Proofs.Qxb6000776a
