import Derived.Test.Qxb6626383aRows
import Derived.Test.Qxb6626383aPlain
import Derived.WalkKit
import Derived.WalkSpells
import Derived.WalkLawsBesides
namespace Go.Proofs.Qxb6626383a
open Go.RowKit

theorem ret_bool {a b : Bool} (h : a = b) : Ending.returned (.bool a) = .returned (.bool b) := by rw [h]
theorem letB_hi (c : UInt8) (h : (97 : Int) ≤ ((c.toNat ||| 32 : Nat) : Int)) : decide (((c.toNat ||| 32 : Nat) : Int) ≤ 122) = letB c := by
  have h' : 97 ≤ c.toNat ||| 32 := by omega
  unfold letB
  rw [decide_eq_true h', Bool.true_and]
  by_cases h2 : c.toNat ||| 32 ≤ 122
  · rw [decide_eq_true h2, decide_eq_true (by omega)]
  · rw [decide_eq_false h2, decide_eq_false (by omega)]
theorem letB_lo (c : UInt8) (h : ((c.toNat ||| 32 : Nat) : Int) < 97) : false = letB c := by
  have h' : ¬ 97 ≤ c.toNat ||| 32 := by omega
  unfold letB
  rw [decide_eq_false h', Bool.false_and]
theorem or_u8 (c : UInt8) : bits .or .u8 (c.toNat : Int) 32 = ((c.toNat ||| 32 : Nat) : Int) :=
  u8_or_nat c.toNat 32 c.toNat_lt (by decide)

set_option maxHeartbeats 400000 in
theorem let_any (c : UInt8) (w : World) :
    Calls Try.prog 10 #[.int .u8 (c.toNat : Int)] w fun e w' => e = .returned (.bool (letB c)) ∧ w = w' := by
  have ho := or_u8 c
  go_enter Try.func10, Try.ntmps10
  go_wp2
  · go_ret
    exact ⟨ret_bool (letB_hi c ‹_›), rfl⟩
  · go_ret
    exact ⟨ret_bool (letB_lo c ‹_›), rfl⟩

set_option maxHeartbeats 400000 in
theorem b5_any (s : ByteArray) (w : World) (hs : s.size ≤ maxLen) :
    Calls Try.prog 5 #[.string s] w fun e w' => e = .returned (.bool (decide (s.size ≤ 1048576))) ∧ w = w' := by
  unfold maxLen at hs
  by_cases h : s.size ≤ 1048576
  · go_enter Try.func5, Try.ntmps5
    go_wp2
    go_ret
    exact ⟨by simp [h], rfl⟩
  · go_enter Try.func5, Try.ntmps5
    go_wp2
    go_ret
    exact ⟨by simp [h], rfl⟩

/-- FoldName behind k rounds. -/
def foldAt (s : ByteArray) (k j : Nat) : UInt8 := if j < k then lowB (bt s j) else bt s j
theorem foldAt_no (s : ByteArray) (k : Nat) (h : ¬ (65 ≤ (bt s k).toNat ∧ (bt s k).toNat ≤ 90)) (j : Nat) : foldAt s k j = foldAt s (k + 1) j := by
  unfold foldAt
  by_cases h1 : j < k
  · simp [h1, show j < k + 1 by omega]
  · by_cases h2 : j = k
    · subst h2; simp [lowB_no _ h]
    · simp [h1, show ¬ j < k + 1 by omega]
theorem foldAt_up (s : ByteArray) (k : Nat) (j : Nat) : (if j = k then lowB (bt s k) else foldAt s k j) = foldAt s (k + 1) j := by
  unfold foldAt
  by_cases h2 : j = k
  · subst h2; simp
  · by_cases h1 : j < k
    · simp [h1, h2, show j < k + 1 by omega]
    · simp [h1, h2, show ¬ j < k + 1 by omega]
theorem foldAt_self (s : ByteArray) (k : Nat) : foldAt s k k = bt s k := by simp [foldAt]

set_option maxHeartbeats 400000 in
theorem fold_any (s : ByteArray) (w : World) (hs : s.size ≤ 2097152) :
    Calls Try.prog 7 #[.string s] w fun e w' => e = .returned (.string (fold s)) ∧ Below w.heap.size w w' := by
  have hconv := run_bytes_of_string (P := Try.prog) w 9 25 5 s Try.underlying9 Try.underlying25 Try.underlying5
  have hrow := Row.bytes w s (grownCap w s.size 0 5) 5
  generalize grownCap w s.size 0 5 = cap at hconv hrow
  have HR : Hid _ := hrow
  clear hrow
  go_enter Try.func7, Try.ntmps7
  go_wp2
  go_loopw [10] (fun i wr => ∃ k : Nat, k ≤ s.size ∧ i = .int .i64 k ∧ Row wr w.heap.size s.size (foldAt s k) ∧ Below w.heap.size w wr) (fun i _ => s.size - (intOf i).toNat)
  case atStart => exact ⟨0, Nat.zero_le _, rfl, Row.congr (Row.drew HR.out) (fun j _ => by simp [foldAt]), ((Below.refl _ _).alloc (Nat.le_refl _) _).drew⟩
  case round =>
    obtain ⟨k, hk, rfl, hrow, hbel⟩ := hrel
    clear HR hconv
    by_cases hlt : k < s.size
    · have hc := (hrow k hlt).1
      have hf := (hrow k hlt).2
      rw [foldAt_self] at hc
      have hb := (bt s k).toNat_lt
      by_cases hup : 65 ≤ (bt s k).toNat ∧ (bt s k).toNat ≤ 90
      · obtain ⟨h1, h2⟩ := hup
        have R := (hrow.set k (lowB (bt s k))).congr (fun j _ => foldAt_up s k j)
        rw [show (((lowB (bt s k)).toNat : Nat) : Int) = ((bt s k).toNat : Int) + 97 - 65 by have := lowB_up _ h1 h2; omega] at R
        have HR : Hid _ := R
        clear R hrow
        go_wp2
        go_roundw
        case rel => exact ⟨k + 1, by omega, by go_num, HR.out, hbel.setCell (Nat.le_refl _) _⟩
        case measure => simp [intOf]; omega
      · have R := hrow.congr (fun j _ => foldAt_no s k hup j)
        have HR : Hid _ := R
        clear R hrow
        go_wp2
        all_goals
          go_roundw
          case rel => exact ⟨k + 1, by omega, by go_num, HR.out, hbel⟩
          case measure => simp [intOf]; omega
    · have hb := Row.back (P := Try.prog) (hrow.congr (g := fun j => lowB (bt s j)) (fun j hj => by simp [foldAt, show j < k by omega])) 25 9 5 cap Try.underlying25 Try.underlying5 Try.underlying9
      clear hrow
      go_wp2
      go_ret
      exact ⟨rfl, hbel⟩

theorem Try.info5 : (Try.prog.info? 5).map (fun i => (i.zero, i.size, i.bytes)) = some (some (.int .u8 0), 1, 1) := by kernel_rfl
def togAt (s : ByteArray) (k j : Nat) : UInt8 := if j < k then togB (bt s j) else 0
theorem togAt_up (s : ByteArray) (k : Nat) (j : Nat) : (if j = k then togB (bt s k) else togAt s k j) = togAt s (k + 1) j := by
  unfold togAt
  by_cases h2 : j = k
  · subst h2; simp
  · by_cases h1 : j < k
    · simp [h1, h2, show j < k + 1 by omega]
    · simp [h1, h2, show ¬ j < k + 1 by omega]
theorem xor_u8 (c : UInt8) : bits .xor .u8 (c.toNat : Int) 32 = ((c.toNat ^^^ 32 : Nat) : Int) :=
  u8_xor_nat c.toNat 32 c.toNat_lt (by decide)
theorem togB_yes (c : UInt8) (h : letB c = true) : ((togB c).toNat : Int) = bits .xor .u8 (c.toNat : Int) 32 := by
  rw [xor_u8]; unfold togB; rw [if_pos h]; rfl
theorem togB_no (c : UInt8) (h : letB c = false) : togB c = c := by
  unfold togB; rw [if_neg (by simp [h])]

set_option maxHeartbeats 400000 in
theorem tog_any (s : ByteArray) (w : World) (hs : s.size ≤ 2097152) :
    Calls Try.prog 6 #[.string s] w fun e w' => e = .returned (.string (tog s)) ∧ Below w.heap.size w w' := by
  obtain ⟨i0, hi, hz0, hz1, hz2⟩ := info_parts Try.info5
  obtain ⟨w1, hmk, hown, hgrow⟩ := run_make_full (P := Try.prog) w w.heap.size 25 5 i0 (.int .u8 0) 1 Try.underlying25 hi hz0 hz1 .i64 .i64 s.size (by rw [hz2]; omega) (by unfold maxLen; omega) (Nat.le_refl _)
  have HR : Hid (Row w1 w.heap.size s.size (fun _ => 0)) := Row.made hown
  have HB : Hid (Below w.heap.size w w1) := (Below.refl _ _).grown hgrow (Nat.le_refl _) (fun k h => by simp at h)
  clear hown hgrow hi hz0 hz1 hz2
  go_enter Try.func6, Try.ntmps6
  go_wp2
  go_loopw [4] (fun i wr => ∃ k : Nat, k ≤ s.size ∧ i = .int .i64 k ∧ Row wr w.heap.size s.size (togAt s k) ∧ Below w.heap.size w wr) (fun i _ => s.size - (intOf i).toNat)
  case atStart => exact ⟨0, Nat.zero_le _, rfl, Row.congr HR.out (fun j _ => by simp [togAt]), HB.out⟩
  case round =>
    obtain ⟨k, hk, rfl, hrow, hbel⟩ := hrel
    clear HR HB hmk
    by_cases hlt : k < s.size
    · have hc := (hrow k hlt).1
      have hf := (hrow k hlt).2
      have he := bt_eq s k hlt
      have R := (hrow.set k (togB (bt s k))).congr (fun j _ => togAt_up s k j)
      by_cases hup : letB (bt s k) = true
      · rw [togB_yes _ hup] at R
        have HR : Hid (Row (wr.setCell ⟨w.heap.size, k, none⟩ (.int .u8 (bits .xor .u8 ((bt s k).toNat : Int) 32))) w.heap.size s.size (togAt s (k + 1))) := R
        clear R hrow
        go_wp2_with (go_at_call 10; refine (let_any _ _).mono ?_; rintro e w' ⟨rfl, rfl⟩)
        all_goals
          go_roundw
          case rel => exact ⟨k + 1, by omega, by go_num, HR.out, hbel.setCell (Nat.le_refl _) _⟩
          case measure => simp [intOf]; omega
      · have hup' : letB (bt s k) = false := by simpa using hup
        rw [togB_no _ hup'] at R
        have HR : Hid (Row (wr.setCell ⟨w.heap.size, k, none⟩ (.int .u8 ((bt s k).toNat : Int))) w.heap.size s.size (togAt s (k + 1))) := R
        clear R hrow hup
        go_wp2_with (go_at_call 10; refine (let_any _ _).mono ?_; rintro e w' ⟨rfl, rfl⟩)
        all_goals
          go_roundw
          case rel => exact ⟨k + 1, by omega, by go_num, HR.out, hbel.setCell (Nat.le_refl _) _⟩
          case measure => simp [intOf]; omega
    · have hb := Row.back (P := Try.prog) (hrow.congr (g := fun j => togB (bt s j)) (fun j hj => by simp [togAt, show j < k by omega])) 25 9 5 s.size Try.underlying25 Try.underlying5 Try.underlying9
      clear hrow
      go_wp2
      go_ret
      exact ⟨rfl, hbel⟩

set_option maxHeartbeats 400000 in
theorem b8_any (a b : ByteArray) (w : World) (ha : a.size ≤ maxLen) (hb : b.size ≤ maxLen) :
    Calls Try.prog 8 #[.string a, .string b] w fun e w' => e = .returned (.bool (decide (a.size + b.size ≤ 1048576))) ∧ w = w' := by
  unfold maxLen at ha hb
  by_cases h1 : a.size ≤ 1048576
  · by_cases h2 : b.size ≤ 1048576
    · by_cases h : a.size + b.size ≤ 1048576
      all_goals
        go_enter Try.func8, Try.ntmps8
        go_wp2
        go_ret
        exact ⟨by simp [h], rfl⟩
    · have h : ¬ a.size + b.size ≤ 1048576 := by omega
      go_enter Try.func8, Try.ntmps8
      go_wp2
      go_ret
      exact ⟨by simp [h], rfl⟩
  · have h : ¬ a.size + b.size ≤ 1048576 := by omega
    go_enter Try.func8, Try.ntmps8
    go_wp2
    go_ret
    exact ⟨by simp [h], rfl⟩
end Go.Proofs.Qxb6626383a
