/-
  The walk of zzSqlB1EqualFoldASCII.
-/
import Derived.Test.Qxb6626383aW1
namespace Go.Proofs.Qxb6626383a
open Go.RowKit

theorem xor_u8_two (x y : UInt8) : bits .xor .u8 (x.toNat : Int) (y.toNat : Int) = (((x ^^^ y).toNat : Nat) : Int) :=
  u8_xor_nat x.toNat y.toNat x.toNat_lt y.toNat_lt
theorem beq_u8 (x y : UInt8) : (((x.toNat : Nat) : Int) == ((y.toNat : Nat) : Int)) = (x == y) := by
  rw [Bool.eq_iff_iff]
  simp only [beq_iff_eq]
  constructor
  · intro h; exact UInt8.toNat_inj.1 (by omega)
  · intro h; rw [h]
theorem eqB_1 (x y : UInt8) (h : (x == y) = true) : eqB x y = true := by unfold eqB; rw [h]; rfl
theorem xor_nat (x y : UInt8) : (x ^^^ y == 32) = decide (((x.toNat ^^^ y.toNat : Nat) : Int) = 32) := by
  rw [Bool.eq_iff_iff]
  simp only [beq_iff_eq, decide_eq_true_eq]
  rw [← UInt8.toNat_inj, UInt8.toNat_xor]
  show x.toNat ^^^ y.toNat = 32 ↔ _
  omega
theorem eqB_2 (x y : UInt8) (h : ((x.toNat ^^^ y.toNat : Nat) : Int) = 32) (l : letB x = true) : eqB x y = true := by
  unfold eqB; rw [xor_nat, decide_eq_true h, l]; simp
theorem eqB_3 (x y : UInt8) (n : (x == y) = false) (l : letB x = false) : eqB x y = false := by
  unfold eqB; rw [n, l]; simp
theorem eqB_4 (x y : UInt8) (n : (x == y) = false) (h : ¬ ((x.toNat ^^^ y.toNat : Nat) : Int) = 32) : eqB x y = false := by
  unfold eqB; rw [n, xor_nat, decide_eq_false h]; simp
theorem eqF_len (a b : ByteArray) (h : ¬ a.size = b.size) : false = eqF a b := by
  unfold eqF; simp [h]
theorem eqF_all (a b : ByteArray) (h : a.size = b.size) (k : Nat) (hk : ¬ k < a.size) (g : ∀ j, j < k → eqB (bt a j) (bt b j) = true) : true = eqF a b := by
  unfold eqF
  symm
  simp only [h, beq_self_eq_true, Bool.true_and, List.all_eq_true, List.mem_range]
  intro j hj
  exact g j (by omega)
theorem eqF_not (a b : ByteArray) (k : Nat) (hk : k < a.size) (g : eqB (bt a k) (bt b k) = false) : false = eqF a b := by
  unfold eqF
  symm
  rw [Bool.and_eq_false_iff]
  right
  rw [List.all_eq_false]
  exact ⟨k, by simpa using hk, by simp [g]⟩

set_option maxHeartbeats 400000 in
theorem eqf_any (a b : ByteArray) (w : World) (ha : a.size ≤ 2097152) (_hb : b.size ≤ 2097152) :
    Calls Try.prog 9 #[.string a, .string b] w fun e w' => e = .returned (.bool (eqF a b)) ∧ w = w' := by
  by_cases hs : a.size = b.size
  · have h1 : ((a.size : Int) != (b.size : Int)) = false := by simp; omega
    have h2 : ((b.size : Int) != (a.size : Int)) = false := by simp; omega
    have HS : Hid (a.size = b.size) := hs
    clear hs
    go_enter Try.func9, Try.ntmps9
    go_wp2
    go_loop [5] (fun i => ∃ k : Nat, k ≤ a.size ∧ i = .int .i64 k ∧ Hid (∀ j, j < k → eqB (bt a j) (bt b j) = true)) (fun i => a.size - (intOf i).toNat)
    case atStart => exact ⟨0, Nat.zero_le _, rfl, fun j hj => absurd hj (by omega)⟩
    case round =>
      obtain ⟨k, hk, rfl, hall⟩ := hrel
      by_cases hlt : k < a.size
      · have hlt2 : k < b.size := by have := HS.out; omega
        have e1 := bt_eq a k hlt
        have e2 := bt_eq b k hlt2
        have hnext (h : eqB (bt a k) (bt b k) = true) : ∀ j, j < k + 1 → eqB (bt a j) (bt b j) = true := by
          intro j hj
          by_cases e : j = k
          · rw [e]; exact h
          · exact hall.out j (by omega)
        have HN : Hid (eqB (bt a k) (bt b k) = true → ∀ j, j < k + 1 → eqB (bt a j) (bt b j) = true) := hnext
        clear hnext
        have t1 := beq_u8 (bt a k) (bt b k)
        have t2 := xor_u8_two (bt a k) (bt b k)
        have t3 := beq_u8 (bt a k ^^^ bt b k) 32
        have t3' : ((((bt a k ^^^ bt b k).toNat : Nat) : Int) == 32) = (bt a k ^^^ bt b k == 32) := t3
        clear t3
        go_wp2_with (go_at_call 10; refine (let_any _ _).mono ?_; rintro e w' ⟨rfl, rfl⟩)
        · go_round
          case rel => exact ⟨k + 1, by omega, by go_num, HN.out (eqB_1 _ _ ‹_›)⟩
          case measure => simp [intOf]; omega
        · go_round
          case rel => exact ⟨k + 1, by omega, by go_num, HN.out (eqB_2 _ _ ‹_› ‹_›)⟩
          case measure => simp [intOf]; omega
        · go_ret
          exact ⟨ret_bool (eqF_not a b k hlt (eqB_3 _ _ ‹_› ‹_›)), rfl⟩
        · go_ret
          exact ⟨ret_bool (eqF_not a b k hlt (eqB_4 _ _ ‹_› ‹_›)), rfl⟩
      · go_wp2
        go_ret
        exact ⟨ret_bool (eqF_all a b HS.out k hlt hall.out), rfl⟩
  · have h1 : ((a.size : Int) != (b.size : Int)) = true := by simp; omega
    go_enter Try.func9, Try.ntmps9
    go_wp2
    go_ret
    exact ⟨ret_bool (eqF_len a b hs), rfl⟩

theorem beq_str (a b : ByteArray) : (a.toList == b.toList) = decide (a = b) := by
  rw [Bool.eq_iff_iff]
  simp only [beq_iff_eq, decide_eq_true_eq, ByteArray.toList_eq]
  constructor
  · intro h
    apply ByteArray.ext
    exact Array.toList_inj.1 h
  · intro h; rw [h]
theorem fold_beq (a b : ByteArray) : ((fold a).toList == (fold b).toList) = eqF a b := by
  rw [beq_str, Bool.eq_iff_iff, decide_eq_true_eq]
  exact fold_eq_iff a b
theorem step_no1 (x : UInt8) (h1 : (65 : Int) ≤ ((lowB x).toNat : Int)) (h2 : ((lowB x).toNat : Int) ≤ 90) : False :=
  lowB_range x ⟨by omega, by omega⟩
theorem step_no2 (x : UInt8) (h : ((((lowB x).toNat : Nat) : Int) != ((x.toNat : Nat) : Int)) = true ∧ ((((lowB x).toNat : Nat) : Int) != (((togB x).toNat : Nat) : Int)) = true) : False := by
  rcases lowB_or x with e | e
  · exact absurd h.1 (by rw [e]; simp)
  · exact absurd h.2 (by rw [e]; simp)
end Go.Proofs.Qxb6626383a
