/-
  The plain functions: lower case, toggled case, equality up to the case of ASCII letters; and their laws.
-/
import Derived.Test.Qxb6626383aBytes
namespace Go.Proofs.Qxb6626383a
open Go.RowKit

theorem all256 (p : UInt8 → Bool) (h : (List.range 256).all (fun n => p (UInt8.ofNat n)) = true) (c : UInt8) : p c = true := by
  have h1 := List.all_eq_true.1 h c.toNat (by simp; exact c.toNat_lt)
  simpa using h1

def lowB (c : UInt8) : UInt8 := if 65 ≤ c.toNat ∧ c.toNat ≤ 90 then c + 32 else c
def letB (c : UInt8) : Bool := decide (97 ≤ c.toNat ||| 32) && decide (c.toNat ||| 32 ≤ 122)
def togB (c : UInt8) : UInt8 := if letB c = true then c ^^^ 32 else c
def eqB (x y : UInt8) : Bool := x == y || (x ^^^ y == 32 && letB x)

theorem lowB_up (c : UInt8) (h1 : 65 ≤ c.toNat) (h2 : c.toNat ≤ 90) : (lowB c).toNat = c.toNat + 32 := by
  unfold lowB
  rw [if_pos ⟨h1, h2⟩, UInt8.toNat_add]
  show (c.toNat + 32) % 256 = _
  omega
theorem lowB_no (c : UInt8) (h : ¬ (65 ≤ c.toNat ∧ c.toNat ≤ 90)) : lowB c = c := by
  unfold lowB; rw [if_neg h]

theorem lowB_tog (c : UInt8) : lowB (togB c) = lowB c := by
  have := all256 (fun c => decide (lowB (togB c) = lowB c)) (by decide +kernel) c
  simpa using this
theorem lowB_range (c : UInt8) : ¬ (65 ≤ (lowB c).toNat ∧ (lowB c).toNat ≤ 90) := by
  have := all256 (fun c => decide (¬ (65 ≤ (lowB c).toNat ∧ (lowB c).toNat ≤ 90))) (by decide +kernel) c
  exact of_decide_eq_true this
theorem lowB_or (c : UInt8) : lowB c = c ∨ lowB c = togB c := by
  have := all256 (fun c => decide (lowB c = c ∨ lowB c = togB c)) (by decide +kernel) c
  simpa using this
theorem lowB_idem (c : UInt8) : lowB (lowB c) = lowB c := by
  have := all256 (fun c => decide (lowB (lowB c) = lowB c)) (by decide +kernel) c
  simpa using this
theorem togB_let (c : UInt8) : letB (togB c) = letB c := by
  have := all256 (fun c => decide (letB (togB c) = letB c)) (by decide +kernel) c
  exact of_decide_eq_true this
theorem togB_togB (c : UInt8) : togB (togB c) = c := by
  have := all256 (fun c => decide (togB (togB c) = c)) (by decide +kernel) c
  exact of_decide_eq_true this
theorem togB_xor (c : UInt8) (h : ¬ c = togB c) : c ^^^ togB c = 32 ∧ letB c = true := by
  have := all256 (fun c => decide (¬ c = togB c → c ^^^ togB c = 32 ∧ letB c = true)) (by decide +kernel) c
  exact of_decide_eq_true this h
theorem xor_tog (x y : UInt8) (h : x ^^^ y = 32) (l : letB x = true) : y = togB x := by
  unfold togB
  rw [if_pos l, ← h, ← UInt8.xor_assoc, UInt8.xor_self, UInt8.zero_xor]
theorem eqB_iff (x y : UInt8) : eqB x y = true ↔ lowB x = lowB y := by
  unfold eqB
  constructor
  · intro h
    simp only [Bool.or_eq_true, Bool.and_eq_true, beq_iff_eq] at h
    rcases h with h | ⟨h, l⟩
    · rw [h]
    · rw [xor_tog x y h l, lowB_tog]
  · intro h
    simp only [Bool.or_eq_true, Bool.and_eq_true, beq_iff_eq]
    by_cases e : x = y
    · exact .inl e
    · right
      have key : y = togB x := by
        rcases lowB_or x with hx | hx <;> rcases lowB_or y with hy | hy
        · exact absurd (by rw [← hx, h, hy]) e
        · have : x = togB y := by rw [← hx, h, hy]
          rw [this, togB_togB]
        · rw [← hy, ← h, hx]
        · exact absurd (by rw [← togB_togB x, ← hx, h, hy, togB_togB]) e
      subst key
      exact togB_xor x e
theorem eqB_low (x y : UInt8) : eqB x y = decide (lowB x = lowB y) := by
  rw [Bool.eq_iff_iff, eqB_iff]; simp

def fold (s : ByteArray) : ByteArray := mkS s.size (fun j => lowB (bt s j))
def tog (s : ByteArray) : ByteArray := mkS s.size (fun j => togB (bt s j))
def eqF (a b : ByteArray) : Bool := a.size == b.size && (List.range a.size).all (fun j => eqB (bt a j) (bt b j))
theorem size_fold (s : ByteArray) : (fold s).size = s.size := size_mkS _ _
theorem size_tog (s : ByteArray) : (tog s).size = s.size := size_mkS _ _
theorem bt_fold (s : ByteArray) (j : Nat) (h : j < s.size) : bt (fold s) j = lowB (bt s j) := bt_mkS _ _ _ h
theorem bt_tog (s : ByteArray) (j : Nat) (h : j < s.size) : bt (tog s) j = togB (bt s j) := bt_mkS _ _ _ h

theorem fold_tog (s : ByteArray) : fold (tog s) = fold s := by
  apply ext_bt
  · simp [size_fold, size_tog]
  · intro j hj
    have hj' : j < s.size := by simpa [size_fold, size_tog] using hj
    rw [bt_fold _ _ (by rw [size_tog]; exact hj'), bt_fold _ _ hj', bt_tog _ _ hj', lowB_tog]
theorem fold_idem (s : ByteArray) : fold (fold s) = fold s := by
  apply ext_bt
  · simp [size_fold]
  · intro j hj
    have hj' : j < s.size := by simpa [size_fold] using hj
    rw [bt_fold _ _ (by rw [size_fold]; exact hj'), bt_fold _ _ hj', lowB_idem]
theorem fold_eq_iff (a b : ByteArray) : (fold a = fold b) ↔ eqF a b = true := by
  constructor
  · intro h
    have hs : a.size = b.size := by rw [← size_fold a, h, size_fold]
    unfold eqF
    simp only [hs, beq_self_eq_true, Bool.true_and, List.all_eq_true, List.mem_range]
    intro j hj
    rw [eqB_low]
    have := congrArg (fun x => bt x j) h
    rw [bt_fold _ _ (by omega), bt_fold _ _ hj] at this
    simpa using this
  · intro h
    unfold eqF at h
    simp only [Bool.and_eq_true, List.all_eq_true, List.mem_range, beq_iff_eq] at h
    apply ext_bt
    · simp [size_fold, h.1]
    · intro j hj
      have hj' : j < a.size := by simpa [size_fold] using hj
      have := h.2 j hj'
      rw [eqB_low] at this
      rw [bt_fold _ _ hj', bt_fold _ _ (by omega)]
      simpa using this
theorem size_app (a b : ByteArray) : (a ++ b).size = a.size + b.size := ByteArray.size_append
theorem bt_app (a b : ByteArray) (j : Nat) (h : j < a.size + b.size) : bt (a ++ b) j = if j < a.size then bt a j else bt b (j - a.size) := by
  rw [← bt_eq _ _ (by rw [size_app]; exact h)]
  by_cases h1 : j < a.size
  · rw [if_pos h1, ← bt_eq _ _ h1]
    exact ByteArray.getElem_append_left h1
  · rw [if_neg h1, ← bt_eq _ _ (by omega)]
    exact ByteArray.getElem_append_right (by omega)
theorem fold_app (a b : ByteArray) : fold (a ++ b) = fold a ++ fold b := by
  apply ext_bt
  · simp [size_fold]
  · intro j hj
    have hj' : j < a.size + b.size := by simpa [size_fold, size_app] using hj
    rw [bt_fold _ _ (by rw [size_app]; exact hj'), bt_app _ _ _ hj', bt_app _ _ _ (by simp only [size_fold]; exact hj'), size_fold]
    by_cases h1 : j < a.size
    · rw [if_pos h1, if_pos h1, bt_fold _ _ h1]
    · rw [if_neg h1, if_neg h1, bt_fold _ _ (by omega)]
end Go.Proofs.Qxb6626383a
