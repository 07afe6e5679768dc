/-
  The plain functions: letters and digits, inner marks, label values, the automaton; and their laws.
-/
import Derived.Test.Qxb6626456aBytes
namespace Go.Proofs.Qxb6626456a
open Go.RowKit

theorem all256 (p : UInt8 → Bool) (h : (List.range 256).all (fun n => p (UInt8.ofNat n)) = true) (c : UInt8) : p c = true := by
  have h1 := List.all_eq_true.1 h c.toNat (by simp; exact c.toNat_lt)
  simpa using h1

def alB (c : UInt8) : Bool := decide ((97 ≤ c.toNat ∧ c.toNat ≤ 122) ∨ (65 ≤ c.toNat ∧ c.toNat ≤ 90) ∨ (48 ≤ c.toNat ∧ c.toNat ≤ 57))
def puB (c : UInt8) : Bool := decide (c.toNat = 45 ∨ c.toNat = 95 ∨ c.toNat = 46)
theorem alB_or (c : UInt8) : alB c = decide ((97 ≤ c.toNat ||| 32 ∧ c.toNat ||| 32 ≤ 122) ∨ (48 ≤ c.toNat ∧ c.toNat ≤ 57)) := by
  have := all256 (fun c => decide (alB c = decide ((97 ≤ c.toNat ||| 32 ∧ c.toNat ||| 32 ≤ 122) ∨ (48 ≤ c.toNat ∧ c.toNat ≤ 57)))) (by decide +kernel) c
  exact of_decide_eq_true this
def okB (c : UInt8) : Bool := alB c || puB c
theorem alB_okB (c : UInt8) (h : alB c = true) : okB c = true := by unfold okB; rw [h]; rfl

/-- The first k bytes are letters, digits or inner marks. -/
def good (f : Nat → UInt8) (k : Nat) : Bool := (List.range k).all (fun j => okB (f j))
theorem good_iff (f : Nat → UInt8) (k : Nat) : good f k = true ↔ ∀ j, j < k → okB (f j) = true := by
  unfold good; simp
theorem good_succ (f : Nat → UInt8) (k : Nat) : good f (k + 1) = (good f k && okB (f k)) := by
  unfold good; rw [List.range_succ]; simp

/-- A label value: n bytes f. -/
def labF (n : Nat) (f : Nat → UInt8) : Bool := n == 0 || (decide (n ≤ 63) && alB (f 0) && alB (f (n - 1)) && good f n)
def lab (s : ByteArray) : Bool := labF s.size (bt s)
theorem lab_mkS (n : Nat) (f : Nat → UInt8) : lab (mkS n f) = labF n f := by
  unfold lab labF
  rw [size_mkS]
  by_cases h : n = 0
  · subst h; rfl
  · have hg : good (bt (mkS n f)) n = good f n := by
      rw [Bool.eq_iff_iff, good_iff, good_iff]
      constructor
      · intro g j hj; rw [← bt_mkS n f j hj]; exact g j hj
      · intro g j hj; rw [bt_mkS n f j hj]; exact g j hj
    rw [hg, bt_mkS n f 0 (by omega), bt_mkS n f (n - 1) (by omega)]

/-- The automaton's state behind k bytes. -/
def stp (q : Nat) (c : UInt8) : Nat := if q = 3 then 3 else if alB c = true then 1 else if puB c = true ∧ q ≠ 0 then 2 else 3
def sta (f : Nat → UInt8) : Nat → Nat
  | 0 => 0
  | k + 1 => stp (sta f k) (f k)
def aut (s : ByteArray) : Bool := decide (s.size ≤ 63) && (sta (bt s) s.size == 0 || sta (bt s) s.size == 1)

theorem sta_law (f : Nat → UInt8) : ∀ k, (sta f (k + 1) = 1 ∧ alB (f 0) = true ∧ good f (k + 1) = true ∧ alB (f k) = true) ∨
    (sta f (k + 1) = 2 ∧ alB (f 0) = true ∧ good f (k + 1) = true ∧ alB (f k) = false) ∨ (sta f (k + 1) = 3 ∧ (alB (f 0) && good f (k + 1)) = false)
  | 0 => by
    have e : sta f (0 + 1) = stp 0 (f 0) := rfl
    rw [e, good_succ]
    have g0 : good f 0 = true := rfl
    rw [g0]
    unfold stp
    cases h : alB (f 0)
    · right; right
      simp
    · left
      simp [alB_okB _ h]
  | k + 1 => by
    have ih := sta_law f k
    have e : sta f (k + 1 + 1) = stp (sta f (k + 1)) (f (k + 1)) := rfl
    rw [e, good_succ f (k + 1)]
    unfold stp
    rcases ih with ⟨h1, h2, h3, _⟩ | ⟨h1, h2, h3, _⟩ | ⟨h1, h2⟩
    · rw [h1, h2, h3]
      cases h : alB (f (k + 1)) <;> cases g : puB (f (k + 1)) <;> simp [okB, h, g]
    · rw [h1, h2, h3]
      cases h : alB (f (k + 1)) <;> cases g : puB (f (k + 1)) <;> simp [okB, h, g]
    · rw [h1]
      right; right
      refine ⟨by simp, ?_⟩
      rw [← Bool.and_assoc, h2]; rfl

theorem lab_aut (s : ByteArray) : lab s = aut s := by
  unfold lab labF aut
  by_cases h : s.size = 0
  · rw [h]; rfl
  · obtain ⟨k, hk⟩ : ∃ k, s.size = k + 1 := ⟨s.size - 1, by omega⟩
    rw [hk]
    rw [show k + 1 - 1 = k by omega]
    rcases sta_law (bt s) k with ⟨h1, h2, h3, h4⟩ | ⟨h1, h2, h3, h4⟩ | ⟨h1, h2⟩
    · rw [h1, h2, h3, h4]; simp
    · rw [h1, h2, h3, h4]; simp
    · rw [h1]
      cases g : alB (bt s 0)
      · simp
      · rw [g] at h2
        simp at h2
        simp [h2]

/-- s with c put in at i. -/
def insF (s : ByteArray) (i : Nat) (c : UInt8) (j : Nat) : UInt8 := if j < i then bt s j else if j = i then c else bt s (j - 1)
theorem insF_lo (s : ByteArray) (i : Nat) (c : UInt8) (j : Nat) (h : j < i) : insF s i c j = bt s j := by simp [insF, h]
theorem insF_at (s : ByteArray) (i : Nat) (c : UInt8) : insF s i c i = c := by simp [insF]
theorem insF_hi (s : ByteArray) (i : Nat) (c : UInt8) (j : Nat) (h : i ≤ j) : insF s i c (j + 1) = bt s j := by
  unfold insF
  rw [if_neg (by omega), if_neg (by omega)]
  rfl
theorem lab_ins (s : ByteArray) (i : Nat) (c : UInt8) (h0 : 0 < i) (h1 : i < s.size) : labF (s.size + 1) (insF s i c) = (lab s && decide (s.size < 63) && okB c) := by
  unfold lab labF
  have e0 : insF s i c 0 = bt s 0 := insF_lo s i c 0 h0
  have e1 : insF s i c (s.size + 1 - 1) = bt s (s.size - 1) := by
    rw [show s.size + 1 - 1 = (s.size - 1) + 1 by omega]
    exact insF_hi s i c _ (by omega)
  have eg : good (insF s i c) (s.size + 1) = (good (bt s) s.size && okB c) := by
    rw [Bool.eq_iff_iff, Bool.and_eq_true, good_iff, good_iff]
    constructor
    · intro g
      refine ⟨fun j hj => ?_, ?_⟩
      · by_cases hji : j < i
        · have := g j (by omega); rwa [insF_lo s i c j hji] at this
        · have := g (j + 1) (by omega); rwa [insF_hi s i c j (by omega)] at this
      · have := g i (by omega); rwa [insF_at] at this
    · rintro ⟨g, gc⟩ j hj
      by_cases hji : j < i
      · rw [insF_lo s i c j hji]; exact g j (by omega)
      · by_cases hj2 : j = i
        · rw [hj2, insF_at]; exact gc
        · obtain ⟨j', rfl⟩ : ∃ j', j = j' + 1 := ⟨j - 1, by omega⟩
          rw [insF_hi s i c j' (by omega)]; exact g j' (by omega)
  rw [e0, e1, eg]
  rw [show (s.size + 1 == 0) = false by simp, show (s.size == 0) = false from beq_eq_false_iff_ne.2 (by omega), Bool.false_or, Bool.false_or]
  by_cases hn : s.size < 63
  · rw [decide_eq_true (show s.size + 1 ≤ 63 by omega), decide_eq_true (show s.size ≤ 63 by omega), decide_eq_true hn]
    simp [Bool.and_assoc]
  · rw [decide_eq_false (show ¬ s.size + 1 ≤ 63 by omega), decide_eq_false hn]
    simp

/-- s, each byte that is no letter and no digit turned into '0'. -/
def coreF (s : ByteArray) (j : Nat) : UInt8 := if alB (bt s j) = true then bt s j else 48
theorem coreF_al (s : ByteArray) (j : Nat) : alB (coreF s j) = true := by
  unfold coreF
  by_cases h : alB (bt s j) = true
  · rw [if_pos h]; exact h
  · rw [if_neg h]; rfl
theorem lab_core (s : ByteArray) (m : Nat) (hm : m ≤ 63) : labF m (coreF s) = true := by
  unfold labF
  rw [decide_eq_true hm, coreF_al, coreF_al, (good_iff _ _).2 (fun j _ => alB_okB _ (coreF_al s j))]
  simp
end Go.Proofs.Qxb6626456a
