/-
  The plain laws: the last place of a key among the first k; the map that maps each key to its last place; how many keys there are.
-/
import Derived.Maps.OwnSet
namespace Go.Proofs.Qxb6626520a
open Go.Maps

/-- The last place j < k with K j = s. -/
def lastIdx (K : Nat → ByteArray) (s : ByteArray) : Nat → Option Nat
  | 0 => none
  | k + 1 => if K k = s then some k else lastIdx K s k

theorem lastIdx_some {K : Nat → ByteArray} {s : ByteArray} : ∀ {k i : Nat}, lastIdx K s k = some i → i < k ∧ K i = s ∧ ∀ j, i < j → j < k → K j ≠ s
  | 0, i, h => by simp [lastIdx] at h
  | k + 1, i, h => by
    unfold lastIdx at h
    by_cases e : K k = s
    · rw [if_pos e] at h
      obtain rfl : k = i := by simpa using h
      exact ⟨by omega, e, fun j h1 h2 => by omega⟩
    · rw [if_neg e] at h
      obtain ⟨h1, h2, h3⟩ := lastIdx_some h
      refine ⟨by omega, h2, fun j g1 g2 => ?_⟩
      by_cases ej : j = k
      · rw [ej]; exact e
      · exact h3 j g1 (by omega)
theorem lastIdx_none {K : Nat → ByteArray} {s : ByteArray} : ∀ {k : Nat}, lastIdx K s k = none → ∀ j, j < k → K j ≠ s
  | 0, _, j, hj => by omega
  | k + 1, h, j, hj => by
    unfold lastIdx at h
    by_cases e : K k = s
    · rw [if_pos e] at h; cases h
    · rw [if_neg e] at h
      by_cases ej : j = k
      · rw [ej]; exact e
      · exact lastIdx_none h j (by omega)
theorem lastIdx_of {K : Nat → ByteArray} {s : ByteArray} {k i : Nat} (h1 : i < k) (h2 : K i = s) (h3 : ∀ j, i < j → j < k → K j ≠ s) : lastIdx K s k = some i := by
  cases h : lastIdx K s k with
  | none => exact absurd h2 (lastIdx_none h i h1)
  | some j =>
    obtain ⟨g1, g2, g3⟩ := lastIdx_some h
    rcases Nat.lt_trichotomy i j with e | e | e
    · exact absurd g2 (h3 j e g1)
    · rw [e]
    · exact absurd h2 (g3 i e h1)
theorem lastIdx_is_none {K : Nat → ByteArray} {s : ByteArray} {k : Nat} (h : ∀ j, j < k → K j ≠ s) : lastIdx K s k = none := by
  cases e : lastIdx K s k with
  | none => rfl
  | some j => obtain ⟨g1, g2, _⟩ := lastIdx_some e; exact absurd g2 (h j g1)
theorem lastIdx_self {K : Nat → ByteArray} {k i : Nat} (h : i < k) : ∃ j, lastIdx K (K i) k = some j ∧ i ≤ j ∧ j < k ∧ K j = K i := by
  cases e : lastIdx K (K i) k with
  | none => exact absurd rfl (lastIdx_none e i h)
  | some j =>
    obtain ⟨g1, g2, g3⟩ := lastIdx_some e
    refine ⟨j, rfl, ?_, g1, g2⟩
    rcases Nat.lt_or_ge j i with h' | h'
    · exact absurd rfl (g3 i h' h)
    · exact h'

/-- What a key reads as. -/
def key (s : ByteArray) : Lit := .string s.data.toList
theorem key_inj {a b : ByteArray} (h : key a = key b) : a = b := by
  unfold key at h
  have h' : a.data.toList = b.data.toList := by injection h
  apply ByteArray.ext
  exact Array.toList_inj.1 h'
theorem key_lit (s : ByteArray) : WideAt.IsKeyLit (key s) := trivial

/-- The map behind k stores. -/
def Dm (K : Nat → ByteArray) : Nat → DataW Unit
  | 0 => .map []
  | k + 1 => (Dm K k).put (key (K k)) (.lit (.int .i64 (k : Int)))
theorem Dm_isMap (K : Nat → ByteArray) : ∀ k, IsMap (Dm K k)
  | 0 => isMap_empty
  | k + 1 => (Dm_isMap K k).put _ _
theorem Dm_tidy (K : Nat → ByteArray) : ∀ k, Tidy (Dm K k)
  | 0 => tidy_empty
  | k + 1 => (Dm_tidy K k).put (key_lit _) _
theorem Dm_has (K : Nat → ByteArray) (s : ByteArray) : ∀ k, Maps.has (Dm K k) (key s) = (lastIdx K s k).isSome
  | 0 => rfl
  | k + 1 => by
    unfold Dm lastIdx
    by_cases e : K k = s
    · rw [if_pos e, e, has_put_same (Dm_isMap K k) (key_lit s)]; rfl
    · rw [if_neg e, has_put_other (fun h => e (key_inj h).symm), Dm_has K s k]
theorem Dm_at (K : Nat → ByteArray) (s : ByteArray) : ∀ k, (Dm K k).atKey (key s) (.lit (.int .i64 0)) = .lit (.int .i64 (((lastIdx K s k).getD 0 : Nat) : Int))
  | 0 => rfl
  | k + 1 => by
    unfold Dm lastIdx
    by_cases e : K k = s
    · rw [if_pos e, e, atKey_put_same (Dm_isMap K k) (key_lit s)]; rfl
    · rw [if_neg e, atKey_put_other (fun h => e (key_inj h).symm), Dm_at K s k]

/-- How many i < k are the last place (among the first n) of their key. -/
def cnt (K : Nat → ByteArray) (n : Nat) : Nat → Nat
  | 0 => 0
  | k + 1 => cnt K n k + if lastIdx K (K k) n = some k then 1 else 0
theorem cnt_le (K : Nat → ByteArray) (n : Nat) : ∀ k, cnt K n k ≤ k
  | 0 => Nat.le_refl _
  | k + 1 => by unfold cnt; have := cnt_le K n k; split <;> omega

theorem lastIdx_more {K : Nat → ByteArray} {n i : Nat} : lastIdx K (K i) (n + 1) = some i ↔ (i = n ∨ (K n ≠ K i ∧ lastIdx K (K i) n = some i)) := by
  show (if K n = K i then some n else lastIdx K (K i) n) = some i ↔ _
  by_cases e : K n = K i
  · rw [if_pos e]
    constructor
    · intro h; left; exact (Option.some.inj h).symm
    · rintro (h | ⟨h, _⟩)
      · rw [h]
      · exact absurd e h
  · rw [if_neg e]
    constructor
    · intro h; exact .inr ⟨e, h⟩
    · rintro (h | ⟨_, h⟩)
      · exact absurd (by rw [h]) e
      · exact h

/-- One key more: of the elder places the one that was the last of the new key falls out. -/
theorem cnt_step (K : Nat → ByteArray) (n : Nat) : ∀ k, k ≤ n → cnt K (n + 1) k + (match lastIdx K (K n) n with | some j => if j < k then 1 else 0 | none => 0) = cnt K n k
  | 0, _ => by unfold cnt; cases lastIdx K (K n) n <;> simp
  | k + 1, h => by
    have ih := cnt_step K n k (by omega)
    unfold cnt
    have em := @lastIdx_more K n k
    by_cases e : lastIdx K (K k) n = some k
    · rw [if_pos e]
      by_cases ek : K n = K k
      · have e1 : ¬ lastIdx K (K k) (n + 1) = some k := by rw [em]; rintro (h1 | ⟨h1, _⟩); omega; exact h1 ek
        rw [if_neg e1]
        rw [ek, e] at ih ⊢
        simp at ih ⊢
        omega
      · have e1 : lastIdx K (K k) (n + 1) = some k := em.2 (.inr ⟨ek, e⟩)
        rw [if_pos e1]
        cases hl : lastIdx K (K n) n with
        | none => rw [hl] at ih; simp at ih ⊢; omega
        | some j =>
          rw [hl] at ih
          have hj : j ≠ k := by
            intro hjk
            subst hjk
            obtain ⟨_, g2, _⟩ := lastIdx_some hl
            exact ek g2.symm
          simp only at ih ⊢
          by_cases hjk : j < k
          · rw [if_pos hjk] at ih; rw [if_pos (by omega)]; omega
          · rw [if_neg hjk] at ih; rw [if_neg (by omega)]; omega
    · rw [if_neg e]
      have e1 : ¬ lastIdx K (K k) (n + 1) = some k := by rw [em]; rintro (h1 | ⟨_, h1⟩); omega; exact e h1
      rw [if_neg e1]
      cases hl : lastIdx K (K n) n with
      | none => rw [hl] at ih; simp at ih ⊢; omega
      | some j =>
        rw [hl] at ih
        have hj : j ≠ k := by
          intro hjk
          subst hjk
          obtain ⟨g1, g2, g3⟩ := lastIdx_some hl
          exact e (lastIdx_of g1 rfl (fun i h1 h2 h3 => g3 i h1 h2 (h3.trans g2)))
        simp only at ih ⊢
        by_cases hjk : j < k
        · rw [if_pos hjk] at ih; rw [if_pos (by omega)]; omega
        · rw [if_neg hjk] at ih; rw [if_neg (by omega)]; omega

theorem Dm_size (K : Nat → ByteArray) : ∀ n, Maps.size (Dm K n) = cnt K n n
  | 0 => rfl
  | n + 1 => by
    have hs := size_put (k := key (K n)) (Dm_tidy K n) (.lit (.int .i64 (n : Int)))
    show Maps.size ((Dm K n).put (key (K n)) (.lit (.int .i64 (n : Int)))) = cnt K (n + 1) n + if lastIdx K (K n) (n + 1) = some n then 1 else 0
    rw [hs, Dm_has, Dm_size K n, if_pos (show lastIdx K (K n) (n + 1) = some n by unfold lastIdx; rw [if_pos rfl])]
    have := cnt_step K n n (Nat.le_refl _)
    cases hl : lastIdx K (K n) n with
    | none => rw [hl] at this; simp at this ⊢; omega
    | some j =>
      rw [hl] at this
      obtain ⟨g1, _, _⟩ := lastIdx_some hl
      simp [g1] at this ⊢
      omega
end Go.Proofs.Qxb6626520a
