/-
  The walks of IsLabelValue and of the automaton.
-/
import Derived.Test.Qxb6626456aW1
namespace Go.Proofs.Qxb6626456a
open Go.RowKit

theorem empty_str (s : ByteArray) (h : s.size = 0) : s.toList.isEmpty = true := by
  rw [ByteArray.toList_eq, List.isEmpty_iff_length_eq_zero]
  simpa using h
theorem some_str (s : ByteArray) (h : 0 < s.size) : s.toList.isEmpty = false := by
  rw [ByteArray.toList_eq, List.isEmpty_eq_false_iff_exists_mem]
  have : 0 < s.data.toList.length := by simpa using h
  exact ⟨s.data.toList[0], List.getElem_mem this⟩

theorem lab_no1 (s : ByteArray) (h0 : 0 < s.size) (h : alB (bt s 0) = false) : false = lab s := by
  unfold lab labF
  rw [h, show (s.size == 0) = false from beq_eq_false_iff_ne.2 (by omega)]
  simp
theorem lab_no2 (s : ByteArray) (h0 : 0 < s.size) (h : alB (bt s (s.size - 1)) = false) : false = lab s := by
  unfold lab labF
  rw [h, show (s.size == 0) = false from beq_eq_false_iff_ne.2 (by omega)]
  simp
theorem lab_no3 (s : ByteArray) (h0 : 0 < s.size) (k : Nat) (hk : k < s.size) (h : okB (bt s k) = false) : false = lab s := by
  unfold lab labF
  have hg : good (bt s) s.size = false := by
    rw [← Bool.not_eq_true, good_iff]
    intro g
    have := g k hk
    rw [h] at this
    exact absurd this (by decide)
  rw [hg, show (s.size == 0) = false from beq_eq_false_iff_ne.2 (by omega)]
  simp
theorem lab_yes (s : ByteArray) (h63 : s.size ≤ 63) (ha : alB (bt s 0) = true) (hl : alB (bt s (s.size - 1)) = true) (k : Nat) (h1 : ¬ k < s.size) (h2 : k ≤ s.size) (g : good (bt s) k = true) : true = lab s := by
  unfold lab labF
  have hk : k = s.size := by omega
  rw [hk] at g
  rw [ha, hl, g, decide_eq_true h63]
  simp
theorem ne_false {x y : Int} (h : x = y) : (x != y) = false := by simp [h]
theorem ne_true {x y : Int} (h : ¬ x = y) : (x != y) = true := by simp [h]
theorem pu_or (c : UInt8) (h : puB c = true) : ((c.toNat : Int) != 45) = false ∨ (((c.toNat : Int) != 45) = true ∧ ((c.toNat : Int) != 95) = false) ∨ (((c.toNat : Int) != 45) = true ∧ ((c.toNat : Int) != 95) = true ∧ ((c.toNat : Int) != 46) = false) := by
  rcases of_decide_eq_true h with h | h | h
  · exact .inl (ne_false (by omega))
  · exact .inr (.inl ⟨ne_true (by omega), ne_false (by omega)⟩)
  · exact .inr (.inr ⟨ne_true (by omega), ne_true (by omega), ne_false (by omega)⟩)
theorem pu_not (c : UInt8) (h : puB c = false) : ((c.toNat : Int) != 45) = true ∧ ((c.toNat : Int) != 95) = true ∧ ((c.toNat : Int) != 46) = true := by
  have h' := of_decide_eq_false h
  exact ⟨ne_true (by omega), ne_true (by omega), ne_true (by omega)⟩
theorem good_al (f : Nat → UInt8) (k : Nat) (g : good f k = true) (h : alB (f k) = true) : good f (k + 1) = true := by
  rw [good_succ, g, alB_okB _ h]; rfl
theorem good_pu (f : Nat → UInt8) (k : Nat) (g : good f k = true) (h : puB (f k) = true) : good f (k + 1) = true := by
  rw [good_succ, g]; unfold okB; rw [h]; simp

set_option maxHeartbeats 400000 in
theorem lab_any (s : ByteArray) (w : World) (hs : s.size ≤ maxLen) :
    Calls Try.prog 6 #[.string s] w fun e w' => e = .returned (.bool (lab s)) ∧ w = w' := by
  unfold maxLen at hs
  by_cases h0 : 0 < s.size
  · have hne := some_str s h0
    by_cases h63 : s.size ≤ 63
    · have e0 := bt_eq s 0 h0
      have eL := bt_eq s (s.size - 1) (by omega)
      cases ha : alB (bt s 0)
      · go_enter Try.func6, Try.ntmps6
        go_wp2_with (go_at_call 11; refine (al11_any _ _).mono ?_; rintro e w' ⟨rfl, rfl⟩)
        go_ret
        exact ⟨ret_bool (lab_no1 s h0 ha), rfl⟩
      · cases hl : alB (bt s (s.size - 1))
        · go_enter Try.func6, Try.ntmps6
          go_wp2_with (go_at_call 11; refine (al11_any _ _).mono ?_; rintro e w' ⟨rfl, rfl⟩)
          go_ret
          exact ⟨ret_bool (lab_no2 s h0 hl), rfl⟩
        · go_enter Try.func6, Try.ntmps6
          go_wp2_with (go_at_call 11; refine (al11_any _ _).mono ?_; rintro e w' ⟨rfl, rfl⟩)
          go_loop [3] (fun i => ∃ k : Nat, k ≤ s.size ∧ i = .int .i64 k ∧ Hid (good (bt s) k = true)) (fun i => s.size - (intOf i).toNat)
          case atStart => exact ⟨0, Nat.zero_le _, rfl, rfl⟩
          case round =>
            obtain ⟨k, hk, rfl, hg⟩ := hrel
            by_cases hlt : k < s.size
            · clear e0 eL
              have ek := bt_eq s k hlt
              cases hc : alB (bt s k)
              · cases hp : puB (bt s k)
                · obtain ⟨p1, p2, p3⟩ := pu_not (bt s k) hp
                  go_wp2_with (go_at_call 11; refine (al11_any _ _).mono ?_; rintro e w' ⟨rfl, rfl⟩)
                  go_ret
                  exact ⟨ret_bool (lab_no3 s h0 k hlt (by unfold okB; rw [hc, hp]; rfl)), rfl⟩
                · rcases pu_or (bt s k) hp with p1 | ⟨p1, p2⟩ | ⟨p1, p2, p3⟩
                  all_goals
                    go_wp2_with (go_at_call 11; refine (al11_any _ _).mono ?_; rintro e w' ⟨rfl, rfl⟩)
                    go_round
                    case rel => exact ⟨k + 1, by omega, by go_num, good_pu _ k hg.out hp⟩
                    case measure => simp [intOf]; omega
              · go_wp2_with (go_at_call 11; refine (al11_any _ _).mono ?_; rintro e w' ⟨rfl, rfl⟩)
                go_round
                case rel => exact ⟨k + 1, by omega, by go_num, good_al _ k hg.out hc⟩
                case measure => simp [intOf]; omega
            · clear e0 eL
              go_wp2
              go_ret
              exact ⟨ret_bool (lab_yes s h63 ha hl k hlt hk hg.out), rfl⟩
    · go_enter Try.func6, Try.ntmps6
      go_wp2
      go_ret
      refine ⟨ret_bool ?_, rfl⟩
      unfold lab labF
      rw [decide_eq_false h63, show (s.size == 0) = false from beq_eq_false_iff_ne.2 (by omega)]
      rfl
  · have h0' : s.size = 0 := by omega
    have hne := empty_str s h0'
    clear h0
    have H0 : Hid (s.size = 0) := h0'
    clear h0'
    go_enter Try.func6, Try.ntmps6
    go_wp2
    go_ret
    refine ⟨ret_bool ?_, rfl⟩
    unfold lab labF
    rw [H0.out]
    rfl
end Go.Proofs.Qxb6626456a
