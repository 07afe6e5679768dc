/-
  The walk of the automaton.
-/
import Derived.Test.Qxb6626456aW2
namespace Go.Proofs.Qxb6626456a
open Go.RowKit

theorem eq_true' {x y : Int} (h : x = y) : (x == y) = true := by simp [h]
theorem eq_false' {x y : Int} (h : ¬ x = y) : (x == y) = false := by simp [h]
theorem sta_dead (f : Nat → UInt8) (k : Nat) (h : sta f k = 3) : ∀ m, sta f (k + m) = 3
  | 0 => h
  | m + 1 => by
    show stp (sta f (k + m)) (f (k + m)) = 3
    rw [sta_dead f k h m]; rfl
theorem aut_big (s : ByteArray) (h : ¬ s.size ≤ 63) : false = aut s := by
  unfold aut; rw [decide_eq_false h]; rfl
theorem aut_dead (s : ByteArray) (k : Nat) (hk : k ≤ s.size) (h : sta (bt s) k = 3) : false = aut s := by
  have := sta_dead (bt s) k h (s.size - k)
  rw [show k + (s.size - k) = s.size by omega] at this
  unfold aut
  rw [this]
  simp
theorem aut_end (s : ByteArray) (h63 : s.size ≤ 63) (k q : Nat) (h1 : ¬ k < s.size) (h2 : k ≤ s.size) (h : sta (bt s) k = q) (b : Bool) (hb : b = (q == 0 || q == 1)) : b = aut s := by
  have hk : k = s.size := by omega
  rw [hk] at h
  unfold aut
  rw [h, decide_eq_true h63, hb]
  rfl
theorem sta_al (f : Nat → UInt8) (k q : Nat) (h : sta f k = q) (hq : ¬ q = 3) (hc : alB (f k) = true) : sta f (k + 1) = 1 := by
  show stp (sta f k) (f k) = 1
  rw [h]; unfold stp; rw [if_neg hq, if_pos hc]
theorem sta_pu (f : Nat → UInt8) (k q : Nat) (h : sta f k = q) (hq : ¬ q = 3) (hc : alB (f k) = false) (hp : puB (f k) = true) (h0 : ¬ q = 0) : sta f (k + 1) = 2 := by
  show stp (sta f k) (f k) = 2
  rw [h]; unfold stp; rw [if_neg hq, if_neg (by simp [hc]), if_pos ⟨hp, h0⟩]
theorem sta_no (f : Nat → UInt8) (k q : Nat) (h : sta f k = q) (hq : ¬ q = 3) (hc : alB (f k) = false) (hp : puB (f k) = false ∨ q = 0) : sta f (k + 1) = 3 := by
  show stp (sta f k) (f k) = 3
  rw [h]; unfold stp; rw [if_neg hq, if_neg (by simp [hc]), if_neg]
  rintro ⟨g1, g2⟩
  rcases hp with hp | hp
  · rw [hp] at g1; exact absurd g1 (by decide)
  · exact g2 hp

set_option maxHeartbeats 1000000 in
theorem aut_any (s : ByteArray) (w : World) (hs : s.size ≤ maxLen) :
    Calls Try.prog 7 #[.string s] w fun e w' => e = .returned (.bool (aut s)) ∧ w = w' := by
  unfold maxLen at hs
  by_cases h63 : s.size ≤ 63
  · go_enter Try.func7, Try.ntmps7
    go_wp2
    go_loop [3, 4] (fun st i => ∃ k q : Nat, k ≤ s.size ∧ i = .int .i64 k ∧ st = .int .i64 q ∧ Hid (sta (bt s) k = q)) (fun _ i => s.size - (intOf i).toNat)
    case atStart => exact ⟨0, 0, Nat.zero_le _, rfl, rfl, rfl⟩
    case round =>
      obtain ⟨k, q, hk, rfl, rfl, hq⟩ := hrel
      by_cases hlt : k < s.size
      · have ek := bt_eq s k hlt
        by_cases q3 : q = 3
        · have t3 : ((q : Int) == 3) = true := eq_true' (by omega)
          have H3 : Hid (q = 3) := q3
          clear q3
          go_wp2
          go_ret
          exact ⟨ret_bool (aut_dead s k hk (hq.out.trans H3.out)), rfl⟩
        · have t3 : ((q : Int) == 3) = false := eq_false' (by omega)
          cases hc : alB (bt s k)
          · cases hp : puB (bt s k)
            · go_wp2_with (first | (go_at_call 9; refine (al9_any _ _).mono ?_; rintro e w' ⟨rfl, rfl⟩) | (go_at_call 10; refine (pu10_any _ _).mono ?_; rintro e w' ⟨rfl, rfl⟩))
              go_round
              case rel => exact ⟨k + 1, 3, by omega, by go_num, rfl, sta_no _ k q hq.out q3 hc (.inl hp)⟩
              case measure => simp [intOf]; omega
            · by_cases q0 : q = 0
              · have t0 : ((q : Int) != 0) = false := ne_false (by omega)
                have H0 : Hid (q = 0) := q0
                clear q0
                go_wp2_with (first | (go_at_call 9; refine (al9_any _ _).mono ?_; rintro e w' ⟨rfl, rfl⟩) | (go_at_call 10; refine (pu10_any _ _).mono ?_; rintro e w' ⟨rfl, rfl⟩))
                go_round
                case rel => exact ⟨k + 1, 3, by omega, by go_num, rfl, sta_no _ k q hq.out q3 hc (.inr H0.out)⟩
                case measure => simp [intOf]; omega
              · have t0 : ((q : Int) != 0) = true := ne_true (by omega)
                go_wp2_with (first | (go_at_call 9; refine (al9_any _ _).mono ?_; rintro e w' ⟨rfl, rfl⟩) | (go_at_call 10; refine (pu10_any _ _).mono ?_; rintro e w' ⟨rfl, rfl⟩))
                go_round
                case rel => exact ⟨k + 1, 2, by omega, by go_num, rfl, sta_pu _ k q hq.out q3 hc hp q0⟩
                case measure => simp [intOf]; omega
          · go_wp2_with (first | (go_at_call 9; refine (al9_any _ _).mono ?_; rintro e w' ⟨rfl, rfl⟩) | (go_at_call 10; refine (pu10_any _ _).mono ?_; rintro e w' ⟨rfl, rfl⟩))
            go_round
            case rel => exact ⟨k + 1, 1, by omega, by go_num, rfl, sta_al _ k q hq.out q3 hc⟩
            case measure => simp [intOf]; omega
      · by_cases q0 : q = 0
        · have t0 : ((q : Int) == 0) = true := eq_true' (by omega)
          have H0 : Hid (q = 0) := q0
          clear q0
          go_wp2
          go_ret
          exact ⟨ret_bool (aut_end s h63 k q hlt hk hq.out _ (by rw [H0.out]; rfl)), rfl⟩
        · have t0 : ((q : Int) == 0) = false := eq_false' (by omega)
          by_cases q1 : q = 1
          · have t1 : ((q : Int) == 1) = true := eq_true' (by omega)
            have H1 : Hid (q = 1) := q1
            clear q1
            go_wp2
            go_ret
            exact ⟨ret_bool (aut_end s h63 k q hlt hk hq.out _ (by rw [H1.out]; rfl)), rfl⟩
          · have t1 : ((q : Int) == 1) = false := eq_false' (by omega)
            go_wp2
            go_ret
            exact ⟨ret_bool (aut_end s h63 k q hlt hk hq.out _ (by simp [q0, q1])), rfl⟩
  · go_enter Try.func7, Try.ntmps7
    go_wp2
    go_ret
    exact ⟨ret_bool (aut_big s h63), rfl⟩
end Go.Proofs.Qxb6626456a
