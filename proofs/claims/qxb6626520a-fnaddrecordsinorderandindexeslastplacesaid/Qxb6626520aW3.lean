/-
  The argument's view; the walks of the two zzBytes functions.
-/
import Derived.Test.Qxb6626520aW2
namespace Go.Proofs.Qxb6626520a
open Go.RowKit Go.Maps

/-- A slice of n Tooks in the world w: where each lies, and what it holds. -/
structure Tooks (K : Nat → ByteArray) (P : Nat → Bool) (V : Nat → Int) (w : World) (ao : Option Addr) (n cap b off : Nat) : Prop where
  at_ : ∀ k, k < n → ∀ wx, (Instr.indexAt 22 (.slice ao n cap) (.int .i64 (k : Int))).run Try.prog wx = .ok (.pointer (some ⟨b, off + k * 3, none⟩)) wx
  c0 : ∀ k, k < n → w.cell? ⟨b, off + k * 3, none⟩ = some (.string (K k))
  c1 : ∀ k, k < n → w.cell? ⟨b, off + k * 3 + 1, none⟩ = some (.bool (P k))
  c2 : ∀ k, k < n → w.cell? ⟨b, off + k * 3 + 2, none⟩ = some (.int .u64 (V k))
  sz : ∀ k, k < n → (K k).size ≤ maxLen
  lt : 0 < n → b < w.heap.size

/-- A slice of n strings in the world w. -/
structure Strs (S : Nat → ByteArray) (w : World) (ao : Option Addr) (n cap b off : Nat) : Prop where
  at_ : ∀ k, k < n → ∀ wx, (Instr.indexAt 41 (.slice ao n cap) (.int .i64 (k : Int))).run Try.prog wx = .ok (.pointer (some ⟨b, off + k, none⟩)) wx
  c0 : ∀ k, k < n → w.cell? ⟨b, off + k, none⟩ = some (.string (S k))
  sz : ∀ k, k < n → (S k).size ≤ maxLen
  lt : 0 < n → b < w.heap.size

variable {K : Nat → ByteArray} {P : Nat → Bool} {V : Nat → Int} {S : Nat → ByteArray} {w : World} {ao a1 : Option Addr} {n cap b off n1 cap1 b1 off1 : Nat}

/-- n strings, each of at most 1<<20 bytes; n at most 1<<20. -/
def Short (K : Nat → ByteArray) (n : Nat) : Prop := n ≤ 1048576 ∧ ∀ j, j < n → (K j).size ≤ 1048576

/-- What a check answers: true, and then p holds; or false. It leaves the world as it was. -/
def Checks (p : Prop) (w : World) (e : Ending) (w' : World) : Prop := w = w' ∧ ((e = .returned (.bool true) ∧ p) ∨ e = .returned (.bool false))
theorem Checks.no {p : Prop} {w : World} : Checks p w (.returned (.bool false)) w := ⟨rfl, .inr rfl⟩
theorem Checks.yes {p : Prop} {w : World} (h : p) : Checks p w (.returned (.bool true)) w := ⟨rfl, .inl ⟨rfl, h⟩⟩

set_option maxRecDepth 100000 in
set_option maxHeartbeats 1000000 in
theorem b5_any (h : Tooks K P V w ao n cap b off) :
    Calls Try.prog 5 #[.slice ao n cap] w fun e w' => Checks (Short K n) w e w' := by
  have H : Hid (Tooks K P V w ao n cap b off) := h
  clear h
  by_cases hn : n ≤ 1048576
  · go_enter Try.func5, Try.ntmps5
    go_wp2
    go_loop [3, 4] (fun t i => ∃ k m : Nat, k ≤ n ∧ m ≤ 1048576 ∧ i = .int .i64 k ∧ t = .int .i64 m ∧ Hid (∀ j, j < k → (K j).size ≤ 1048576)) (fun _ i => n - (intOf i).toNat)
    case atStart => exact ⟨0, n, Nat.zero_le _, hn, rfl, by go_num, fun j hj => absurd hj (by omega)⟩
    case round =>
      obtain ⟨k, m, hk, hm, rfl, rfl, hall⟩ := hrel
      by_cases hlt : k < n
      · have hi := H.out.at_ k hlt
        have hc := H.out.c0 k hlt
        have hs := H.out.sz k hlt
        unfold maxLen at hs
        by_cases h1 : (K k).size ≤ 1048576
        · by_cases h2 : m + (K k).size ≤ 1048576
          · go_wp2
            go_round
            case rel => exact ⟨k + 1, m + (K k).size, by omega, h2, by go_num, by go_num, fun j hj => by
              by_cases e : j = k
              · rw [e]; exact h1
              · exact hall.out j (by omega)⟩
            case measure => simp [intOf]; omega
          · go_wp2
            go_ret
            exact Checks.no
        · go_wp2
          go_ret
          exact Checks.no
      · go_wp2
        go_ret
        exact Checks.yes ⟨hn, fun j hj => hall.out j (by omega)⟩
  · go_enter Try.func5, Try.ntmps5
    go_wp2
    go_ret
    exact Checks.no

set_option maxRecDepth 100000 in
set_option maxHeartbeats 2000000 in
theorem b15_any (h : Tooks K P V w ao n cap b off) (h1 : Strs S w a1 n1 cap1 b1 off1) :
    Calls Try.prog 15 #[.slice ao n cap, .slice a1 n1 cap1] w fun e w' => Checks (Short K n ∧ Short S n1) w e w' := by
  have H : Hid (Tooks K P V w ao n cap b off) := h
  have H1 : Hid (Strs S w a1 n1 cap1 b1 off1) := h1
  clear h h1
  by_cases hn : n ≤ 1048576
  · go_enter Try.func15, Try.ntmps15
    go_wp2
    go_loop [5, 6] (fun t i => ∃ k m : Nat, k ≤ n ∧ m ≤ 1048576 ∧ i = .int .i64 k ∧ t = .int .i64 m ∧ Hid (∀ j, j < k → (K j).size ≤ 1048576)) (fun _ i => n - (intOf i).toNat)
    case atStart => exact ⟨0, n, Nat.zero_le _, hn, rfl, by go_num, fun j hj => absurd hj (by omega)⟩
    case round =>
      obtain ⟨k, m, hk, hm, rfl, rfl, hall⟩ := hrel
      by_cases hlt : k < n
      · have hi := H.out.at_ k hlt
        have hc := H.out.c0 k hlt
        have hs := H.out.sz k hlt
        unfold maxLen at hs
        by_cases h1 : (K k).size ≤ 1048576
        · by_cases h2 : m + (K k).size ≤ 1048576
          · go_wp2
            go_round
            case rel => exact ⟨k + 1, m + (K k).size, by omega, h2, by go_num, by go_num, fun j hj => by
              by_cases e : j = k
              · rw [e]; exact h1
              · exact hall.out j (by omega)⟩
            case measure => simp [intOf]; omega
          · go_wp2
            go_ret
            exact Checks.no
        · go_wp2
          go_ret
          exact Checks.no
      · have HK : Hid (∀ j, j < n → (K j).size ≤ 1048576) := fun j hj => hall.out j (by omega)
        clear hall
        by_cases hn1 : n1 ≤ 1048576
        · by_cases hm1 : m + n1 ≤ 1048576
          · go_wp2
            go_loop [5, 7] (fun t i => ∃ k2 m2 : Nat, k2 ≤ n1 ∧ m2 ≤ 1048576 ∧ i = .int .i64 k2 ∧ t = .int .i64 m2 ∧ Hid (∀ j, j < k2 → (S j).size ≤ 1048576)) (fun _ i => n1 - (intOf i).toNat)
            case atStart => exact ⟨0, m + n1, Nat.zero_le _, hm1, rfl, by go_num, fun j hj => absurd hj (by omega)⟩
            case round =>
              obtain ⟨k2, m2, hk2, hm2, rfl, rfl, hall2⟩ := hrel
              by_cases hlt2 : k2 < n1
              · have hi := H1.out.at_ k2 hlt2
                have hc := H1.out.c0 k2 hlt2
                have hs := H1.out.sz k2 hlt2
                unfold maxLen at hs
                by_cases h1 : (S k2).size ≤ 1048576
                · by_cases h2 : m2 + (S k2).size ≤ 1048576
                  · go_wp2
                    go_round
                    case rel => exact ⟨k2 + 1, m2 + (S k2).size, by omega, h2, by go_num, by go_num, fun j hj => by
                      by_cases e : j = k2
                      · rw [e]; exact h1
                      · exact hall2.out j (by omega)⟩
                    case measure => simp [intOf]; omega
                  · go_wp2
                    go_ret
                    exact Checks.no
                · go_wp2
                  go_ret
                  exact Checks.no
              · go_wp2
                go_ret
                exact Checks.yes ⟨⟨hn, HK.out⟩, ⟨hn1, fun j hj => hall2.out j (by omega)⟩⟩
          · go_wp2
            go_ret
            exact Checks.no
        · go_wp2
          go_ret
          exact Checks.no
  · go_enter Try.func15, Try.ntmps15
    go_wp2
    go_ret
    exact Checks.no
end Go.Proofs.Qxb6626520a
