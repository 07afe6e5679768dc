/-
  What 'outerReads' holds behind k adds; the walks of the small callees: makers and field readers.
-/
import Derived.Test.Qxb6626520aRows
import Derived.Test.Qxb6626520aPlain
import Derived.WalkKit
import Derived.WalkSpells
import Derived.WalkLawsBesides
import Derived.Deep.AppendLies
namespace Go.Proofs.Qxb6626520a
open Go.RowKit Go.Maps

/-- The cells of k records. -/
def recs (K : Nat → ByteArray) (P : Nat → Bool) (V : Nat → Int) : Nat → List Value
  | 0 => []
  | k + 1 => recs K P V k ++ [.string (K k), .pointer none, .bool (P k), .int .u64 (V k)]
theorem recs_len (K : Nat → ByteArray) (P : Nat → Bool) (V : Nat → Int) : ∀ k, (recs K P V k).length = k * 4
  | 0 => rfl
  | k + 1 => by unfold recs; rw [List.length_append, recs_len K P V k]; simp; omega
theorem recs_at (K : Nat → ByteArray) (P : Nat → Bool) (V : Nat → Int) (i r : Nat) (hr : r < 4) : ∀ k, i < k → (recs K P V k)[i * 4 + r]? = ([.string (K i), .pointer none, .bool (P i), .int .u64 (V i)] : List Value)[r]?
  | 0, h => by omega
  | k + 1, h => by
    unfold recs
    by_cases e : i = k
    · subst e
      rw [List.getElem?_append_right (by rw [recs_len]; omega), recs_len]
      congr 1; omega
    · rw [List.getElem?_append_left (by rw [recs_len]; omega)]
      exact recs_at K P V i r hr k (by omega)

/-- The index behind k adds: none while at most 8 are held; then the map of the last places. -/
def Idx (K : Nat → ByteArray) (O k : Nat) (w : World) (mv : Value) : Prop :=
  (k ≤ 8 ∧ mv = .map none) ∨ (8 < k ∧ ∃ M, mv = .map (some M) ∧ O < M ∧ w.ownsMap Try.prog 9 (plainElem (H := Unit) Try.prog 3) M k (Dm K k))

/-- The object at block O behind k adds; what lay in memory ahead of O is as it was in w0. -/
structure Inv (K : Nat → ByteArray) (P : Nat → Bool) (V : Nat → Int) (w0 : World) (O k : Nat) (w : World) (v mv : Value) : Prop where
  c0 : w.cell? ⟨O, 0, none⟩ = some v
  f0 : w.frozen? ⟨O, 0, none⟩ = false
  c1 : w.cell? ⟨O, 1, none⟩ = some mv
  f1 : w.frozen? ⟨O, 1, none⟩ = false
  row : w.ownsRow (O + 1) 32 4 v k (recs K P V k)
  idx : Idx K O k w mv
  bel : Below O w0 w
  lt : O < w.heap.size

variable {K : Nat → ByteArray} {P : Nat → Bool} {V : Nat → Int} {w0 : World} {O k : Nat} {w : World} {v mv : Value}

theorem Inv.slice (h : Inv K P V w0 O k w v mv) : ∃ ao cap, v = .slice ao k cap := by
  rcases h.row.2 with ⟨rfl, rfl⟩ | ⟨g, cap, _, rfl, _⟩
  · exact ⟨_, _, rfl⟩
  · exact ⟨_, _, rfl⟩
theorem Inv.map (h : Inv K P V w0 O k w v mv) : ∃ r, mv = .map r := by
  rcases h.idx with ⟨_, rfl⟩ | ⟨_, M, rfl, _⟩
  · exact ⟨_, rfl⟩
  · exact ⟨_, rfl⟩
theorem Inv.at (h : Inv K P V w0 O k w v mv) (i : Nat) (hi : i < k) : ∃ g cap, v = .slice (some ⟨g, 0, none⟩) k cap ∧
    w.cell? ⟨g, i * 4, none⟩ = some (.string (K i)) ∧ w.cell? ⟨g, i * 4 + 1, none⟩ = some (.pointer none) ∧ w.cell? ⟨g, i * 4 + 2, none⟩ = some (.bool (P i)) ∧ w.cell? ⟨g, i * 4 + 3, none⟩ = some (.int .u64 (V i)) := by
  obtain ⟨g, cap, rfl, _, _⟩ := h.row.form (by omega)
  have hc : ∀ r, r < 4 → w.cell? ⟨g, i * 4 + r, none⟩ = ([.string (K i), .pointer none, .bool (P i), .int .u64 (V i)] : List Value)[r]? := fun r hr => by
    rw [h.row.cellAt _ (by omega), recs_at K P V i r hr k hi]
  exact ⟨g, cap, rfl, hc 0 (by omega), hc 1 (by omega), hc 2 (by omega), hc 3 (by omega)⟩

set_option maxHeartbeats 400000 in
theorem new_any (K : Nat → ByteArray) (P : Nat → Bool) (V : Nat → Int) (w : World) :
    Calls Try.prog 6 #[] w fun e w' => e = .returned (.pointer (some ⟨w.heap.size, 0, none⟩)) ∧ Inv K P V w w.heap.size 0 w' (.slice none 0 0) (.map none) := by
  go_enter Try.func6, Try.ntmps6
  go_wp2
  go_ret
  exact ⟨rfl, by simp, by simp, by simp, by simp, World.ownsRow_nil _ _ _ _, .inl ⟨by omega, rfl⟩, (Below.refl _ _).alloc (Nat.le_refl _) _, by simp⟩

set_option maxHeartbeats 400000 in
theorem mk_any (s : ByteArray) (p : Bool) (v : Int) (w : World) :
    Calls Try.prog 8 #[.string s, .bool p, .int .u64 v] w fun e w' => e = .returned (.agg #[.string s, .pointer none, .bool p, .int .u64 v]) ∧ w' = w.alloc (.cells #[.string s, .pointer none, .bool p, .int .u64 v] 32) := by
  go_enter Try.func8, Try.ntmps8
  go_wp2
  exact bodyPost_ret (v := .agg #[.string s, .pointer none, .bool p, .int .u64 v]) (by simp [results, Try.results8, go_sem]) rfl ⟨rfl, rfl⟩

set_option maxHeartbeats 400000 in
theorem len_any (O n cap : Nat) (ao : Option Addr) (w : World) (hc : w.cell? ⟨O, 0, none⟩ = some (.slice ao n cap)) :
    Calls Try.prog 9 #[.pointer (some ⟨O, 0, none⟩)] w fun e w' => e = .returned (.int .i64 (n : Int)) ∧ w = w' := by
  go_enter Try.func9, Try.ntmps9
  go_wp2
  go_ret
  exact ⟨rfl, rfl⟩

set_option maxHeartbeats 400000 in
theorem key_any (O n cap g i : Nat) (s : ByteArray) (w : World) (hc : w.cell? ⟨O, 0, none⟩ = some (.slice (some ⟨g, 0, none⟩) n cap)) (hi : i < n) (hk : w.cell? ⟨g, i * 4, none⟩ = some (.string s)) :
    Calls Try.prog 10 #[.pointer (some ⟨O, 0, none⟩), .int .i64 (i : Int)] w fun e w' => e = .returned (.string s) ∧ w = w' := by
  go_enter Try.func10, Try.ntmps10
  go_wp2
  go_ret
  exact ⟨rfl, rfl⟩

set_option maxHeartbeats 400000 in
theorem par_any (O n cap g i : Nat) (p : Bool) (w : World) (hc : w.cell? ⟨O, 0, none⟩ = some (.slice (some ⟨g, 0, none⟩) n cap)) (hi : i < n) (hk : w.cell? ⟨g, i * 4 + 2, none⟩ = some (.bool p)) :
    Calls Try.prog 11 #[.pointer (some ⟨O, 0, none⟩), .int .i64 (i : Int)] w fun e w' => e = .returned (.bool p) ∧ w = w' := by
  go_enter Try.func11, Try.ntmps11
  go_wp2
  go_ret
  exact ⟨rfl, rfl⟩

set_option maxHeartbeats 400000 in
theorem ver_any (O n cap g i : Nat) (x : Int) (w : World) (hc : w.cell? ⟨O, 0, none⟩ = some (.slice (some ⟨g, 0, none⟩) n cap)) (hi : i < n) (hk : w.cell? ⟨g, i * 4 + 3, none⟩ = some (.int .u64 x)) :
    Calls Try.prog 12 #[.pointer (some ⟨O, 0, none⟩), .int .i64 (i : Int)] w fun e w' => e = .returned (.int .u64 x) ∧ w = w' := by
  go_enter Try.func12, Try.ntmps12
  go_wp2
  go_ret
  exact ⟨rfl, rfl⟩

set_option maxHeartbeats 400000 in
theorem ent_any (O n cap g i : Nat) (w : World) (hc : w.cell? ⟨O, 0, none⟩ = some (.slice (some ⟨g, 0, none⟩) n cap)) (hi : i < n) (hk : w.cell? ⟨g, i * 4 + 1, none⟩ = some (.pointer none)) :
    Calls Try.prog 13 #[.pointer (some ⟨O, 0, none⟩), .int .i64 (i : Int)] w fun e w' => e = .returned (.bool true) ∧ w = w' := by
  go_enter Try.func13, Try.ntmps13
  go_wp2
  go_ret
  exact ⟨rfl, rfl⟩

set_option maxHeartbeats 400000 in
theorem map_any (O : Nat) (r : Option Nat) (w : World) (hc : w.cell? ⟨O, 1, none⟩ = some (.map r)) :
    Calls Try.prog 14 #[.pointer (some ⟨O, 0, none⟩)] w fun e w' => e = .returned (.map r) ∧ w = w' := by
  go_enter Try.func14, Try.ntmps14
  go_wp2
  go_ret
  exact ⟨rfl, rfl⟩

theorem Inv.lenC (h : Inv K P V w0 O k w v mv) : Calls Try.prog 9 #[.pointer (some ⟨O, 0, none⟩)] w fun e w' => e = .returned (.int .i64 (k : Int)) ∧ w = w' := by
  obtain ⟨ao, cap, rfl⟩ := h.slice
  exact len_any O k cap ao w h.c0
theorem Inv.keyC (h : Inv K P V w0 O k w v mv) (i : Nat) (hi : i < k) : Calls Try.prog 10 #[.pointer (some ⟨O, 0, none⟩), .int .i64 (i : Int)] w fun e w' => e = .returned (.string (K i)) ∧ w = w' := by
  obtain ⟨g, cap, rfl, h0, _, _, _⟩ := h.at i hi
  exact key_any O k cap g i _ w h.c0 hi h0
theorem Inv.parC (h : Inv K P V w0 O k w v mv) (i : Nat) (hi : i < k) : Calls Try.prog 11 #[.pointer (some ⟨O, 0, none⟩), .int .i64 (i : Int)] w fun e w' => e = .returned (.bool (P i)) ∧ w = w' := by
  obtain ⟨g, cap, rfl, _, _, h2, _⟩ := h.at i hi
  exact par_any O k cap g i _ w h.c0 hi h2
theorem Inv.verC (h : Inv K P V w0 O k w v mv) (i : Nat) (hi : i < k) : Calls Try.prog 12 #[.pointer (some ⟨O, 0, none⟩), .int .i64 (i : Int)] w fun e w' => e = .returned (.int .u64 (V i)) ∧ w = w' := by
  obtain ⟨g, cap, rfl, _, _, _, h3⟩ := h.at i hi
  exact ver_any O k cap g i _ w h.c0 hi h3
theorem Inv.entC (h : Inv K P V w0 O k w v mv) (i : Nat) (hi : i < k) : Calls Try.prog 13 #[.pointer (some ⟨O, 0, none⟩), .int .i64 (i : Int)] w fun e w' => e = .returned (.bool true) ∧ w = w' := by
  obtain ⟨g, cap, rfl, _, h1, _, _⟩ := h.at i hi
  exact ent_any O k cap g i w h.c0 hi h1
theorem Inv.mapC (h : Inv K P V w0 O k w v mv) : Calls Try.prog 14 #[.pointer (some ⟨O, 0, none⟩)] w fun e w' => e = .returned mv ∧ w = w' := by
  obtain ⟨r, rfl⟩ := h.map
  exact map_any O r w h.c1
theorem Inv.drew (h : Inv K P V w0 O k w v mv) : Inv K P V w0 O k w.drew v mv := by
  refine ⟨h.c0, h.f0, h.c1, h.f1, h.row.drew, ?_, h.bel.drew, h.lt⟩
  rcases h.idx with h1 | ⟨h1, M, h2, h3, h4⟩
  · exact .inl h1
  · exact .inr ⟨h1, M, h2, h3, h4.drew⟩
end Go.Proofs.Qxb6626520a
