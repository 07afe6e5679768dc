/-
  The closed facts on the stopped fmt.errorf, and the walks of the callees.
-/
import Derived.Test.Qxb6626491aFmtRows
import Derived.Stop.CallBack
import Derived.Stop.IfaceNil
import Derived.WalkKit
import Derived.WalkSpells
import Derived.WalkLawsBesides
import Derived.OpenShut
namespace Go.Proofs.Qxb6626491aFmt
open Go.RowKit Go.Extern.Stop Go.Stop Go.Extern

theorem call9 (args : Array Value) (w : World) : (callFunc 9 args).run Tryf.prog w = ((FmtStop.errorf #[9, 29] #[24] args).run Tryf.prog w).andThen fun v w' => .ok (.value v) w' :=
  run_callFunc_extern Tryf.func9 (by kernel_rfl) (by kernel_rfl) (by kernel_rfl) (by kernel_rfl) args w
theorem guardOk (name : String) (w : World) : (FmtStop.guard name).run Tryf.prog w = .ok () w := by kernel_rfl
theorem fmt0 : FmtStop.printed? ⟨#[97, 110, 32, 101, 120, 112, 111, 114, 116, 101, 114, 32, 108, 97, 98, 101, 108, 32, 105, 115, 32, 49, 32, 116, 111, 32, 37, 100, 32, 98, 121, 116, 101, 115, 44, 32, 110, 111, 116, 32, 37, 100]⟩ 2 = some [(0, 100, false), (1, 100, false)] := by kernel_rfl
theorem fmt0r (w : World) : (FmtDoors.printed ⟨#[97, 110, 32, 101, 120, 112, 111, 114, 116, 101, 114, 32, 108, 97, 98, 101, 108, 32, 105, 115, 32, 49, 32, 116, 111, 32, 37, 100, 32, 98, 121, 116, 101, 115, 44, 32, 110, 111, 116, 32, 37, 100]⟩ 2).run Tryf.prog w = .ok [(0, 100, false), (1, 100, false)] w := by kernel_rfl
def shape3 : List UInt8 := [5, 3, 0, 0, 0, 0, 0, 0, 0, 105, 110, 116]
theorem op3_100 (name : String) (x : Int) (w : World) : (FmtStop.operand name false 100 false (.iface 3 (.int .i64 x))).run Tryf.prog w = .ok (shape3, Go.Extern.Stop.digits 8 (x % 2 ^ 64).toNat) w := by kernel_rfl
theorem op3_100w (name : String) (x : Int) (w : World) : (FmtStop.operand name true 100 false (.iface 3 (.int .i64 x))).run Tryf.prog w = .ok (shape3, Go.Extern.Stop.digits 8 (x % 2 ^ 64).toNat) w := by kernel_rfl
theorem ptr31 (w : World) : (FmtStop.ptrTo "errors.errorString").run Tryf.prog w = .ok 31 w := by kernel_rfl
theorem elem31 (w : World) : (elemOf 31).run Tryf.prog w = .ok 33 w := by kernel_rfl
theorem isError31 (w : World) : (FmtDoors.textMethod 31 "Error").run Tryf.prog w = .ok true w := by kernel_rfl
attribute [local go_sem] call9 guardOk fmt0 fmt0r op3_100 op3_100w ptr31 elem31 isError31

theorem empty_str (s : ByteArray) (h : s.size = 0) : s.toList.isEmpty = true := by
  rw [ByteArray.toList_eq, List.isEmpty_iff_length_eq_zero]
  simpa using h
theorem some_str (s : ByteArray) (h : 0 < s.size) : s.toList.isEmpty = false := by
  rw [ByteArray.toList_eq, List.isEmpty_eq_false_iff_exists_mem]
  have : 0 < s.data.toList.length := by simpa using h
  exact ⟨s.data.toList[0], List.getElem_mem this⟩

set_option maxHeartbeats 400000 in
theorem chk_ok (s : ByteArray) (w : World) (h1 : 0 < s.size) (h2 : s.size ≤ 249) :
    Calls Tryf.prog 6 #[.string s] w fun e w' => e = .returned .nilIface ∧ w = w' := by
  have hne := some_str s h1
  go_enter Tryf.func6, Tryf.ntmps6
  go_wp2
  go_ret
  exact ⟨rfl, rfl⟩

set_option maxHeartbeats 400000 in
theorem chk_no (F : Interp) (s : ByteArray) (w : World) (hF : F.answers w.tape) (hs : s.size ≤ maxLen) (h : s.size = 0 ∨ 249 < s.size) :
    Calls Tryf.prog 6 #[.string s] w fun e w' => e = .returned (.iface 31 (.pointer (some ⟨w.heap.size + 1, 0, none⟩))) ∧ Below w.heap.size w w' := by
  unfold maxLen at hs
  have hF' := hF
  unfold Interp.answers at hF'
  rcases h with h | h
  · have hne := empty_str s h
    have H : Hid (s.size = 0) := h
    clear h
    go_enter Tryf.func6, Tryf.ntmps6
    go_wp2
    go_ret
    exact ⟨rfl, (((Below.refl _ _).alloc (Nat.le_refl _) _).alloc (by simp) _).drew⟩
  · have hne := some_str s (by omega)
    go_enter Tryf.func6, Tryf.ntmps6
    go_wp2
    go_ret
    exact ⟨rfl, (((Below.refl _ _).alloc (Nat.le_refl _) _).alloc (by simp) _).drew⟩

theorem chk_any (F : Interp) (s : ByteArray) (n : Nat) (w : World) (hF : F.answers w.tape) (hn : s.size = n) (hs : n ≤ maxLen) :
    Calls Tryf.prog 6 #[.string s] w fun e w' => ((1 ≤ n ∧ n ≤ 249 ∧ e = .returned .nilIface) ∨ ((n = 0 ∨ 249 < n) ∧ ∃ a, e = .returned (.iface 31 (.pointer (some a))))) ∧ Below w.heap.size w w' := by
  subst hn
  by_cases h : 0 < s.size ∧ s.size ≤ 249
  · refine (chk_ok s w h.1 h.2).mono ?_
    rintro e w' ⟨rfl, rfl⟩
    exact ⟨.inl ⟨h.1, h.2, rfl⟩, Below.refl _ _⟩
  · refine (chk_no F s w hF hs (by omega)).mono ?_
    rintro e w' ⟨rfl, hb⟩
    exact ⟨.inr ⟨by omega, _, rfl⟩, hb⟩

set_option maxHeartbeats 400000 in
theorem b5_any (s : ByteArray) (i : Int) (w : World) (hs : s.size ≤ maxLen) :
    Calls Tryf.prog 5 #[.string s, .int .i64 i] w fun e w' => e = .returned (.bool (decide (s.size ≤ 1048576))) ∧ w = w' := by
  unfold maxLen at hs
  by_cases h : s.size ≤ 1048576
  all_goals
    go_enter Tryf.func5, Tryf.ntmps5
    go_wp2
    go_ret
    exact ⟨by simp [h], rfl⟩

set_option maxHeartbeats 400000 in
theorem b7_any (s : ByteArray) (c : Int) (w : World) (hs : s.size ≤ maxLen) :
    Calls Tryf.prog 7 #[.string s, .int .u8 c] w fun e w' => e = .returned (.bool (decide (s.size ≤ 1048576))) ∧ w = w' := by
  unfold maxLen at hs
  by_cases h : s.size ≤ 1048576
  all_goals
    go_enter Tryf.func7, Tryf.ntmps7
    go_wp2
    go_ret
    exact ⟨by simp [h], rfl⟩
end Go.Proofs.Qxb6626491aFmt
