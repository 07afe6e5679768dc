/-
  The walk of FnCheckLabelCutKeepsAcceptance.
-/
import Derived.Test.Qxb6626491aFmtW1
namespace Go.Proofs.Qxb6626491aFmt
open Go.RowKit Go.Extern.Stop Go.Stop Go.Extern

theorem answers_below {F : Interp} {B : Nat} {w w' : World} (hF : F.answers w.tape) (hb : Below B w w') : F.answers w'.tape := by rw [hb.tape]; exact hF

theorem no_way (n : Nat) (h : (!decide ((n : Int) ≤ 249)) = true) (a : n ≤ 249) : False := by
  rw [decide_eq_true (show (n : Int) ≤ 249 by omega)] at h
  exact absurd h (by decide)

set_option maxHeartbeats 2000000 in
theorem cut_main (F : Interp) (s : ByteArray) (i : Nat) (w : World) (hF : F.answers w.tape) (hM : s.size ≤ 1048576) (hi : i ≤ s.size) :
    Calls Tryf.prog 3 #[.string s, .int .i64 (i : Int)] w fun e w' => e = .returned (.bool true) ∧ Below w.heap.size w w' := by
  have hsm : s.size ≤ maxLen := by unfold maxLen; omega
  have e1 : (s.extract 0 i).size = i := by rw [ByteArray.size_extract]; omega
  have e2 : (s.extract i s.size).size = s.size - i := by rw [ByteArray.size_extract]; omega
  have E1 : Hid ((s.extract 0 i).size = i) := e1
  have E2 : Hid ((s.extract i s.size).size = s.size - i) := e2
  clear e1 e2
  have HF : Hid (F.answers w.tape) := hF
  clear hF
  go_enter Tryf.func3, Tryf.ntmps3
  go_wp2_with (go_at_call 5; refine (b5_any _ _ _ hsm).mono ?_; rintro e w' ⟨rfl, rfl⟩)
  refine (chk_any F s s.size w HF.out rfl hsm).mono ?_
  rintro e w1 ⟨hv1, hb1⟩
  have HF1 : Hid (F.answers w1.tape) := answers_below HF.out hb1
  rcases hv1 with ⟨a1, a2, rfl⟩ | ⟨a1, p1, rfl⟩
  all_goals
    go_wp2_with fail
    refine (chk_any F (s.extract 0 i) i w1 HF1.out E1.out (by unfold maxLen; omega)).mono ?_
    rintro e w2 ⟨hv2, hb2⟩
    have HF2 : Hid (F.answers w2.tape) := answers_below HF1.out hb2
    rcases hv2 with ⟨b1, b2, rfl⟩ | ⟨b1, p2, rfl⟩
    all_goals
      go_wp2_with fail
      refine (chk_any F (s.extract i s.size) (s.size - i) w2 HF2.out E2.out (by unfold maxLen; omega)).mono ?_
      rintro e w3 ⟨hv3, hb3⟩
      have hbel : Below w.heap.size w w3 := (hb1.trans (hb2.mono hb1.size)).trans (hb3.mono (Nat.le_trans hb1.size hb2.size))
      rcases hv3 with ⟨c1, c2, rfl⟩ | ⟨c1, p3, rfl⟩
      all_goals
        clear hb1 hb2 hb3 HF HF1 HF2 E1 E2
        go_wp2
        all_goals first
          | exact (no_way s.size ‹_› a2).elim
          | (go_ret
             exact ⟨rfl, hbel⟩)

set_option maxHeartbeats 400000 in
theorem cut_any (F : Interp) (s : ByteArray) (i : Int) (w : World) (hF : F.answers w.tape) (hs : s.size ≤ maxLen) :
    Calls Tryf.prog 3 #[.string s, .int .i64 i] w fun e w' => e = .returned (.bool true) ∧ Below w.heap.size w w' := by
  by_cases hM : s.size ≤ 1048576
  · by_cases hp : 0 ≤ i ∧ i ≤ (s.size : Int)
    · obtain ⟨n, rfl⟩ : ∃ n : Nat, i = (n : Int) := ⟨i.toNat, by omega⟩
      exact cut_main F s n w hF hM (by omega)
    · by_cases h1 : i < 0
      · clear hp
        go_enter Tryf.func3, Tryf.ntmps3
        go_wp2_with (go_at_call 5; refine (b5_any _ _ _ hs).mono ?_; rintro e w' ⟨rfl, rfl⟩)
        go_ret
        exact ⟨rfl, Below.refl _ _⟩
      · have h2 : (s.size : Int) < i := by omega
        clear hp
        go_enter Tryf.func3, Tryf.ntmps3
        go_wp2_with (go_at_call 5; refine (b5_any _ _ _ hs).mono ?_; rintro e w' ⟨rfl, rfl⟩)
        go_ret
        exact ⟨rfl, Below.refl _ _⟩
  · go_enter Tryf.func3, Tryf.ntmps3
    go_wp2_with (go_at_call 5; refine (b5_any _ _ _ hs).mono ?_; rintro e w' ⟨rfl, rfl⟩)
    go_ret
    exact ⟨rfl, Below.refl _ _⟩
end Go.Proofs.Qxb6626491aFmt
