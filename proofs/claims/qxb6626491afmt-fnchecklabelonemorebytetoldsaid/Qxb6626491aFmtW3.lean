/-
  The walk of FnCheckLabelOneMoreByte.
-/
import Derived.Test.Qxb6626491aFmtW2
import Derived.Laws.IdiomStrings
namespace Go.Proofs.Qxb6626491aFmt
open Go.RowKit Go.Extern.Stop Go.Stop Go.Extern

theorem byte_of (a : Int) (h : (Lit.int .u8 a).wf = true) : ∃ c : UInt8, a = (c.toNat : Int) := by
  have hb := bounds_u8 h
  refine ⟨UInt8.ofNat a.toNat, ?_⟩
  have : (UInt8.ofNat a.toNat).toNat = a.toNat := by simp; omega
  rw [this]; omega

theorem one_byte (w : World) (c : UInt8) : ∃ u : ByteArray, u.size = 1 ∧
    (convert 27 9 (.slice (some ⟨w.heap.size, 0, none⟩) 1 1)).run Tryf.prog (w.alloc (.cells #[.int .u8 (c.toNat : Int)] 5)) = .ok (.string u) (w.alloc (.cells #[.int .u8 (c.toNat : Int)] 5)) := by
  refine ⟨⟨[c].toArray⟩, rfl, ?_⟩
  refine run_convert_bytes_back (P := Tryf.prog) (w.alloc (.cells #[.int .u8 (c.toNat : Int)] 5)) 27 9 5 ⟨w.heap.size, 0, none⟩ 1 [c] Tryf.underlying27 Tryf.underlying5 Tryf.underlying9 ?_
  intro j hj
  have h0 : j = 0 := by simpa using hj
  subst h0
  simp [Addr.add]

theorem eq_true' {x y : Int} (h : x = y) : (x == y) = true := by simp [h]
theorem eq_false' {x y : Int} (h : ¬ x = y) : (x == y) = false := by simp [h]

/-- The four lengths that matter, each with the tests that it decides: is it 0; is it 249; does one byte more fit. -/
theorem four (n : Nat) : (((n : Int) == 0) = true ∧ ((n : Int) == 249) = false ∧ decide ((n : Int) + 1 ≤ 249) = true ∧ Hid (n = 0)) ∨
    (((n : Int) == 0) = false ∧ ((n : Int) == 249) = false ∧ decide ((n : Int) + 1 ≤ 249) = true ∧ Hid (1 ≤ n ∧ n ≤ 248)) ∨
    (((n : Int) == 0) = false ∧ ((n : Int) == 249) = true ∧ decide ((n : Int) + 1 ≤ 249) = false ∧ Hid (n = 249)) ∨
    (((n : Int) == 0) = false ∧ ((n : Int) == 249) = false ∧ decide ((n : Int) + 1 ≤ 249) = false ∧ Hid (250 ≤ n)) := by
  rcases (show n = 0 ∨ (1 ≤ n ∧ n ≤ 248) ∨ n = 249 ∨ 250 ≤ n by omega) with h | h | h | h
  · exact .inl ⟨eq_true' (by omega), eq_false' (by omega), decide_eq_true (by omega), h⟩
  · exact .inr (.inl ⟨eq_false' (by omega), eq_false' (by omega), decide_eq_true (by omega), h⟩)
  · exact .inr (.inr (.inl ⟨eq_false' (by omega), eq_true' (by omega), decide_eq_false (by omega), h⟩))
  · exact .inr (.inr (.inr ⟨eq_false' (by omega), eq_false' (by omega), decide_eq_false (by omega), h⟩))

set_option maxRecDepth 100000 in
set_option maxHeartbeats 2000000 in
theorem more_main (F : Interp) (s : ByteArray) (c : UInt8) (w : World) (hF : F.answers w.tape) (hM : s.size ≤ 1048576) :
    Calls Tryf.prog 4 #[.string s, .int .u8 (c.toNat : Int)] w fun e w' => e = .returned (.bool true) ∧ Below w.heap.size w w' := by
  have hsm : s.size ≤ maxLen := by unfold maxLen; omega
  obtain ⟨u, hu, hconv⟩ := one_byte w c
  have hsz : (s ++ u).size = s.size + 1 := by rw [ByteArray.size_append, hu]
  have HF : Hid (F.answers w.tape) := hF
  clear hF
  go_enter Tryf.func4, Tryf.ntmps4
  go_wp2_with (go_at_call 7; refine (b7_any _ _ _ hsm).mono ?_; rintro e w' ⟨rfl, rfl⟩)
  have hb0 : Below w.heap.size w (w.alloc (.cells #[.int .u8 (c.toNat : Int)] 5)) := (Below.refl _ _).alloc (Nat.le_refl _) _
  refine (chk_any F s s.size _ (answers_below HF.out hb0) rfl hsm).mono ?_
  rintro e w1 ⟨hv1, hb1⟩
  have hbel1 : Below w.heap.size w w1 := hb0.trans (hb1.mono hb0.size)
  clear hb0 hb1 hconv
  rcases four s.size with ⟨t0, t1, t2, HC⟩ | ⟨t0, t1, t2, HC⟩ | ⟨t0, t1, t2, HC⟩ | ⟨t0, t1, t2, HC⟩
  all_goals
    have hc := HC.out
    rcases hv1 with ⟨a1, a2, rfl⟩ | ⟨a1, p1, rfl⟩
    all_goals first
      | (exfalso; omega)
      | (clear hc a1
         go_wp2_with fail
         refine (chk_any F (s ++ u) (s.size + 1) w1 (answers_below HF.out hbel1) hsz (by unfold maxLen; omega)).mono ?_
         rintro e w2 ⟨hv2, hb2⟩
         have hbel : Below w.heap.size w w2 := hbel1.trans (hb2.mono hbel1.size)
         have hc := HC.out
         clear hb2 hbel1 HF
         rcases hv2 with ⟨b1, b2, rfl⟩ | ⟨b1, p2, rfl⟩
         all_goals first
           | (exfalso; omega)
           | (clear hc b1
              go_wp2
              go_ret
              exact ⟨rfl, hbel⟩))

set_option maxHeartbeats 400000 in
theorem more_any (F : Interp) (s : ByteArray) (c : UInt8) (w : World) (hF : F.answers w.tape) (hs : s.size ≤ maxLen) :
    Calls Tryf.prog 4 #[.string s, .int .u8 (c.toNat : Int)] w fun e w' => e = .returned (.bool true) ∧ Below w.heap.size w w' := by
  by_cases hM : s.size ≤ 1048576
  · exact more_main F s c w hF hM
  · go_enter Tryf.func4, Tryf.ntmps4
    go_wp2_with (go_at_call 7; refine (b7_any _ _ _ hs).mono ?_; rintro e w' ⟨rfl, rfl⟩)
    go_ret
    exact ⟨rfl, Below.refl _ _⟩
end Go.Proofs.Qxb6626491aFmt
