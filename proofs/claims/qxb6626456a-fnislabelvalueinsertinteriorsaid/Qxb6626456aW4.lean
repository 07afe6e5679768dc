/-
  The walk of FnIsLabelValueInsertInterior.
-/
import Derived.Test.Qxb6626456aW3
import Derived.OpenShut
import Derived.Deep.DeepCutAuto
namespace Go.Proofs.Qxb6626456a
open Go.RowKit

theorem byte_of (a : Int) (h : (Lit.int .u8 a).wf = true) : ∃ c : UInt8, a = (c.toNat : Int) := by
  have hb := bounds_u8 h
  refine ⟨UInt8.ofNat a.toNat, ?_⟩
  have : (UInt8.ofNat a.toNat).toNat = a.toNat := by simp; omega
  rw [this]; omega

theorem Try.info5 : (Try.prog.info? 5).map (fun i => (i.zero, i.size, i.bytes)) = some (some (.int .u8 0), 1, 1) := by kernel_rfl

/-- The core behind k rounds. -/
def coreAt (s : ByteArray) (k j : Nat) : UInt8 := if j < k then coreF s j else 0
theorem coreAt_up (s : ByteArray) (k : Nat) (j : Nat) : (if j = k then coreF s k else coreAt s k j) = coreAt s (k + 1) j := by
  unfold coreAt
  by_cases h2 : j = k
  · subst h2; simp
  · by_cases h1 : j < k
    · simp [h1, h2, show j < k + 1 by omega]
    · simp [h1, h2, show ¬ j < k + 1 by omega]
theorem made (w : World) (n : Nat) (h : n ≤ 65536) : ∃ w1, (Instr.makeSlice 24 (.int .i64 (n : Int)) (.int .i64 (n : Int))).run Try.prog w = .ok (.slice (some ⟨w.heap.size, 0, none⟩) n n) w1 ∧ Row w1 w.heap.size n (fun _ => 0) ∧ Below w.heap.size w w1 := by
  obtain ⟨i0, hi, hz0, hz1, hz2⟩ := info_parts Try.info5
  obtain ⟨w1, hmk, hown, hgrow⟩ := run_make_full (P := Try.prog) w w.heap.size 24 5 i0 (.int .u8 0) 1 Try.underlying24 hi hz0 hz1 .i64 .i64 n (by rw [hz2]; omega) (by unfold maxLen; omega) (Nat.le_refl _)
  exact ⟨w1, hmk, Row.made hown, (Below.refl _ _).grown hgrow (Nat.le_refl _) (fun k h => by simp at h)⟩

set_option maxRecDepth 100000 in
set_option maxHeartbeats 2000000 in
theorem ins_main (s : ByteArray) (i : Nat) (c : UInt8) (w : World) (hs : s.size ≤ 65536) (h0 : 0 < i) (h1 : i < s.size) :
    Calls Try.prog 4 #[.string s, .int .i64 (i : Int), .int .u8 (c.toNat : Int)] w fun e w' => e = .returned (.bool true) ∧ Below w.heap.size w w' := by
  have hsm : s.size ≤ maxLen := by unfold maxLen; omega
  obtain ⟨i0, hi, hz0, hz1, hz2⟩ := info_parts Try.info5
  have hM : s.size ≤ 1048576 := by omega
  go_enter Try.func4, Try.ntmps4
  go_wp2_with (first
    | (go_at_call 8; refine (b8_any _ _ _ _ hsm).mono ?_; rintro e w' ⟨rfl, rfl⟩)
    | (at_make; refine wpList_make_own _ rfl _ _ 24 rfl w.heap.size 5 i0 (.int .u8 0) 1 Try.underlying24 hi hz0 hz1 .i64 .i64 _ (s.size + 1) rfl rfl (by omega) (by rw [hz2]; omega) (by unfold maxLen; omega) (Nat.le_refl _) ?_; intro w1 hown1 hgrow1))
  have hb1 : Below w.heap.size w w1 := (Below.refl _ _).grown hgrow1 (Nat.le_refl _) (fun k h => by simp at h)
  clear hgrow1
  go_loopw [7, 8] (fun v j wr => ∃ k : Nat, k ≤ i ∧ j = .int .i64 k ∧ v = .slice (some ⟨w.heap.size, 0, none⟩) k (s.size + 1) ∧ wr.ownsRow w.heap.size 5 1 (.slice (some ⟨w.heap.size, 0, none⟩) k (s.size + 1)) k (cellsOf (insF s i c) k) ∧ Below w.heap.size w wr) (fun _ j _ => i - (intOf j).toNat)
  case atStart => exact ⟨0, Nat.zero_le _, rfl, rfl, hown1, hb1⟩
  case round =>
    obtain ⟨k, hk, rfl, rfl, hown, hbel⟩ := hrel
    clear hown1 hb1
    by_cases hlt : k < i
    · have ek := bt_eq s k (by omega)
      have hks : k < s.size := by omega
      go_wp2_with (at_builtin; refine wpList_append_fits _ rfl (.tmp 40) (.tmp 44) 24 rfl w.heap.size 5 i0 1 Try.underlying24 hi hz1 w.heap.size k (s.size + 1) (cellsOf (insF s i c) k) rfl (hown.alloc _) ⟨wr.heap.size, 0, none⟩ 1 1 [.int .u8 ((bt s k).toNat : Int)] rfl rfl (cell_one_new _ _ _) (by simp [Value.oneCell']) (by omega) ?_; intro w2 hown2 hgrow2)
      have R : w2.ownsRow w.heap.size 5 1 (.slice (some ⟨w.heap.size, 0, none⟩) (k + 1) (s.size + 1)) (k + 1) (cellsOf (insF s i c) (k + 1)) := by
        rw [cellsOf_succ, insF_lo s i c k hlt]; exact hown2
      have hb2 : Below w.heap.size w w2 := (hbel.alloc hbel.size _).grown hgrow2 (by have := hbel.size; simp; omega) (fun g h => by simp at h; omega)
      go_roundw
      case rel => exact ⟨k + 1, by omega, by go_num, rfl, R, hb2⟩
      case measure => simp [intOf]; omega
    · obtain rfl : i = k := by omega
      clear hk hlt
      go_wp2_with (at_builtin; refine wpList_append_fits _ rfl (.tmp 46) (.tmp 48) 24 rfl w.heap.size 5 i0 1 Try.underlying24 hi hz1 w.heap.size i (s.size + 1) (cellsOf (insF s i c) i) rfl (hown.alloc _) ⟨wr.heap.size, 0, none⟩ 1 1 [.int .u8 (c.toNat : Int)] rfl rfl (cell_one_new _ _ _) (by simp [Value.oneCell']) (by omega) ?_; intro w2 hown2 hgrow2)
      have R : w2.ownsRow w.heap.size 5 1 (.slice (some ⟨w.heap.size, 0, none⟩) (i + 1) (s.size + 1)) (i + 1) (cellsOf (insF s i c) (i + 1)) := by
        rw [cellsOf_succ, insF_at s i c]; exact hown2
      have hb2 : Below w.heap.size w w2 := (hbel.alloc hbel.size _).grown hgrow2 (by have := hbel.size; simp; omega) (fun g h => by simp at h; omega)
      clear hown hbel hown2 hgrow2
      go_loopw [7, 9] (fun v j wr => ∃ k : Nat, i ≤ k ∧ k ≤ s.size ∧ j = .int .i64 k ∧ v = .slice (some ⟨w.heap.size, 0, none⟩) (k + 1) (s.size + 1) ∧ wr.ownsRow w.heap.size 5 1 (.slice (some ⟨w.heap.size, 0, none⟩) (k + 1) (s.size + 1)) (k + 1) (cellsOf (insF s i c) (k + 1)) ∧ Below w.heap.size w wr) (fun _ j _ => s.size - (intOf j).toNat)
      case atStart => exact ⟨i, Nat.le_refl _, by omega, rfl, rfl, R, hb2⟩
      case round =>
        clear R hb2
        obtain ⟨k, hik, hk, rfl, rfl, hown, hbel⟩ := hrel
        by_cases hlt : k < s.size
        · have ek := bt_eq s k (by omega)
          go_wp2_with (at_builtin; refine wpList_append_fits _ rfl (.tmp 57) (.tmp 61) 24 rfl w.heap.size 5 i0 1 Try.underlying24 hi hz1 w.heap.size (k + 1) (s.size + 1) (cellsOf (insF s i c) (k + 1)) rfl (hown.alloc _) ⟨wr.heap.size, 0, none⟩ 1 1 [.int .u8 ((bt s k).toNat : Int)] rfl rfl (cell_one_new _ _ _) (by simp [Value.oneCell']) (by omega) ?_; intro w2 hown2 hgrow2)
          have R : w2.ownsRow w.heap.size 5 1 (.slice (some ⟨w.heap.size, 0, none⟩) (k + 1 + 1) (s.size + 1)) (k + 1 + 1) (cellsOf (insF s i c) (k + 1 + 1)) := by
            rw [cellsOf_succ, insF_hi s i c k hik]; exact hown2
          have hb2 : Below w.heap.size w w2 := (hbel.alloc hbel.size _).grown hgrow2 (by have := hbel.size; simp; omega) (fun g h => by simp at h; omega)
          go_roundw
          case rel => exact ⟨k + 1, by omega, by omega, by go_num, rfl, R, hb2⟩
          case measure => simp [intOf]; omega
        · obtain rfl : k = s.size := by omega
          clear hk hlt
          have hbk := Row.back (P := Try.prog) (Row.owned hown) 24 9 5 (s.size + 1) Try.underlying24 Try.underlying5 Try.underlying9
          clear hown
          go_wp2_with fail
          refine (lab_any _ _ (by rw [size_mkS]; unfold maxLen; omega)).mono ?_
          rintro e w' ⟨he, rfl⟩
          rw [lab_mkS, lab_ins s i c h0 h1] at he
          subst he
          clear hbk
          generalize hg : (lab s && decide (s.size < 63) && okB c) = g
          have HG : Hid ((lab s && decide (s.size < 63) && okB c) = g) := hg
          clear hg
          go_upto_region 18 with fail
          go_cut [11] (fun v wx => v = .bool g ∧ wr = wx)
          case first =>
            cases hL : lab s
            · go_wp2_with (first | (go_at_call 6; refine (lab_any _ _ hsm).mono ?_; rintro e w' ⟨rfl, rfl⟩) | (go_at_call 9; refine (al9_any _ _).mono ?_; rintro e w' ⟨rfl, rfl⟩) | (go_at_call 10; refine (pu10_any _ _).mono ?_; rintro e w' ⟨rfl, rfl⟩))
              go_meet
              case rel => exact ⟨by rw [← HG.out, hL]; rfl, rfl⟩
            · by_cases h63 : s.size < 63
              · cases hA : alB c
                · cases hP : puB c
                  all_goals
                    go_wp2_with (first | (go_at_call 6; refine (lab_any _ _ hsm).mono ?_; rintro e w' ⟨rfl, rfl⟩) | (go_at_call 9; refine (al9_any _ _).mono ?_; rintro e w' ⟨rfl, rfl⟩) | (go_at_call 10; refine (pu10_any _ _).mono ?_; rintro e w' ⟨rfl, rfl⟩))
                    go_meet
                    case rel => exact ⟨by rw [← HG.out, hL, decide_eq_true h63]; simp [okB, hA, hP], rfl⟩
                · go_wp2_with (first | (go_at_call 6; refine (lab_any _ _ hsm).mono ?_; rintro e w' ⟨rfl, rfl⟩) | (go_at_call 9; refine (al9_any _ _).mono ?_; rintro e w' ⟨rfl, rfl⟩) | (go_at_call 10; refine (pu10_any _ _).mono ?_; rintro e w' ⟨rfl, rfl⟩))
                  go_meet
                  case rel => exact ⟨by rw [← HG.out, hL, decide_eq_true h63]; simp [okB, hA], rfl⟩
              · go_wp2_with (first | (go_at_call 6; refine (lab_any _ _ hsm).mono ?_; rintro e w' ⟨rfl, rfl⟩) | (go_at_call 9; refine (al9_any _ _).mono ?_; rintro e w' ⟨rfl, rfl⟩) | (go_at_call 10; refine (pu10_any _ _).mono ?_; rintro e w' ⟨rfl, rfl⟩))
                go_meet
                case rel => exact ⟨by rw [← HG.out, decide_eq_false h63]; simp, rfl⟩
          case rest =>
            obtain ⟨rfl, rfl⟩ := hcut
            clear HG hz2
            clear hi hz0 hz1
            obtain ⟨m, hm63, hm⟩ : ∃ m : Nat, m ≤ 63 ∧ ((s.size ≤ 63 ∧ m = s.size) ∨ (¬ s.size ≤ 63 ∧ m = 63)) := by
              by_cases h : s.size ≤ 63
              · exact ⟨s.size, h, .inl ⟨h, rfl⟩⟩
              · exact ⟨63, Nat.le_refl _, .inr ⟨h, rfl⟩⟩
            have hm1 : m ≤ s.size := by omega
            have HM : Hid ((s.size ≤ 63 ∧ m = s.size) ∨ (¬ s.size ≤ 63 ∧ m = 63)) := hm
            clear hm
            go_upto_if 84 with fail
            go_cut [12] (fun v wx => v = .int .i64 (m : Int) ∧ wr = wx)
            case first =>
              rcases HM.out with ⟨h63, hmm⟩ | ⟨h63, hmm⟩
              · have H : Hid (m = s.size) := hmm
                clear hmm
                go_wp2
                go_meet
                case rel => exact ⟨by rw [H.out], rfl⟩
              · have H : Hid (m = 63) := hmm
                clear hmm
                go_wp2
                go_meet
                case rel => exact ⟨by rw [H.out]; rfl, rfl⟩
            case rest =>
              obtain ⟨rfl, rfl⟩ := hcut
              clear HM
              obtain ⟨w4, hmk, hrow4, hb4⟩ := made wr m (by omega)
              have HR : Hid (Row w4 wr.heap.size m (fun _ => 0)) := hrow4
              have HB : Hid (Below w.heap.size w w4) := hbel.trans (hb4.mono hbel.size)
              have hsz : w.heap.size ≤ wr.heap.size := hbel.size
              clear hrow4 hb4 hbel
              obtain ⟨B3, hB3⟩ : ∃ B3 : Nat, B3 = wr.heap.size := ⟨_, rfl⟩
              rw [← hB3] at HR hmk hsz
              clear hB3
              go_wp2
              go_loopw [14] (fun j wx => ∃ k : Nat, k ≤ m ∧ j = .int .i64 k ∧ Row wx B3 m (coreAt s k) ∧ Below w.heap.size w wx) (fun j _ => m - (intOf j).toNat)
              case atStart => exact ⟨0, Nat.zero_le _, rfl, Row.congr HR.out (fun j _ => by simp [coreAt]), HB.out⟩
              case round =>
                obtain ⟨k, hk, rfl, hrow, hbel⟩ := hrel
                clear HR HB hmk
                by_cases hlt : k < m
                · have hks : k < s.size := by omega
                  have ek := bt_eq s k hks
                  have hc := (hrow k hlt).1
                  have hf := (hrow k hlt).2
                  have R := (hrow.set k (coreF s k)).congr (fun j _ => coreAt_up s k j)
                  cases ha : alB (bt s k)
                  · have e48 : coreF s k = 48 := by unfold coreF; rw [if_neg (by simp [ha])]
                    rw [e48] at R
                    have HR : Hid (Row (wr.setCell ⟨B3, k, none⟩ (.int .u8 48)) B3 m (coreAt s (k + 1))) := R
                    clear R hrow e48
                    go_wp2_with (go_at_call 9; refine (al9_any _ _).mono ?_; rintro e w' ⟨rfl, rfl⟩)
                    go_roundw
                    case rel => exact ⟨k + 1, by omega, by go_num, HR.out, hbel.setCell hsz _⟩
                    case measure => simp [intOf]; omega
                  · have e48 : coreF s k = bt s k := by unfold coreF; rw [if_pos ha]
                    rw [e48] at R
                    have HR : Hid (Row (wr.setCell ⟨B3, k, none⟩ (.int .u8 ((bt s k).toNat : Int))) B3 m (coreAt s (k + 1))) := R
                    clear R hrow e48
                    go_wp2_with (go_at_call 9; refine (al9_any _ _).mono ?_; rintro e w' ⟨rfl, rfl⟩)
                    go_roundw
                    case rel => exact ⟨k + 1, by omega, by go_num, HR.out, hbel.setCell hsz _⟩
                    case measure => simp [intOf]; omega
                · have hbk := Row.back (P := Try.prog) (hrow.congr (g := coreF s) (fun j hj => by simp [coreAt, show j < k by omega])) 24 9 5 m Try.underlying24 Try.underlying5 Try.underlying9
                  clear hrow
                  have hcore : lab (mkS m (coreF s)) = true := by rw [lab_mkS]; exact lab_core s m hm63
                  go_wp2_with (go_at_call 6; refine (lab_any _ _ (by rw [size_mkS]; unfold maxLen; omega)).mono ?_; rintro e w' ⟨rfl, rfl⟩)
                  go_ret
                  exact ⟨rfl, hbel⟩

set_option maxHeartbeats 400000 in
theorem ins_any (s : ByteArray) (i : Int) (c : UInt8) (hs : s.size ≤ maxLen) (w : World) :
    Calls Try.prog 4 #[.string s, .int .i64 i, .int .u8 (c.toNat : Int)] w fun e w' => e = .returned (.bool true) ∧ Below w.heap.size w w' := by
  by_cases hb : s.size ≤ 65536
  · have hM : s.size ≤ 1048576 := by omega
    by_cases hp : 0 < i ∧ i < (s.size : Int)
    · obtain ⟨n, rfl⟩ : ∃ n : Nat, i = (n : Int) := ⟨i.toNat, by omega⟩
      exact ins_main s n c w hb (by omega) (by omega)
    · by_cases h1 : i ≤ 0
      · go_enter Try.func4, Try.ntmps4
        go_wp2_with (go_at_call 8; refine (b8_any _ _ _ _ hs).mono ?_; rintro e w' ⟨rfl, rfl⟩)
        go_ret
        exact ⟨rfl, Below.refl _ _⟩
      · have h2 : (s.size : Int) ≤ i := by omega
        clear hp
        go_enter Try.func4, Try.ntmps4
        go_wp2_with (go_at_call 8; refine (b8_any _ _ _ _ hs).mono ?_; rintro e w' ⟨rfl, rfl⟩)
        go_ret
        exact ⟨rfl, Below.refl _ _⟩
  · by_cases hb2 : s.size ≤ 1048576
    all_goals
      go_enter Try.func4, Try.ntmps4
      go_wp2_with (go_at_call 8; refine (b8_any _ _ _ _ hs).mono ?_; rintro e w' ⟨rfl, rfl⟩)
      go_ret
      exact ⟨rfl, Below.refl _ _⟩
end Go.Proofs.Qxb6626456a
