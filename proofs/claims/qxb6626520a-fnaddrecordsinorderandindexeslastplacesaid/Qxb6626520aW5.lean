/-
  The walk of FnAddRecordsInOrderAndIndexesLastPlace.
-/
import Derived.Test.Qxb6626520aW4
namespace Go.Proofs.Qxb6626520a
open Go.RowKit Go.Maps Go.WideMaps

variable {K : Nat → ByteArray} {P : Nat → Bool} {V : Nat → Int} {w : World} {ao : Option Addr} {n cap b off : Nat}

/-- 'idx, ok := m[key]' where the key was added: its last place. -/
theorem look_found {wx : World} {M k j : Nat} (h : wx.ownsMap Try.prog 9 (plainElem (H := Unit) Try.prog 3) M n (Dm K n)) (hs : (K k).size ≤ maxLen) (hj : lastIdx K (K k) n = some j) :
    (Instr.lookup 38 (.map (some M)) (.string (K k)) true).run Try.prog wx = .ok (.tuple #[.int .i64 (j : Int), .bool true]) wx := by
  obtain ⟨u, ps, hrun, hv⟩ := h.look_ok law Try.underlying38 (zero3 wx) (plainElem_int (H := Unit) Try.underlying3 (a := 0) (by decide)) (kl := key (K k)) (keyOf_string_mk Try.underlying9 hs)
  obtain ⟨c, rfl, hc, _⟩ := plainElem_int_inv Try.underlying3 hv
  rw [Dm_has, hj] at hrun
  have e : (Dm K n).atKey (key (K k)) (.lit (.int .i64 0)) = .lit (.int .i64 c) := congrArg Prod.fst hc
  rw [Dm_at, hj] at e
  have e2 : (j : Int) = c := by injection e with e3; injection e3
  rw [← e2] at hrun
  exact hrun

theorem cnt_yes {k : Nat} (h : lastIdx K (K k) n = some k) : cnt K n (k + 1) = cnt K n k + 1 := by
  show cnt K n k + (if lastIdx K (K k) n = some k then 1 else 0) = _
  rw [if_pos h]
theorem cnt_no {k j : Nat} (h : lastIdx K (K k) n = some j) (hjk : ¬ j = k) : cnt K n (k + 1) = cnt K n k := by
  show cnt K n k + (if lastIdx K (K k) n = some k then 1 else 0) = _
  rw [if_neg (by rw [h]; intro e; exact hjk (Option.some.inj e)), Nat.add_zero]

set_option maxRecDepth 100000 in
set_option maxHeartbeats 4000000 in
theorem recs_any (h : Tooks K P V w ao n cap b off) :
    Calls Try.prog 3 #[.slice ao n cap] w fun e w' => Yes w e w' := by
  have H : Hid (Tooks K P V w ao n cap b off) := h
  clear h
  go_enter Try.func3, Try.ntmps3
  go_wp2_with fail
  refine (b5_any H.out).mono ?_
  rintro e w' ⟨rfl, hch⟩
  rcases hch with ⟨rfl, ⟨hn, hsz⟩⟩ | rfl
  · have HS : Hid (∀ j, j < n → (K j).size ≤ 1048576) := hsz
    clear hsz
    by_cases hm : n ≤ 65536
    · go_wp2_with fail
      go_loop [3, 4] (fun t i => ∃ k m : Nat, k ≤ n ∧ m ≤ 1048576 ∧ i = .int .i64 k ∧ t = .int .i64 m) (fun _ i => n - (intOf i).toNat)
      case atStart => exact ⟨0, 0, Nat.zero_le _, by omega, rfl, rfl⟩
      case round =>
        obtain ⟨k, m, hk, hmm, rfl, rfl⟩ := hrel
        by_cases hlt : k < n
        · have hi := H.out.at_ k hlt
          have hc := H.out.c0 k hlt
          have hs := HS.out k hlt
          by_cases h2 : m + (32 + (K k).size) ≤ 1048576
          · go_wp2
            go_round
            case rel => exact ⟨k + 1, m + (32 + (K k).size), by omega, h2, by go_num, by go_num⟩
            case measure => simp [intOf]; omega
          · go_wp2
            go_ret
            exact Yes.same
        · go_wp2_with fail
          refine (new_any K P V w).mono ?_
          rintro e w2 ⟨rfl, hI0⟩
          have HI0 : Hid (Inv K P V w w.heap.size 0 w2 (.slice none 0 0) (.map none)) := hI0
          clear hI0
          go_wp2_with fail
          go_loopw [7] (fun i wr => ∃ (k : Nat) (v mv : Value), k ≤ n ∧ i = .int .i64 k ∧ Inv K P V w w.heap.size k wr v mv) (fun i _ => n - (intOf i).toNat)
          case atStart => exact ⟨0, _, _, Nat.zero_le _, rfl, HI0.out⟩
          case round =>
            clear HI0
            obtain ⟨k3, v3, mv3, hk3, rfl, hI⟩ := hrel
            by_cases hlt3 : k3 < n
            · have hi := H.out.at_ k3 hlt3
              have Tk : Hid (∀ X, Below w.heap.size w X → X.cell? ⟨b, off + k3 * 3, none⟩ = some (.string (K k3)) ∧ X.cell? ⟨b, off + k3 * 3 + 1, none⟩ = some (.bool (P k3)) ∧ X.cell? ⟨b, off + k3 * 3 + 2, none⟩ = some (.int .u64 (V k3))) := fun X hX => H.out.cells hlt3 hX
              have HI : Hid (Inv K P V w w.heap.size k3 wr v3 mv3) := hI
              have HSZ : Hid (∀ j, j ≤ k3 → (K j).size ≤ maxLen) := fun j hj => H.out.sz j (by omega)
              clear hI
              go_wp2_with fail
              go_region_held3 (fun X => X.cell? ⟨b, off + k3 * 3, none⟩ = some (.string (K k3)) ∧ X.cell? ⟨b, off + k3 * 3 + 1, none⟩ = some (.bool (P k3)) ∧ X.cell? ⟨b, off + k3 * 3 + 2, none⟩ = some (.int .u64 (V k3))) (first | exact Tk.out _ HI.out.bel.drew | exact Tk.out _ (HI.out.alloc _).drew.bel | exact Tk.out _ (by assumption : Inv K P V w w.heap.size (k3 + 1) _ _ _).bel) (first | (go_at_call 8; refine (mk_any _ _ _ _).mono ?_; rintro e w' ⟨rfl, rfl⟩) | (go_at_call 7; refine (add7_any (by exact (HI.out.alloc _).drew) (by omega) HSZ.out).mono ?_; rintro e w' ⟨rfl, v', mv', hI'⟩))
              go_wp2
              go_roundw
              case rel => exact ⟨k3 + 1, _, _, by omega, by go_num, hI'⟩
              case measure => simp [intOf]; omega
            · obtain rfl : n = k3 := by omega
              obtain ⟨r, rfl⟩ := hI.map
              have HI : Hid (Inv K P V w w.heap.size n wr v3 (.map r)) := hI
              clear hI hk3 hlt3
              go_wp2_with (go_at_call 9; refine HI.out.lenC.mono ?_; rintro e w' ⟨rfl, rfl⟩)
              go_loopw [8] (fun i wr => ∃ q : Nat, q ≤ n ∧ i = .int .i64 q ∧ Inv K P V w w.heap.size n wr v3 (.map r)) (fun i _ => n - (intOf i).toNat)
              case atStart => exact ⟨0, Nat.zero_le _, rfl, HI.out⟩
              case round =>
                clear HI
                obtain ⟨q, hq, rfl, hI⟩ := hrel
                have HI : Hid (Inv K P V w w.heap.size n wr v3 (.map r)) := hI
                clear hI
                by_cases hlq : q < n
                · have hii := H.out.at_ q hlq
                  have Tk : Hid (∀ X, Below w.heap.size w X → X.cell? ⟨b, off + q * 3, none⟩ = some (.string (K q)) ∧ X.cell? ⟨b, off + q * 3 + 1, none⟩ = some (.bool (P q)) ∧ X.cell? ⟨b, off + q * 3 + 2, none⟩ = some (.int .u64 (V q))) := fun X hX => H.out.cells hlq hX
                  go_wp2_with fail
                  go_region_held3 (fun X => X.cell? ⟨b, off + q * 3, none⟩ = some (.string (K q)) ∧ X.cell? ⟨b, off + q * 3 + 1, none⟩ = some (.bool (P q)) ∧ X.cell? ⟨b, off + q * 3 + 2, none⟩ = some (.int .u64 (V q))) (exact Tk.out _ HI.out.bel.drew) (first | (go_at_call 10; refine (HI.out.drew.keyC q hlq).mono ?_; rintro e w' ⟨rfl, rfl⟩))
                  go_wp2_with fail
                  go_region_held3 (fun X => X.cell? ⟨b, off + q * 3, none⟩ = some (.string (K q)) ∧ X.cell? ⟨b, off + q * 3 + 1, none⟩ = some (.bool (P q)) ∧ X.cell? ⟨b, off + q * 3 + 2, none⟩ = some (.int .u64 (V q))) (exact Tk.out _ HI.out.bel.drew.drew) (first | (go_at_call 11; refine (HI.out.drew.drew.parC q hlq).mono ?_; rintro e w' ⟨rfl, rfl⟩))
                  go_wp2_with fail
                  go_region_held3 (fun X => X.cell? ⟨b, off + q * 3, none⟩ = some (.string (K q)) ∧ X.cell? ⟨b, off + q * 3 + 1, none⟩ = some (.bool (P q)) ∧ X.cell? ⟨b, off + q * 3 + 2, none⟩ = some (.int .u64 (V q))) (exact Tk.out _ HI.out.bel.drew.drew.drew) (first | (go_at_call 12; refine (HI.out.drew.drew.drew.verC q hlq).mono ?_; rintro e w' ⟨rfl, rfl⟩))
                  go_wp2_with (go_at_call 13; refine (HI.out.drew.drew.drew.entC q hlq).mono ?_; rintro e w' ⟨rfl, rfl⟩)
                  go_roundw
                  case rel => exact ⟨q + 1, by omega, by go_num, HI.out.drew.drew.drew⟩
                  case measure => simp [intOf]; omega
                · have hen : ∀ wx r, (binOp .eql 38 (.map r) (.map none)).run Try.prog wx = .ok (.bool r.isNone) wx := fun wx r => run_eql_map_nil wx 38 9 3 r Try.underlying38
                  rcases HI.out.idx with ⟨h8, hmn⟩ | ⟨h8, M, hmn, hOM, hmap⟩
                  · obtain rfl : r = none := by injection hmn
                    clear hmn
                    have hbel := HI.out.bel
                    go_wp2_with (go_at_call 14; refine HI.out.mapC.mono ?_; rintro e w' ⟨rfl, rfl⟩)
                    go_ret
                    exact ⟨rfl, hbel⟩
                  · obtain rfl : r = some M := by injection hmn
                    clear hmn hmap
                    go_wp2_with (go_at_call 14; refine HI.out.mapC.mono ?_; rintro e w' ⟨rfl, rfl⟩)
                    go_loopw [10, 11] (fun dn i wr => ∃ k4 : Nat, k4 ≤ n ∧ i = .int .i64 k4 ∧ dn = .int .i64 (cnt K n k4 : Int) ∧ Inv K P V w w.heap.size n wr v3 (.map (some M))) (fun _ i _ => n - (intOf i).toNat)
                    case atStart => exact ⟨0, Nat.zero_le _, rfl, rfl, HI.out⟩
                    case round =>
                      clear HI
                      obtain ⟨k4, hk4, rfl, rfl, hI⟩ := hrel
                      have HI : Hid (Inv K P V w w.heap.size n wr v3 (.map (some M))) := hI
                      have hmap : wr.ownsMap Try.prog 9 (plainElem (H := Unit) Try.prog 3) M n (Dm K n) := by
                        rcases hI.idx with ⟨h1, _⟩ | ⟨_, M', hM', _, h4⟩
                        · omega
                        · obtain rfl : M = M' := by injection hM' with h5; injection h5
                          exact h4
                      clear hI
                      have hcl := cnt_le K n k4
                      by_cases hl4 : k4 < n
                      · obtain ⟨j, hj, hkj, hjn, hKj⟩ := lastIdx_self (K := K) hl4
                        have hlk := look_found hmap (H.out.sz k4 hl4) hj
                        have hbb : ((K j).toList == (K k4).toList) = true := by rw [hKj]; simp
                        have HJ : Hid (lastIdx K (K k4) n = some j) := hj
                        clear hj hKj hmap
                        have hi4 := H.out.at_ k4 hl4
                        have hij := H.out.at_ j hjn
                        have hc4 := (H.out.cells hl4 HI.out.bel).1
                        have Tk : Hid (∀ X, Below w.heap.size w X → X.cell? ⟨b, off + k4 * 3, none⟩ = some (.string (K k4)) ∧ X.cell? ⟨b, off + j * 3, none⟩ = some (.string (K j))) := fun X hX => ⟨(H.out.cells hl4 hX).1, (H.out.cells hjn hX).1⟩
                        by_cases hjk : j = k4
                        · have t1 : ((j : Int) == (k4 : Int)) = true := by simp [hjk]
                          have HJK : Hid (j = k4) := hjk
                          clear hjk
                          go_wp2_with fail
                          go_region_held3 (fun X => X.cell? ⟨b, off + k4 * 3, none⟩ = some (.string (K k4)) ∧ X.cell? ⟨b, off + j * 3, none⟩ = some (.string (K j))) (exact Tk.out _ HI.out.bel.drew) (fail)
                          go_wp2
                          go_roundw
                          case rel => exact ⟨k4 + 1, by omega, by go_num, by rw [cnt_yes (HJ.out.trans (by rw [HJK.out]))]; go_num, HI.out.drew⟩
                          case measure => simp [intOf]; omega
                        · have t1 : ((j : Int) == (k4 : Int)) = false := by simp; omega
                          go_wp2_with fail
                          go_region_held3 (fun X => X.cell? ⟨b, off + k4 * 3, none⟩ = some (.string (K k4)) ∧ X.cell? ⟨b, off + j * 3, none⟩ = some (.string (K j))) (exact Tk.out _ HI.out.bel.drew) (fail)
                          go_wp2
                          go_roundw
                          case rel => exact ⟨k4 + 1, by omega, by go_num, by rw [cnt_no HJ.out hjk], HI.out.drew⟩
                          case measure => simp [intOf]; omega
                      · obtain rfl : n = k4 := by omega
                        have hbel := HI.out.bel
                        have hsize := Dm_size K n
                        go_wp2_with (at_len; refine wpList_len_own _ rfl _ 38 rfl 9 3 Try.underlying38 _ M n (Dm K n) rfl hmap ?_)
                        go_ret
                        exact ⟨rfl, hbel⟩
    · go_wp2_with fail
      go_ret
      exact Yes.same
  · go_wp2_with fail
    go_ret
    exact Yes.same
end Go.Proofs.Qxb6626520a
