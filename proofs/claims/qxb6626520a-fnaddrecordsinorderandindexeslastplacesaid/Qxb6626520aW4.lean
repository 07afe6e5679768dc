/-
  The walk of FnAddLookupFindsLastRecord.
-/
import Derived.Test.Qxb6626520aW3
import Derived.Deep.CutBlock
import Derived.Deep.DeepCutAuto
import Derived.Maps.OwnOps
import Derived.Deep.QuietTactic
import Derived.BigQuiet
namespace Go.Proofs.Qxb6626520a
open Go.RowKit Go.Maps Go.WideMaps

variable {K : Nat → ByteArray} {P : Nat → Bool} {V : Nat → Int} {S : Nat → ByteArray} {w : World} {ao a1 : Option Addr} {n cap b off n1 cap1 b1 off1 : Nat}

/-- The answer that the law gives: true; what lay in memory is as it was. -/
def Yes (w : World) (e : Ending) (w' : World) : Prop := e = .returned (.bool true) ∧ Below w.heap.size w w'
theorem Yes.same {w : World} : Yes w (.returned (.bool true)) w := ⟨rfl, Below.refl _ _⟩

theorem Tooks.cells (h : Tooks K P V w ao n cap b off) {k : Nat} (hk : k < n) {X : World} (hX : Below w.heap.size w X) :
    X.cell? ⟨b, off + k * 3, none⟩ = some (.string (K k)) ∧ X.cell? ⟨b, off + k * 3 + 1, none⟩ = some (.bool (P k)) ∧ X.cell? ⟨b, off + k * 3 + 2, none⟩ = some (.int .u64 (V k)) := by
  have hb := h.lt (by omega)
  exact ⟨(hX.cell (p := ⟨b, off + k * 3, none⟩) hb).trans (h.c0 k hk), (hX.cell (p := ⟨b, off + k * 3 + 1, none⟩) hb).trans (h.c1 k hk), (hX.cell (p := ⟨b, off + k * 3 + 2, none⟩) hb).trans (h.c2 k hk)⟩
theorem Strs.cell (h : Strs S w a1 n1 cap1 b1 off1) {k : Nat} (hk : k < n1) {X : World} (hX : Below w.heap.size w X) : X.cell? ⟨b1, off1 + k, none⟩ = some (.string (S k)) :=
  (hX.cell (p := ⟨b1, off1 + k, none⟩) (h.lt (by omega))).trans (h.c0 k hk)

/-- The last place of s among the first n keys; -1 where there is none. -/
def lastI (K : Nat → ByteArray) (s : ByteArray) (n : Nat) : Int :=
  match lastIdx K s n with
  | some i => (i : Int)
  | none => -1
theorem lastI_found {s : ByteArray} {i : Nat} (h1 : i < n) (h2 : K i = s) (h3 : ∀ x, i < x → x < n → K x ≠ s) : lastI K s n = (i : Int) := by
  unfold lastI; rw [lastIdx_of h1 h2 h3]
theorem lastI_none {s : ByteArray} (h : ∀ x, x < n → K x ≠ s) : lastI K s n = -1 := by
  unfold lastI; rw [lastIdx_is_none h]
theorem at_found {D : DataW Unit} {s : ByteArray} {c : Int} {i : Nat} (h1 : D.atKey (key s) (.lit (.int .i64 0)) = .lit (.int .i64 c)) (h2 : D.atKey (key s) (.lit (.int .i64 0)) = .lit (.int .i64 (((lastIdx K s n).getD 0 : Nat) : Int))) (h3 : lastIdx K s n = some i) : Value.int .i64 c = .int .i64 (lastI K s n) := by
  rw [h1] at h2
  have e : c = (((lastIdx K s n).getD 0 : Nat) : Int) := by injection h2 with h4; injection h4
  unfold lastI
  rw [e, h3]
  rfl
theorem zero3 (w : World) : (zeroValue 3).run Try.prog w = .ok (.int .i64 0) w := by kernel_rfl
theorem beq_str (a b : ByteArray) : (a.toList == b.toList) = decide (a = b) := by
  rw [Bool.eq_iff_iff]
  simp only [beq_iff_eq, decide_eq_true_eq, ByteArray.toList_eq]
  constructor
  · intro h
    apply ByteArray.ext
    exact Array.toList_inj.1 h
  · intro h; rw [h]
theorem beq_str_ne {a b : ByteArray} (h : ¬ a = b) : (a.toList == b.toList) = false := by rw [beq_str, decide_eq_false h]

set_option maxRecDepth 100000 in
set_option maxHeartbeats 4000000 in
theorem look_any (h : Tooks K P V w ao n cap b off) (h1 : Strs S w a1 n1 cap1 b1 off1) :
    Calls Try.prog 4 #[.slice ao n cap, .slice a1 n1 cap1] w fun e w' => Yes w e w' := by
  have H : Hid (Tooks K P V w ao n cap b off) := h
  have H1 : Hid (Strs S w a1 n1 cap1 b1 off1) := h1
  clear h h1
  go_enter Try.func4, Try.ntmps4
  go_wp2_with fail
  refine (b15_any H.out H1.out).mono ?_
  rintro e w' ⟨rfl, hch⟩
  rcases hch with ⟨rfl, ⟨hn, hsz⟩, ⟨hn1, hsz1⟩⟩ | rfl
  · have HS : Hid (∀ j, j < n → (K j).size ≤ 1048576) := hsz
    have HS1 : Hid (∀ j, j < n1 → (S j).size ≤ 1048576) := hsz1
    clear hsz hsz1
    by_cases hm : n ≤ 65536
    · by_cases hm1 : n1 ≤ 65536
      · go_wp2_with fail
        go_loop [5, 6] (fun t i => ∃ k m : Nat, k ≤ n ∧ m ≤ 1048576 ∧ i = .int .i64 k ∧ t = .int .i64 m) (fun _ i => n - (intOf i).toNat)
        case atStart => exact ⟨0, 0, Nat.zero_le _, by omega, rfl, rfl⟩
        case round =>
          obtain ⟨k, m, hk, hmm, rfl, rfl⟩ := hrel
          by_cases hlt : k < n
          · have hi := H.out.at_ k hlt
            have hc := H.out.c0 k hlt
            have hs := HS.out k hlt
            by_cases h2 : m + (32 + (K k).size) ≤ 1048576
            · go_wp2
              go_round
              case rel => exact ⟨k + 1, m + (32 + (K k).size), by omega, h2, by go_num, by go_num⟩
              case measure => simp [intOf]; omega
            · go_wp2
              go_ret
              exact Yes.same
          · go_wp2_with fail
            go_loop [5, 7] (fun t i => ∃ k m : Nat, k ≤ n1 ∧ m ≤ 1048576 ∧ i = .int .i64 k ∧ t = .int .i64 m) (fun _ i => n1 - (intOf i).toNat)
            case atStart => exact ⟨0, m, Nat.zero_le _, hmm, rfl, rfl⟩
            case round =>
              obtain ⟨k2, m2, hk2, hmm2, rfl, rfl⟩ := hrel
              by_cases hlt2 : k2 < n1
              · have hi := H1.out.at_ k2 hlt2
                have hc := H1.out.c0 k2 hlt2
                have hs := HS1.out k2 hlt2
                by_cases h2 : m2 + (16 + (S k2).size) ≤ 1048576
                · go_wp2
                  go_round
                  case rel => exact ⟨k2 + 1, m2 + (16 + (S k2).size), by omega, h2, by go_num, by go_num⟩
                  case measure => simp [intOf]; omega
                · go_wp2
                  go_ret
                  exact Yes.same
              · go_wp2_with fail
                refine (new_any K P V w).mono ?_
                rintro e w2 ⟨rfl, hI0⟩
                have HI0 : Hid (Inv K P V w w.heap.size 0 w2 (.slice none 0 0) (.map none)) := hI0
                clear hI0
                go_wp2_with fail
                go_loopw [10] (fun i wr => ∃ (k : Nat) (v mv : Value), k ≤ n ∧ i = .int .i64 k ∧ Inv K P V w w.heap.size k wr v mv) (fun i _ => n - (intOf i).toNat)
                case atStart => exact ⟨0, _, _, Nat.zero_le _, rfl, HI0.out⟩
                case round =>
                  clear HI0
                  obtain ⟨k3, v3, mv3, hk3, rfl, hI⟩ := hrel
                  by_cases hlt3 : k3 < n
                  · have hi := H.out.at_ k3 hlt3
                    have Tk : Hid (∀ X, Below w.heap.size w X → X.cell? ⟨b, off + k3 * 3, none⟩ = some (.string (K k3)) ∧ X.cell? ⟨b, off + k3 * 3 + 1, none⟩ = some (.bool (P k3)) ∧ X.cell? ⟨b, off + k3 * 3 + 2, none⟩ = some (.int .u64 (V k3))) := fun X hX => H.out.cells hlt3 hX
                    have HI : Hid (Inv K P V w w.heap.size k3 wr v3 mv3) := hI
                    have HSZ : Hid (∀ j, j ≤ k3 → (K j).size ≤ maxLen) := fun j hj => H.out.sz j (by omega)
                    clear hI
                    go_wp2_with fail
                    go_region_held3 (fun X => X.cell? ⟨b, off + k3 * 3, none⟩ = some (.string (K k3)) ∧ X.cell? ⟨b, off + k3 * 3 + 1, none⟩ = some (.bool (P k3)) ∧ X.cell? ⟨b, off + k3 * 3 + 2, none⟩ = some (.int .u64 (V k3))) (first | exact Tk.out _ HI.out.bel.drew | exact Tk.out _ (HI.out.alloc _).drew.bel | exact Tk.out _ (by assumption : Inv K P V w w.heap.size (k3 + 1) _ _ _).bel) (first | (go_at_call 8; refine (mk_any _ _ _ _).mono ?_; rintro e w' ⟨rfl, rfl⟩) | (go_at_call 7; refine (add7_any (by exact (HI.out.alloc _).drew) (by omega) HSZ.out).mono ?_; rintro e w' ⟨rfl, v', mv', hI'⟩))
                    go_wp2
                    go_roundw
                    case rel => exact ⟨k3 + 1, _, _, by omega, by go_num, hI'⟩
                    case measure => simp [intOf]; omega
                  · obtain rfl : n = k3 := by omega
                    obtain ⟨r, rfl⟩ := hI.map
                    have HI : Hid (Inv K P V w w.heap.size n wr v3 (.map r)) := hI
                    clear hI hk3 hlt3
                    go_wp2_with (first | (go_at_call 14; refine HI.out.mapC.mono ?_; rintro e w' ⟨rfl, rfl⟩) | (go_at_call 9; refine HI.out.lenC.mono ?_; rintro e w' ⟨rfl, rfl⟩))
                    go_loopw [13] (fun i wr => ∃ q : Nat, q ≤ n1 ∧ i = .int .i64 q ∧ Inv K P V w w.heap.size n wr v3 (.map r)) (fun i _ => n1 - (intOf i).toNat)
                    case atStart => exact ⟨0, Nat.zero_le _, rfl, HI.out⟩
                    case round =>
                      clear HI
                      obtain ⟨q, hq, rfl, hI⟩ := hrel
                      by_cases hlq : q < n1
                      · have hi := H1.out.at_ q hlq
                        have hc := H1.out.cell hlq hI.bel
                        have HI : Hid (Inv K P V w w.heap.size n wr v3 (.map r)) := hI
                        clear hI
                        have hlen : (S q).size ≤ maxLen := H1.out.sz q hlq
                        have HLen : Hid ((S q).size ≤ maxLen) := hlen
                        clear hlen
                        generalize S q = sq at hc HLen
                        go_upto_block 8 with fail
                        go_cut [15, 16] (fun wn _ wx => wn = .int .i64 (lastI K sq n) ∧ wr = wx)
                        case first =>
                          go_wp2_with fail
                          go_loop [15, 16] (fun wn j => wn = .int .i64 (-1) ∧ ((∃ i : Nat, i < n ∧ j = .int .i64 i ∧ Hid (∀ x, i < x → x < n → K x ≠ sq)) ∨ (j = .int .i64 (-1) ∧ Hid (∀ x, x < n → K x ≠ sq)))) (fun _ j => (intOf j + 1).toNat)
                          case atStart =>
                            refine ⟨rfl, ?_⟩
                            by_cases hn0 : n = 0
                            · exact .inr ⟨by go_num, fun x hx => by omega⟩
                            · exact .inl ⟨n - 1, by omega, by go_num, fun x h1 h2 => by omega⟩
                          case round =>
                            obtain ⟨rfl, hrel⟩ := hrel
                            rcases hrel with ⟨i, hin, rfl, hab⟩ | ⟨rfl, hab⟩
                            · have hii := H.out.at_ i hin
                              have hci := (H.out.cells hin HI.out.bel).1
                              by_cases hKi : K i = sq
                              · have HKi : Hid (K i = sq) := hKi
                                have hbb : ((K i).toList == sq.toList) = true := by rw [hKi]; simp
                                clear hKi
                                go_wp2
                                go_meet
                                case rel => exact ⟨by rw [lastI_found hin HKi.out hab.out], rfl⟩
                              · have hbb : ((K i).toList == sq.toList) = false := beq_str_ne hKi
                                have HKi : Hid (¬ K i = sq) := hKi
                                clear hKi
                                go_wp2
                                go_round
                                case rel =>
                                  refine ⟨rfl, ?_⟩
                                  have hab2 : ∀ x, i ≤ x → x < n → K x ≠ sq := fun x h1 h2 => by
                                    by_cases e : x = i
                                    · rw [e]; exact HKi.out
                                    · exact hab.out x (by omega) h2
                                  by_cases hi0 : i = 0
                                  · exact .inr ⟨by go_num, fun x hx => hab2 x (by omega) hx⟩
                                  · exact .inl ⟨i - 1, by omega, by go_num, fun x h1 h2 => hab2 x (by omega) h2⟩
                                case measure => first | (simp [intOf]; done) | (simp [intOf]; omega)
                            · go_wp2
                              go_meet
                              case rel => exact ⟨by rw [lastI_none hab.out], rfl⟩
                        case rest =>
                          obtain ⟨rfl, rfl⟩ := hcut
                          have hnn : ∀ wx r, (binOp .neq 38 (.map r) (.map none)).run Try.prog wx = .ok (.bool (!r.isNone)) wx := fun wx r => run_neq_map_nil wx 38 9 3 r Try.underlying38
                          go_upto_if 119 with fail
                          go_cut [17, 18, 19, 20] (fun gt _ _ _ wx => gt = .int .i64 (lastI K sq n) ∧ Inv K P V w w.heap.size n wx v3 (.map r))
                          case first =>
                            clear hnn
                            have hix := HI.out.idx
                            rcases hix with ⟨h8, hmn⟩ | ⟨h8, M, hmn, hOM, hmap⟩
                            · obtain rfl : r = none := by injection hmn
                              clear hmn
                              go_wp2_with fail
                              go_loopw [17, 20] (fun gt j wx => gt = .int .i64 (-1) ∧ Inv K P V w w.heap.size n wx v3 (.map none) ∧ ((∃ i : Nat, i < n ∧ j = .int .i64 i ∧ Hid (∀ x, i < x → x < n → K x ≠ sq)) ∨ (j = .int .i64 (-1) ∧ Hid (∀ x, x < n → K x ≠ sq)))) (fun _ j _ => (intOf j + 1).toNat)
                              case atStart =>
                                refine ⟨rfl, HI.out, ?_⟩
                                by_cases hn0 : n = 0
                                · exact .inr ⟨by go_num, fun x hx => by omega⟩
                                · exact .inl ⟨n - 1, by omega, by go_num, fun x h1 h2 => by omega⟩
                              case round =>
                                clear HI
                                obtain ⟨rfl, hI6, hrel⟩ := hrel
                                have HI : Hid (Inv K P V w w.heap.size n wr v3 (.map none)) := hI6
                                clear hI6
                                rcases hrel with ⟨i, hin, rfl, hab⟩ | ⟨rfl, hab⟩
                                · by_cases hKi : K i = sq
                                  · have HKi : Hid (K i = sq) := hKi
                                    have hbb : ((K i).toList == sq.toList) = true := by rw [hKi]; simp
                                    clear hKi
                                    go_wp2_with (go_at_call 10; refine (HI.out.keyC i hin).mono ?_; rintro e w' ⟨rfl, rfl⟩)
                                    go_meet
                                    case rel => exact ⟨by rw [lastI_found hin HKi.out hab.out], HI.out⟩
                                  · have hbb : ((K i).toList == sq.toList) = false := beq_str_ne hKi
                                    have HKi : Hid (¬ K i = sq) := hKi
                                    clear hKi
                                    go_wp2_with (go_at_call 10; refine (HI.out.keyC i hin).mono ?_; rintro e w' ⟨rfl, rfl⟩)
                                    go_roundw
                                    case rel =>
                                      (repeat apply Exists.intro)
                                      refine ⟨⟨rfl, HI.out, ?_⟩, rfl⟩
                                      have hab2 : ∀ x, i ≤ x → x < n → K x ≠ sq := fun x h1 h2 => by
                                        by_cases e : x = i
                                        · rw [e]; exact HKi.out
                                        · exact hab.out x (by omega) h2
                                      by_cases hi0 : i = 0
                                      · exact .inr ⟨by go_num, fun x hx => hab2 x (by omega) hx⟩
                                      · exact .inl ⟨i - 1, by omega, by go_num, fun x h1 h2 => hab2 x (by omega) h2⟩
                                    case measure => first | (simp [intOf]; done) | (simp [intOf]; omega)
                                · go_wp2
                                  go_meet
                                  case rel => exact ⟨by rw [lastI_none hab.out], HI.out⟩
                            · obtain rfl : r = some M := by injection hmn
                              clear hmn
                              have HMap : Hid (wr.ownsMap Try.prog 9 (plainElem (H := Unit) Try.prog 3) M n (Dm K n)) := hmap
                              clear hmap
                              have hhas := Dm_has K sq n
                              have Hat : Hid ((Dm K n).atKey (key sq) (.lit (.int .i64 0)) = .lit (.int .i64 (((lastIdx K sq n).getD 0 : Nat) : Int))) := Dm_at K sq n
                              cases hL : lastIdx K sq n with
                              | none =>
                                have HL : Hid (lastIdx K sq n = none) := hL
                                rw [hL] at hhas
                                clear hL
                                have hhas' : Maps.has (Dm K n) (key sq) = false := hhas
                                clear hhas
                                go_wp2_with (at_lookup; refine wpList_lookup_own_ok_int _ rfl _ _ 38 rfl 9 3 .i64 law Try.underlying38 Try.underlying3 (zero3 _) M n (Dm K n) rfl HMap.out _ (key sq) rfl (keyOf_string_mk Try.underlying9 HLen.out) ?_; intro c hat hwc; clear hat hwc)
                                go_meet
                                case rel => exact ⟨by unfold lastI; rw [HL.out], HI.out⟩
                              | some i =>
                                have HL : Hid (lastIdx K sq n = some i) := hL
                                rw [hL] at hhas
                                clear hL
                                have hhas' : Maps.has (Dm K n) (key sq) = true := hhas
                                clear hhas
                                go_wp2_with (at_lookup; refine wpList_lookup_own_ok_int _ rfl _ _ 38 rfl 9 3 .i64 law Try.underlying38 Try.underlying3 (zero3 _) M n (Dm K n) rfl HMap.out _ (key sq) rfl (keyOf_string_mk Try.underlying9 HLen.out) ?_; intro c hat hwc; have HC : Hid _ := hat; clear hat hwc)
                                go_meet
                                case rel => exact ⟨at_found HC.out Hat.out HL.out, HI.out⟩
                          case rest =>
                            clear HI
                            obtain ⟨rfl, hI7⟩ := hcut
                            have HI : Hid (Inv K P V w w.heap.size n wc v3 (.map r)) := hI7
                            clear hnn hI7
                            cases hL : lastIdx K sq n with
                            | none =>
                              have hLI : lastI K sq n = -1 := by unfold lastI; rw [hL]
                              rw [hLI]
                              clear hL hLI
                              go_wp2
                              go_roundw
                              case rel => exact ⟨q + 1, by omega, by go_num, HI.out⟩
                              case measure => simp [intOf]; omega
                            | some i =>
                              have hLI : lastI K sq n = (i : Int) := by unfold lastI; rw [hL]
                              rw [hLI]
                              obtain ⟨hin, hKi, _⟩ := lastIdx_some hL
                              have hbb : ((K i).toList == sq.toList) = true := by rw [hKi]; simp
                              clear hL hLI hKi
                              have hii := H.out.at_ i hin
                              have Tk : Hid (∀ X, Below w.heap.size w X → X.cell? ⟨b, off + i * 3 + 1, none⟩ = some (.bool (P i)) ∧ X.cell? ⟨b, off + i * 3 + 2, none⟩ = some (.int .u64 (V i))) := fun X hX => (H.out.cells hin hX).2
                              go_wp2_with (go_at_call 10; refine (HI.out.keyC i hin).mono ?_; rintro e w' ⟨rfl, rfl⟩)
                              go_region_held3 (fun X => X.cell? ⟨b, off + i * 3 + 1, none⟩ = some (.bool (P i)) ∧ X.cell? ⟨b, off + i * 3 + 2, none⟩ = some (.int .u64 (V i))) (exact Tk.out _ HI.out.bel.drew) (first | (go_at_call 11; refine (HI.out.drew.parC i hin).mono ?_; rintro e w' ⟨rfl, rfl⟩))
                              go_wp2_with fail
                              go_region_held3 (fun X => X.cell? ⟨b, off + i * 3 + 1, none⟩ = some (.bool (P i)) ∧ X.cell? ⟨b, off + i * 3 + 2, none⟩ = some (.int .u64 (V i))) (exact Tk.out _ HI.out.bel.drew.drew) (first | (go_at_call 12; refine (HI.out.drew.drew.verC i hin).mono ?_; rintro e w' ⟨rfl, rfl⟩))
                              go_wp2
                              go_roundw
                              case rel => exact ⟨q + 1, by omega, by go_num, HI.out.drew.drew⟩
                              case measure => simp [intOf]; omega
                      · have hbel := hI.bel
                        clear hI
                        go_wp2
                        go_ret
                        exact ⟨rfl, hbel⟩
      · go_wp2_with fail
        go_ret
        exact Yes.same
    · go_wp2_with fail
      go_ret
      exact Yes.same
  · go_wp2_with fail
    go_ret
    exact Yes.same
end Go.Proofs.Qxb6626520a
