/-
  The walk of (*outerReads).add.
-/
import Derived.Test.Qxb6626520aW1
import Derived.Deep.RegionLaw
import Derived.Deep.RegionHeld3
import Derived.Deep.DeepCutAuto
namespace Go.Proofs.Qxb6626520a
open Go.RowKit Go.Maps Go.WideMaps

theorem Try.info32 : (Try.prog.info? 32).map (fun i => (i.zero, i.size, i.bytes)) = some (some (.agg #[.string ByteArray.empty, .pointer none, .bool false, .int .u64 0]), 4, 40) := by kernel_rfl
theorem law : Keyed Try.prog 9 := string_keyed Try.underlying9
theorem make_hint (n : Int) (w : World) : (Instr.makeMap 38 (some (.int .i64 n))).run Try.prog w = .ok (.map (some w.heap.size)) (w.alloc (.map #[] 0)) := by kernel_rfl

variable {K : Nat → ByteArray} {P : Nat → Bool} {V : Nat → Int} {w0 : World} {O k : Nat} {w : World} {v mv : Value}

/-- Behind the append and the store into the field. -/
structure Grew (K : Nat → ByteArray) (P : Nat → Bool) (V : Nat → Int) (w0 : World) (O k : Nat) (w w3 : World) (v mv : Value) (g cap : Nat) : Prop where
  c0 : w3.cell? ⟨O, 0, none⟩ = some v
  f0 : w3.frozen? ⟨O, 0, none⟩ = false
  c1 : w3.cell? ⟨O, 1, none⟩ = some mv
  f1 : w3.frozen? ⟨O, 1, none⟩ = false
  b0 : w3.cell? ⟨w.heap.size, 0, none⟩ = some (.string (K k))
  row : w3.ownsRow (O + 1) 32 4 (.slice (some ⟨g, 0, none⟩) (k + 1) cap) (k + 1) (recs K P V (k + 1))
  idx : Idx K O k w3 mv
  bel : Below O w0 w3
  lt : O < w3.heap.size
  gO : O < g

theorem grew (h : Inv K P V w0 O k w v mv) {c1 c2 : Array Value} {t1 t2 : TypeId} (e1 : c1[0]? = some (.string (K k))) {w3 : World} {g cap : Nat}
    (hown : w3.ownsRow (O + 1) 32 4 (.slice (some ⟨g, 0, none⟩) (k + 1) cap) (k + 1) (recs K P V k ++ [.string (K k), .pointer none, .bool (P k), .int .u64 (V k)]))
    (hgrow : ((w.alloc (.cells c1 t1)).alloc (.cells c2 t2)).drew.grownBy w3 v.ownBlock) : Grew K P V w0 O k w w3 v mv g cap := by
  have hlt := h.lt
  have hvb : ∀ j, v.ownBlock = some j → O < j ∧ j < w.heap.size := fun j hj => by have := h.row.lt j hj; omega
  have hb : ∀ j, j < w.heap.size → some j ≠ v.ownBlock → w3.heap[j]? = w.heap[j]? := fun j hj hne => by
    rw [hgrow.block j (by show j < ((w.heap.push _).push _).size; simp; omega) hne]
    show ((w.heap.push _).push _)[j]? = _
    rw [Array.getElem?_push, if_neg (by simp; omega), Array.getElem?_push, if_neg (by omega)]
  have hO : w3.heap[O]? = w.heap[O]? := hb O hlt (fun e => by have := hvb O e.symm; omega)
  obtain ⟨g', cap', hv', hbg, hgl⟩ := hown.form (by omega)
  refine ⟨?_, ?_, ?_, ?_, ?_, hown, ?_, ?_, ?_, ?_⟩
  · rw [World.cell?_of_block (w := w) hO]; exact h.c0
  · rw [World.frozen?_of_block (w := w) hO]; exact h.f0
  · rw [World.cell?_of_block (w := w) hO]; exact h.c1
  · rw [World.frozen?_of_block (w := w) hO]; exact h.f1
  · have e : w3.heap[w.heap.size]? = some (.cells c1 t1) := by
      rw [hgrow.block _ (by show w.heap.size < ((w.heap.push _).push _).size; simp; omega) (fun e => by have := hvb _ e.symm; omega)]
      show ((w.heap.push _).push _)[w.heap.size]? = _
      rw [Array.getElem?_push, if_neg (by simp), Array.getElem?_push, if_pos rfl]
    rw [cell_of_row w3 _ 0 c1 t1 (0, 0) e]; exact e1
  · rcases h.idx with h1 | ⟨h1, M, h2, h3, h4⟩
    · exact .inl h1
    · refine .inr ⟨h1, M, h2, h3, ?_⟩
      refine ((h4.alloc (.cells c1 t1)).alloc (.cells c2 t2)).drew.kept hgrow (fun e => ?_)
      have hM := hvb M e.symm
      obtain ⟨es, cl, hm, _⟩ := h4
      rcases h.row.2 with ⟨rfl, _⟩ | ⟨g2, cap2, cur2, rfl, _, hg2, _⟩
      · simp [Value.ownBlock] at e
      · have : M = g2 := by simpa [Value.ownBlock] using e
        subst this
        rw [hm] at hg2; cases hg2
  · exact ((h.bel.alloc (Nat.le_of_lt hlt) _).alloc (by show O ≤ (w.heap.push _).size; simp; omega) _).drew.grown hgrow (by show O ≤ ((w.heap.push _).push _).size; simp; omega) (fun j hj => by have := hvb j hj; omega)
  · have := hgrow.size
    have e : ((w.alloc (.cells c1 t1)).alloc (.cells c2 t2)).drew.heap.size = w.heap.size + 2 := by show ((w.heap.push _).push _).size = _; simp
    rw [e] at this; omega
  · have : g = g' := by injection hv' with h1; injection h1 with h2; injection h2
    omega

/-- Behind 'o.reads = append(o.reads, took)': the reads are k + 1, the index is still that of k. -/
structure Half (K : Nat → ByteArray) (P : Nat → Bool) (V : Nat → Int) (w0 : World) (O k T : Nat) (w : World) (mv : Value) (g cap : Nat) : Prop where
  c0 : w.cell? ⟨O, 0, none⟩ = some (.slice (some ⟨g, 0, none⟩) (k + 1) cap)
  f0 : w.frozen? ⟨O, 0, none⟩ = false
  c1 : w.cell? ⟨O, 1, none⟩ = some mv
  f1 : w.frozen? ⟨O, 1, none⟩ = false
  b0 : w.cell? ⟨T, 0, none⟩ = some (.string (K k))
  row : w.ownsRow (O + 1) 32 4 (.slice (some ⟨g, 0, none⟩) (k + 1) cap) (k + 1) (recs K P V (k + 1))
  idx : Idx K O k w mv
  bel : Below O w0 w
  lt : O < w.heap.size
  gO : O < g

theorem Grew.store {w3 : World} {g cap : Nat} (h : Grew K P V w0 O k w w3 v mv g cap) (hO : O < w.heap.size) : Half K P V w0 O k w.heap.size (w3.setCell ⟨O, 0, none⟩ (.slice (some ⟨g, 0, none⟩) (k + 1) cap)) mv g cap := by
  refine ⟨World.cell?_setCell_same _ _ _ h.c0, ?_, ?_, ?_, ?_, ownsRow_setCell_below h.row (by show O < O + 1; omega) _, ?_, h.bel.setCell (Nat.le_refl _) _, by simpa [World.setCell] using h.lt, h.gO⟩
  · rw [World.frozen?_setCell]; exact h.f0
  · rw [World.cell?_setCell_other _ _ _ _ (by intro e; injection e with _ e2; omega)]; exact h.c1
  · rw [World.frozen?_setCell]; exact h.f1
  · rw [World.cell?_setCell_other _ _ _ _ (by intro e; injection e with e1; omega)]; exact h.b0
  · rcases h.idx with h1 | ⟨h1, M, h2, h3, h4⟩
    · exact .inl h1
    · exact .inr ⟨h1, M, h2, h3, h4.setCell (by show M ≠ O; omega) _⟩

/-- While the new index is filled: j keys are in it. -/
structure Mid (K : Nat → ByteArray) (P : Nat → Bool) (V : Nat → Int) (w0 : World) (O k j : Nat) (w : World) (M g cap : Nat) : Prop where
  c0 : w.cell? ⟨O, 0, none⟩ = some (.slice (some ⟨g, 0, none⟩) (k + 1) cap)
  f0 : w.frozen? ⟨O, 0, none⟩ = false
  c1 : w.cell? ⟨O, 1, none⟩ = some (.map (some M))
  f1 : w.frozen? ⟨O, 1, none⟩ = false
  row : w.ownsRow (O + 1) 32 4 (.slice (some ⟨g, 0, none⟩) (k + 1) cap) (k + 1) (recs K P V (k + 1))
  map : w.ownsMap Try.prog 9 (plainElem (H := Unit) Try.prog 3) M j (Dm K j)
  bel : Below O w0 w
  lt : O < w.heap.size
  oM : O < M

theorem Mid.done {j M g cap : Nat} (h : Mid K P V w0 O k j w M g cap) (hj : j = k + 1) (h8 : 8 < k + 1) : Inv K P V w0 O (k + 1) w (.slice (some ⟨g, 0, none⟩) (k + 1) cap) (.map (some M)) := by
  subst hj
  exact ⟨h.c0, h.f0, h.c1, h.f1, h.row, .inr ⟨h8, M, rfl, h.oM, h.map⟩, h.bel, h.lt⟩

theorem Half.mid {T g cap : Nat} (h : Half K P V w0 O k T w mv g cap) : Mid K P V w0 O k 0 ((w.setCell ⟨O, 1, none⟩ (.map (some w.heap.size))).alloc (.map #[] 0)) w.heap.size g cap := by
  have hs : (w.setCell ⟨O, 1, none⟩ (.map (some w.heap.size))).heap.size = w.heap.size := by simp [World.setCell]
  have hlt := h.lt
  have hO : O ≠ (w.setCell ⟨O, 1, none⟩ (.map (some w.heap.size))).heap.size := by rw [hs]; omega
  have hOl : O < (w.setCell ⟨O, 1, none⟩ (.map (some w.heap.size))).heap.size := by rw [hs]; omega
  refine ⟨?_, ?_, ?_, ?_, (ownsRow_setCell_below h.row (by show O < O + 1; omega) _).alloc _, ?_, (h.bel.setCell (Nat.le_refl _) _).alloc (by rw [hs]; omega) _, by show O < (Array.push _ _).size; simp; omega, hlt⟩
  · rw [World.cell?_alloc_past _ _ _ hOl, World.cell?_setCell_other _ _ _ _ (by intro e; injection e with _ e2; omega)]; exact h.c0
  · rw [World.frozen?_alloc_past _ _ _ hOl, World.frozen?_setCell]; exact h.f0
  · rw [World.cell?_alloc_past _ _ _ hOl]; exact World.cell?_setCell_same _ _ _ h.c1
  · rw [World.frozen?_alloc_past _ _ _ hOl, World.frozen?_setCell]; exact h.f1
  · have := World.ownsMap_made (w.setCell ⟨O, 1, none⟩ (.map (some w.heap.size))) Try.prog 9 (plainElem (H := Unit) Try.prog 3)
    rw [hs] at this
    exact this

/-- What a store into the map leaves as it was. -/
theorem row_not_map {e size : Nat} {v : Value} {n : Nat} {xs : List Value} {base M n2 : Nat} {D : DataW Unit} (hr : w.ownsRow base e size v n xs) (hm : w.ownsMap Try.prog 9 (plainElem (H := Unit) Try.prog 3) M n2 D) : v.ownBlock ≠ some M := by
  intro e1
  obtain ⟨es, cl, hb, _⟩ := hm
  rcases hr.2 with ⟨rfl, _⟩ | ⟨g2, cap2, cur2, rfl, _, hg2, _⟩
  · simp [Value.ownBlock] at e1
  · have : g2 = M := by simpa [Value.ownBlock] using e1
    subst this
    rw [hb] at hg2; cases hg2

theorem Mid.step {j M g cap : Nat} (h : Mid K P V w0 O k j w M g cap) {w5 : World} (hm : w5.ownsMap Try.prog 9 (plainElem (H := Unit) Try.prog 3) M (j + 1) ((Dm K j).put (key (K j)) (.lit (.int .i64 (j : Int))))) {o : Obj}
    (hg : (w.alloc o).drew.grownBy w5 (some M)) : Mid K P V w0 O k (j + 1) w5 M g cap := by
  have hlt := h.lt
  have hoM := h.oM
  have hO : w5.heap[O]? = w.heap[O]? := by
    rw [hg.block O (by show O < (w.heap.push _).size; simp; omega) (by simp; omega)]
    show (w.heap.push _)[O]? = _
    rw [Array.getElem?_push, if_neg (by omega)]
  have hsz : w.heap.size + 1 ≤ w5.heap.size := by have := hg.size; have e : (w.alloc o).drew.heap.size = w.heap.size + 1 := by show (w.heap.push _).size = _; simp
                                                  rw [e] at this; exact this
  refine ⟨?_, ?_, ?_, ?_, (h.row.alloc o).drew.kept hg (.inr (row_not_map h.row h.map)), hm, ((h.bel.alloc (Nat.le_of_lt hlt) _).drew).grown hg (by show O ≤ (w.heap.push _).size; simp; omega) (fun i hi => by cases hi; omega), by omega, hoM⟩
  · rw [World.cell?_of_block (w := w) hO]; exact h.c0
  · rw [World.frozen?_of_block (w := w) hO]; exact h.f0
  · rw [World.cell?_of_block (w := w) hO]; exact h.c1
  · rw [World.frozen?_of_block (w := w) hO]; exact h.f1

theorem Half.step {T M g cap : Nat} (h : Half K P V w0 O k T w (.map (some M)) g cap) (h8 : 8 < k) (hoM : O < M) (hmap : w.ownsMap Try.prog 9 (plainElem (H := Unit) Try.prog 3) M k (Dm K k)) {w5 : World}
    (hm : w5.ownsMap Try.prog 9 (plainElem (H := Unit) Try.prog 3) M (k + 1) ((Dm K k).put (key (K k)) (.lit (.int .i64 (k : Int)))))
    (hg : w.drew.grownBy w5 (some M)) : Inv K P V w0 O (k + 1) w5 (.slice (some ⟨g, 0, none⟩) (k + 1) cap) (.map (some M)) := by
  have hlt := h.lt
  have hO : w5.heap[O]? = w.heap[O]? := hg.block O hlt (by simp; omega)
  refine ⟨?_, ?_, ?_, ?_, h.row.drew.kept hg (.inr (row_not_map h.row hmap)), .inr ⟨by omega, M, rfl, hoM, hm⟩, h.bel.drew.grown hg (Nat.le_of_lt hlt) (fun i hi => by cases hi; omega), Nat.lt_of_lt_of_le hlt hg.size⟩
  · rw [World.cell?_of_block (w := w) hO]; exact h.c0
  · rw [World.frozen?_of_block (w := w) hO]; exact h.f0
  · rw [World.cell?_of_block (w := w) hO]; exact h.c1
  · rw [World.frozen?_of_block (w := w) hO]; exact h.f1

set_option maxRecDepth 100000 in
set_option maxHeartbeats 2000000 in
theorem add_any (h : Inv K P V w0 O k w v mv) (hk : k ≤ 65536) (hsz : ∀ j, j ≤ k → (K j).size ≤ maxLen) :
    Calls Try.prog 16 #[.pointer (some ⟨O, 0, none⟩), .agg #[.string (K k), .pointer none, .bool (P k), .int .u64 (V k)]] w fun e w' => e = .returned (.tuple #[]) ∧ ∃ v' mv', Inv K P V w0 O (k + 1) w' v' mv' := by
  obtain ⟨i0, hi, hz0, hz1, hz2⟩ := info_parts Try.info32
  have hc0 := h.c0
  have hf0 := h.f0
  have hlt := h.lt
  obtain ⟨z0, hz⟩ : ∃ z0 : Value, z0 = .agg #[.string ByteArray.empty, .pointer none, .bool false, .int .u64 0] := ⟨_, rfl⟩
  rw [← hz] at hz0
  have hzc : z0.cells.size = 4 := by rw [hz]; rfl
  clear hz
  have HOWN : Hid ((((w.alloc (.cells #[.string (K k), .pointer none, .bool (P k), .int .u64 (V k)] 32)).alloc (.cells #[.string (K k), .pointer none, .bool (P k), .int .u64 (V k)] 32)).drew).ownsRow (O + 1) 32 4 v k (recs K P V k)) := ((h.row.alloc _).alloc _).drew
  have HNEWS : Hid (∀ (j : Nat) (u : Value), ([.string (K k), .pointer none, .bool (P k), .int .u64 (V k)] : List Value)[j]? = some u → (((w.alloc (.cells #[.string (K k), .pointer none, .bool (P k), .int .u64 (V k)] 32)).alloc (.cells #[.string (K k), .pointer none, .bool (P k), .int .u64 (V k)] 32)).drew).cell? ((⟨w.heap.size + 1, 0, none⟩ : Addr).add j) = some u) := by
    refine World.news_of_block (cs := #[.string (K k), .pointer none, .bool (P k), .int .u64 (V k)]) (t := 32) (fr := (0, 0)) ?_
    show ((w.heap.push _).push _)[w.heap.size + 1]? = _
    rw [Array.getElem?_push, if_pos (by simp)]
  have HONE : Hid (∀ u ∈ ([.string (K k), .pointer none, .bool (P k), .int .u64 (V k)] : List Value), u.oneCell' = true) := by
    intro u hu
    simp at hu
    rcases hu with rfl | rfl | rfl | rfl <;> rfl
  have B1 : Hid (k + 1 ≤ maxLen) := by show k + 1 ≤ maxLen; unfold maxLen; omega
  have B2 : Hid ((k + 1) * 40 ≤ 140737488355328) := by show (k + 1) * 40 ≤ 140737488355328; omega
  have B3 : Hid (O + 1 ≤ ((w.alloc (.cells #[.string (K k), .pointer none, .bool (P k), .int .u64 (V k)] 32)).alloc (.cells #[.string (K k), .pointer none, .bool (P k), .int .u64 (V k)] 32)).drew.heap.size) := by
    show O + 1 ≤ ((w.heap.push _).push _).size
    simp; omega
  have HSZ : Hid (∀ j, j ≤ k → (K j).size ≤ maxLen) := hsz
  clear hsz
  go_enter Try.func16, Try.ntmps16
  go_wp2
  go_cut [13] (fun _ wx => ∃ g cap, Half K P V w0 O k w.heap.size wx mv g cap)
  case first =>
    go_region_law (refine step_append_lies _ rfl (.tmp 10) (.tmp 12) 43 rfl (O + 1) 32 i0 z0 4 40 Try.underlying43 hi hz0 hz1 hz2 hzc (by decide) v k (recs K P V k) rfl HOWN.out ⟨w.heap.size + 1, 0, none⟩ 1 1 [.string (K k), .pointer none, .bool (P k), .int .u64 (V k)] rfl rfl HNEWS.out HONE.out Nat.one_pos B1.out B2.out B3.out _ rfl ?_; intro g cap w3 hown3 hgrow3 hat3 hlt3; have G : Hid _ := grew h rfl hown3 hgrow3; have g0 := G.out.c0; have g1 := G.out.f0; clear hown3 hgrow3 hat3)
    all_goals
      go_wp2_with fail
      go_meet
      case rel => exact ⟨_, _, G.out.store hlt⟩
  case rest =>
    obtain ⟨g, cap, H⟩ := hcut
    clear HOWN HNEWS HONE B1 B2 B3 hc0 hf0 hi hz0 hz1 hz2 hzc
    have hlw := H.lt
    have x0 := H.c0
    have y0 := H.f0
    have x1 := H.c1
    have y1 := H.f1
    have xb := H.b0
    have hnn : ∀ wx r, (binOp .neq 38 (.map r) (.map none)).run Try.prog wx = .ok (.bool (!r.isNone)) wx := fun wx r => run_neq_map_nil wx 38 9 3 r Try.underlying38
    have HH : Hid (Half K P V w0 O k w.heap.size wc mv g cap) := H
    clear H
    rcases HH.out.idx with ⟨h8, rfl⟩ | ⟨h8, M, rfl, hOM, hmap⟩
    · by_cases h9 : k + 1 ≤ 8
      · go_wp2
        go_end0
        exact ⟨rfl, _, _, HH.out.c0, HH.out.f0, HH.out.c1, HH.out.f1, HH.out.row, .inl ⟨h9, rfl⟩, HH.out.bel, HH.out.lt⟩
      · have hmk := make_hint
        have HM : Hid (Mid K P V w0 O k 0 ((wc.setCell ⟨O, 1, none⟩ (.map (some wc.heap.size))).alloc (.map #[] 0)) wc.heap.size g cap) := HH.out.mid
        go_wp2
        obtain ⟨M, hM⟩ : ∃ M : Nat, M = wc.heap.size := ⟨_, rfl⟩
        rw [← hM] at HM
        have HMM : Hid (M = wc.heap.size) := hM
        clear hM
        go_loopw [55] (fun i wr => ∃ j : Nat, j ≤ k + 1 ∧ i = .int .i64 j ∧ Mid K P V w0 O k j wr M g cap) (fun i _ => k + 1 - (intOf i).toNat)
        case atStart => exact ⟨0, Nat.zero_le _, rfl, by rw [HMM.out]; rw [HMM.out] at HM; exact HM.out⟩
        case round =>
          obtain ⟨j, hj, rfl, hmid⟩ := hrel
          clear HM HMM hmk x0 y0 x1 y1 xb HH
          by_cases hlt2 : j < k + 1
          · have m0 := hmid.c0
            have m1 := hmid.c1
            have hlw2 := hmid.lt
            have hr : ∀ r, r < 4 → wr.cell? ⟨g, j * 4 + r, none⟩ = ([.string (K j), .pointer none, .bool (P j), .int .u64 (V j)] : List Value)[r]? := fun r hr => by
              rw [hmid.row.cellAt _ (by omega), recs_at K P V j r hr (k + 1) hlt2]
            have r0 : wr.cell? ⟨g, j * 4, none⟩ = some (.string (K j)) := hr 0 (by omega)
            have r1 : wr.cell? ⟨g, j * 4 + 1, none⟩ = some (.pointer none) := hr 1 (by omega)
            have r2 : wr.cell? ⟨g, j * 4 + 2, none⟩ = some (.bool (P j)) := hr 2 (by omega)
            have r3 : wr.cell? ⟨g, j * 4 + 3, none⟩ = some (.int .u64 (V j)) := hr 3 (by omega)
            clear hr
            obtain ⟨w5, hrun, hm5, hg5⟩ := (hmid.map.alloc (.cells #[.string (K j), .pointer none, .bool (P j), .int .u64 (V j)] 32)).drew.update law Try.underlying38 (by unfold maxLen; omega) (kl := key (K j)) (keyOf_string_mk Try.underlying9 (HSZ.out j (by omega))) (plainElem_int (H := Unit) Try.underlying3 (a := (j : Int)) (WalkArith.wf_i64 (by omega)))
            have HI : Hid (Mid K P V w0 O k (j + 1) w5 M g cap) := hmid.step hm5 hg5
            clear hm5 hg5
            have HD : Hid (Mid K P V w0 O k j wr M g cap) := hmid
            clear hmid
            go_wp2_with fail
            go_region
            go_wp2
            go_roundw
            case rel => exact ⟨j + 1, by omega, by go_num, HI.out⟩
            case measure => simp [intOf]; omega
          · go_wp2
            go_end0
            exact ⟨rfl, _, _, hmid.done (by omega) (by omega)⟩
    · obtain ⟨w5, hrun, hm5, hg5⟩ := hmap.drew.update law Try.underlying38 (by unfold maxLen; omega) (kl := key (K k)) (keyOf_string_mk Try.underlying9 (HSZ.out k (Nat.le_refl _))) (plainElem_int (H := Unit) Try.underlying3 (a := (k : Int)) (WalkArith.wf_i64 (by omega)))
      have HI : Hid (Inv K P V w0 O (k + 1) w5 (.slice (some ⟨g, 0, none⟩) (k + 1) cap) (.map (some M))) := HH.out.step h8 hOM hmap hm5 hg5
      clear hm5 hg5
      go_wp2_with fail
      go_region
      go_wp2
      go_end0
      exact ⟨rfl, _, _, HI.out⟩

theorem Inv.alloc (h : Inv K P V w0 O k w v mv) (o : Obj) : Inv K P V w0 O k (w.alloc o) v mv := by
  have hlt := h.lt
  refine ⟨?_, ?_, ?_, ?_, h.row.alloc _, ?_, h.bel.alloc (Nat.le_of_lt hlt) _, by show O < (w.heap.push _).size; simp; omega⟩
  · rw [World.cell?_alloc_past _ _ _ hlt]; exact h.c0
  · rw [World.frozen?_alloc_past _ _ _ hlt]; exact h.f0
  · rw [World.cell?_alloc_past _ _ _ hlt]; exact h.c1
  · rw [World.frozen?_alloc_past _ _ _ hlt]; exact h.f1
  · rcases h.idx with h1 | ⟨h1, M, h2, h3, h4⟩
    · exact .inl h1
    · exact .inr ⟨h1, M, h2, h3, h4.alloc _⟩

set_option maxRecDepth 100000 in
set_option maxHeartbeats 400000 in
theorem add7_any (h : Inv K P V w0 O k w v mv) (hk : k ≤ 65536) (hsz : ∀ j, j ≤ k → (K j).size ≤ maxLen) :
    Calls Try.prog 7 #[.pointer (some ⟨O, 0, none⟩), .agg #[.string (K k), .pointer none, .bool (P k), .int .u64 (V k)]] w fun e w' => e = .returned (.tuple #[]) ∧ ∃ v' mv', Inv K P V w0 O (k + 1) w' v' mv' := by
  have HI : Hid (Inv K P V w0 O k w v mv) := h
  have HSZ : Hid (∀ j, j ≤ k → (K j).size ≤ maxLen) := hsz
  clear h hsz
  go_enter Try.func7, Try.ntmps7
  go_wp2_with fail
  refine (add_any (HI.out.alloc _) hk HSZ.out).mono ?_
  rintro e w' ⟨rfl, hI⟩
  go_wp2
  go_end0
  exact ⟨rfl, hI⟩
end Go.Proofs.Qxb6626520a
