/-
  The arguments, opened: a slice of Tooks, a slice of strings.
-/
import Derived.Test.Qxb6626520aW3
import Derived.Deep.Strs
import Derived.OpenShut
namespace Go.Proofs.Qxb6626520a
open Go.RowKit Go.Deep Go.ChangeShapes Go.WideShapes

theorem Try.cells26 : Try.prog.cellsOf 26 = 3 := by kernel_rfl
theorem Try.cells9 : Try.prog.cellsOf 9 = 1 := by kernel_rfl

section
variable {H : Type} {enc : TypeId × Value → H} {w : World} {base : Nat} {spare : Nat → Bool} {held : Bool}

theorem open_took {nf : Nat} {cs : List Value} {x : DataW H × List MemPlace} (hlen : cs.length = 3) (h : DataW.trod enc Try.prog w base spare held nf 26 cs = some x) :
    ∃ q : ByteArray × Bool × Int, cs = [.string q.1, .bool q.2.1, .int .u64 q.2.2] ∧ q.1.size ≤ maxLen := by
  obtain ⟨y0, y1, y2, m, _, _, g0, g1, g2⟩ := trod_struct3 Try.underlying26 h
  match cs, hlen with
  | [v0, v1, v2], _ =>
    have c0 : Try.prog.cellsOf 9 = 1 := by kernel_rfl
    have c1 : Try.prog.cellsOf 4 = 1 := by kernel_rfl
    have c2 : Try.prog.cellsOf 24 = 1 := by kernel_rfl
    simp [c0] at g0
    simp [c1] at g1
    simp [c2] at g2
    obtain ⟨s, e0, _, hs⟩ := DataW.trod_string Try.underlying9 g0
    obtain ⟨p, e1, _⟩ := DataW.trod_bool Try.underlying4 g1
    obtain ⟨x, e2, _, _⟩ := DataW.trod_int Try.underlying24 g2
    simp at e0 e1 e2
    subst e0 e1 e2
    exact ⟨(s, p, x), rfl, hs⟩

theorem at22 (b off n cap k : Nat) (hk : k < n) (wx : World) : (Instr.indexAt 22 (.slice (some ⟨b, off, none⟩) n cap) (.int .i64 (k : Int))).run Try.prog wx = .ok (.pointer (some ⟨b, off + k * 3, none⟩)) wx := by
  rw [run_indexAt_slice wx 22 _ _ _ _ _ Try.underlying22, if_pos (by omega)]
  have e : (sizeOf (Try.prog.elem 22)).run Try.prog wx = .ok 3 wx := by kernel_rfl
  rw [e]
  simp [Result.andThen, Addr.add_lit]
theorem at41 (b off n cap k : Nat) (hk : k < n) (wx : World) : (Instr.indexAt 41 (.slice (some ⟨b, off, none⟩) n cap) (.int .i64 (k : Int))).run Try.prog wx = .ok (.pointer (some ⟨b, off + k, none⟩)) wx := by
  rw [run_indexAt_slice wx 41 _ _ _ _ _ Try.underlying41, if_pos (by omega)]
  have e : (sizeOf (Try.prog.elem 41)).run Try.prog wx = .ok 1 wx := by kernel_rfl
  rw [e]
  simp [Result.andThen, Addr.add_lit]

theorem tooks_of {fuel : Nat} {a0 : Option Addr} {len cap : Nat} {x : DataW H × List MemPlace} (h : DataW.trod enc Try.prog w base spare held fuel 22 [.slice a0 len cap] = some x) :
    ∃ K P V b off, Tooks K P V w a0 len cap b off := by
  rcases open_slice Try.underlying22 h with ⟨hcs, _⟩ | ⟨a, l, c, m, nn, D, Pl, hcs, _, hl, hm, hmm, _, hel⟩
  · simp at hcs
    obtain ⟨rfl, rfl, rfl⟩ := hcs
    exact ⟨fun _ => ByteArray.empty, fun _ => false, fun _ => 0, 0, 0, fun k hk => absurd hk (by omega), fun k hk => absurd hk (by omega), fun k hk => absurd hk (by omega), fun k hk => absurd hk (by omega), fun k hk => absurd hk (by omega), fun hk => absurd hk (by omega)⟩
  · simp at hcs
    obtain ⟨rfl, rfl, rfl⟩ := hcs
    have hlm : len ≤ m := by rw [hmm]; split <;> omega
    have each : ∀ i, i < len → ∃ q : ByteArray × Bool × Int, (w.cell? (a.add (i * 3)) = some (.string q.1) ∧ w.cell? (a.add (i * 3 + 1)) = some (.bool q.2.1) ∧ w.cell? (a.add (i * 3 + 2)) = some (.int .u64 q.2.2)) ∧ q.1.size ≤ maxLen := by
      intro i hi
      obtain ⟨cs', h1, h2⟩ := hel i (by omega)
      rw [Try.cells26] at h1
      obtain ⟨_, hlen, hcell⟩ := World.cells?_some h1
      obtain ⟨q, rfl, hq⟩ := open_took hlen h2
      have e0 := hcell 0 (by omega)
      have e1 := hcell 1 (by omega)
      have e2 := hcell 2 (by omega)
      rw [add_add] at e0 e1 e2
      exact ⟨q, ⟨by simpa using e0, by simpa using e1, by simpa using e2⟩, hq⟩
    obtain ⟨f, hf⟩ := choose_lt each
    obtain ⟨b, off, spot⟩ := a
    by_cases h0 : len = 0
    · subst h0
      exact ⟨fun _ => ByteArray.empty, fun _ => false, fun _ => 0, 0, 0, fun k hk => absurd hk (by omega), fun k hk => absurd hk (by omega), fun k hk => absurd hk (by omega), fun k hk => absurd hk (by omega), fun k hk => absurd hk (by omega), fun hk => absurd hk (by omega)⟩
    · have hspot : spot = none := by simpa [Addr.add] using World.cell?_spot (hf 0 (by omega)).1.1
      subst hspot
      simp only [Addr.add_lit] at hf
      exact ⟨fun i => (f i).1, fun i => (f i).2.1, fun i => (f i).2.2, b, off, fun k hk wx => at22 b off len cap k hk wx, fun k hk => (hf k hk).1.1, fun k hk => (hf k hk).1.2.1, fun k hk => (hf k hk).1.2.2, fun k hk => (hf k hk).2,
        fun _ => World.block_lt_of_cell? w _ (hf 0 (by omega)).1.1⟩

theorem strs_of {fuel : Nat} {a0 : Option Addr} {len cap : Nat} {x : DataW H × List MemPlace} (h : DataW.trod enc Try.prog w base spare held fuel 41 [.slice a0 len cap] = some x) :
    ∃ S b off, Strs S w a0 len cap b off := by
  rcases open_strs Try.underlying41 Try.underlying9 Try.cells9 h with ⟨hcs, _⟩ | ⟨a, l, c, m, S, hcs, _, hl, hm, hmm, _, hel⟩
  · simp at hcs
    obtain ⟨rfl, rfl, rfl⟩ := hcs
    exact ⟨fun _ => ByteArray.empty, 0, 0, fun k hk => absurd hk (by omega), fun k hk => absurd hk (by omega), fun k hk => absurd hk (by omega), fun hk => absurd hk (by omega)⟩
  · simp at hcs
    obtain ⟨rfl, rfl, rfl⟩ := hcs
    have hlm : len ≤ m := by rw [hmm]; split <;> omega
    obtain ⟨b, off, spot⟩ := a
    by_cases h0 : len = 0
    · subst h0
      exact ⟨fun _ => ByteArray.empty, 0, 0, fun k hk => absurd hk (by omega), fun k hk => absurd hk (by omega), fun k hk => absurd hk (by omega), fun hk => absurd hk (by omega)⟩
    · have hspot : spot = none := by simpa [Addr.add] using World.cell?_spot (hel 0 (by omega)).1
      subst hspot
      simp only [Addr.add_lit] at hel
      exact ⟨S, b, off, fun k hk wx => at41 b off len cap k hk wx, fun k hk => (hel k (by omega)).1, fun k hk => (hel k (by omega)).2, fun _ => World.block_lt_of_cell? w _ (hel 0 (by omega)).1⟩
end
end Go.Proofs.Qxb6626520a
