/-
  Strings as a length and a function; rows of bytes in memory.
-/
import Derived.WalkKit
import Derived.Laws.IdiomStrings
namespace Go.Proofs.Qxb6626456a
open Go.RowKit

/-- The byte at place j (0 behind the end). -/
def bt (s : ByteArray) (j : Nat) : UInt8 := if h : j < s.size then s[j] else 0
theorem bt_eq (s : ByteArray) (j : Nat) (h : j < s.size) : s[j] = bt s j := by simp [bt, h]

/-- The string of n bytes that f gives. -/
def mkS (n : Nat) (f : Nat → UInt8) : ByteArray := ⟨((List.range n).map f).toArray⟩
theorem size_mkS (n : Nat) (f : Nat → UInt8) : (mkS n f).size = n := by simp [mkS, ByteArray.size]
theorem bt_mkS (n : Nat) (f : Nat → UInt8) (j : Nat) (h : j < n) : bt (mkS n f) j = f j := by
  have h' : j < (mkS n f).size := by rw [size_mkS]; exact h
  rw [← bt_eq _ _ h']
  show ((List.range n).map f).toArray[j]'(by simpa using h) = f j
  simp
theorem ext_bt (a b : ByteArray) (h : a.size = b.size) (g : ∀ j, j < a.size → bt a j = bt b j) : a = b := by
  apply ByteArray.ext
  apply Array.ext
  · exact h
  · intro i h1 h2
    have := g i h1
    rw [← bt_eq _ _ h1, ← bt_eq _ _ h2] at this
    exact this
theorem mkS_ext (n : Nat) (f g : Nat → UInt8) (h : ∀ j, j < n → f j = g j) : mkS n f = mkS n g := by
  apply ext_bt
  · simp [size_mkS]
  · intro j hj
    rw [size_mkS] at hj
    rw [bt_mkS _ _ _ hj, bt_mkS _ _ _ hj, h j hj]
theorem mkS_self (s : ByteArray) : mkS s.size (bt s) = s := by
  apply ext_bt
  · simp [size_mkS]
  · intro j hj
    rw [size_mkS] at hj
    exact bt_mkS _ _ _ hj

/-- n bytes at the head of block B, none frozen. -/
def Row (w : World) (B n : Nat) (f : Nat → UInt8) : Prop :=
  ∀ j, j < n → w.cell? ⟨B, j, none⟩ = some (.int .u8 ((f j).toNat : Int)) ∧ w.frozen? ⟨B, j, none⟩ = false

theorem Row.set {w : World} {B n : Nat} {f : Nat → UInt8} (h : Row w B n f) (k : Nat) (v : UInt8) :
    Row (w.setCell ⟨B, k, none⟩ (.int .u8 (v.toNat : Int))) B n (fun j => if j = k then v else f j) := by
  intro j hj
  refine ⟨?_, by rw [World.frozen?_setCell]; exact (h j hj).2⟩
  by_cases e : j = k
  · subst e
    rw [World.cell?_setCell_same w _ _ (h j hj).1]
    simp
  · rw [World.cell?_setCell_other w _ _ _ (fun hh => e (by injection hh with _ h2; exact h2.symm)), (h j hj).1]
    simp [e]
theorem Row.congr {w : World} {B n : Nat} {f g : Nat → UInt8} (h : Row w B n f) (e : ∀ j, j < n → f j = g j) : Row w B n g := by
  intro j hj
  rw [← e j hj]
  exact h j hj
theorem Row.drew {w : World} {B n : Nat} {f : Nat → UInt8} (h : Row w B n f) : Row w.drew B n f := h

/-- What '[]byte(s)' lays is such a row. -/
theorem Row.bytes (w : World) (s : ByteArray) (cap : Nat) (e : TypeId) :
    Row (w.alloc (.cells (bytesRow s cap) e ((bytesRow s cap).size, (bytesRow s cap).size + 1))) w.heap.size s.size (bt s) := by
  intro j hj
  have hj' : j < s.data.size := hj
  refine ⟨?_, ?_⟩
  · rw [World.cell?_alloc_mark, bytesRow_at s cap j hj', ← bt_eq s j hj]
    rfl
  · rw [World.frozen?_alloc_mark]
    have : j < (bytesRow s cap).size := by simp [bytesRow]; omega
    simp; omega

/-- What 'make([]byte, n)' lays is such a row. -/
theorem Row.made {w : World} {base e n cap g : Nat} (h : w.ownsRow base e 1 (.slice (some ⟨g, 0, none⟩) n cap) n (madeCells (Value.int .u8 0).cells (n * 1)).toList) : Row w g n (fun _ => 0) := by
  intro j hj
  refine ⟨?_, h.frozenAt j⟩
  rw [h.cellAt j (by omega)]
  simp [Value.cells, madeCells, hj]
  try exact Nat.mod_one j ▸ rfl

/-- 'string(b)'. -/
theorem Row.back {P : Program} {w : World} {B n : Nat} {f : Nat → UInt8} (h : Row w B n f) (src dst e : TypeId) (cap : Nat) (hs : P.underlying src = some (.slice e)) (he : P.underlying e = some (.int .u8)) (hd : P.underlying dst = some .string) :
    (convert src dst (.slice (some ⟨B, 0, none⟩) n cap)).run P w = .ok (.string (mkS n f)) w := by
  have := run_convert_bytes_back (P := P) w src dst e ⟨B, 0, none⟩ cap ((List.range n).map f) hs he hd (by
    intro j hj
    have hj' : j < n := by simpa using hj
    have e : (⟨B, 0, none⟩ : Addr).add j = ⟨B, j, none⟩ := by simp [Addr.add]; try (intro hh; exact hh.symm)
    rw [e, (h j hj').1]
    simp)
  simpa [mkS] using this

/-- The cells of k bytes. -/
def cellsOf (f : Nat → UInt8) (k : Nat) : List Value := (List.range k).map (fun j => Value.int .u8 ((f j).toNat : Int))
theorem cellsOf_succ (f : Nat → UInt8) (k : Nat) : cellsOf f (k + 1) = cellsOf f k ++ [Value.int .u8 ((f k).toNat : Int)] := by
  unfold cellsOf; rw [List.range_succ]; simp
theorem cellsOf_ext (f g : Nat → UInt8) (k : Nat) (h : ∀ j, j < k → f j = g j) : cellsOf f k = cellsOf g k := by
  unfold cellsOf
  apply List.map_congr_left
  intro j hj
  rw [h j (by simpa using hj)]
/-- What is owned is such a row. -/
theorem Row.owned {w : World} {base e n cap g : Nat} {f : Nat → UInt8} (h : w.ownsRow base e 1 (.slice (some ⟨g, 0, none⟩) n cap) n (cellsOf f n)) : Row w g n f := by
  intro j hj
  refine ⟨?_, h.frozenAt j⟩
  rw [h.cellAt j (by omega)]
  simp [cellsOf, hj]
end Go.Proofs.Qxb6626456a
