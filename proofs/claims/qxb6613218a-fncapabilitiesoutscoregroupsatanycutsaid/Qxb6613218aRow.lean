/-
  A ROW OF STRINGS THAT THE CALL ITSELF MADE: what 'make', 'copy' and a store leave of it.
-/
import Derived.Test.Qxb6613218aStrs
import Derived.Laws.CopyOwn
import Derived.Deep.Slices
namespace Go.Proofs.Qxb6613218a
open Go.RowKit

/-- Block g holds n strings and may be written. -/
def StrRow (w : World) (g n : Nat) : Prop :=
  ∃ cur : Array Value, w.heap[g]? = some (.cells cur 9 (0, 0)) ∧ cur.size = n ∧ ∀ j, j < n → ∃ s : ByteArray, cur[j]? = some (.string s)

theorem StrRow.cell {w : World} {g n : Nat} (h : StrRow w g n) {j : Nat} (hj : j < n) : ∃ s : ByteArray, w.cell? ⟨g, j, none⟩ = some (.string s) := by
  obtain ⟨cur, hg, _, hc⟩ := h
  obtain ⟨s, hs⟩ := hc j hj
  exact ⟨s, by rw [cell_of_row w g j cur 9 (0, 0) hg, hs]⟩
theorem StrRow.free {w : World} {g n : Nat} (h : StrRow w g n) (j : Nat) : w.frozen? ⟨g, j, none⟩ = false := by
  obtain ⟨cur, hg, _, _⟩ := h
  exact frozen_of_row w g j cur 9 hg
theorem StrRow.lt {w : World} {g n : Nat} (h : StrRow w g n) : g < w.heap.size := by
  obtain ⟨cur, hg, _, _⟩ := h
  exact (Array.getElem?_eq_some_iff.1 hg).1
theorem StrRow.set {w : World} {g n : Nat} (h : StrRow w g n) (j : Nat) (s : ByteArray) : StrRow (w.setCell ⟨g, j, none⟩ (.string s)) g n := by
  obtain ⟨cur, hg, hs, hc⟩ := h
  refine ⟨cur.setIfInBounds j (.string s), heap_setCell_same w g j cur 9 _ hg, by simpa using hs, fun i hi => ?_⟩
  by_cases e : j = i
  · subst e
    exact ⟨s, by rw [Array.getElem?_setIfInBounds]; simp [hs, hi]⟩
  · obtain ⟨t, ht⟩ := hc i hi
    exact ⟨t, by rw [Array.getElem?_setIfInBounds_ne e, ht]⟩
theorem StrRow.other {w : World} {g n : Nat} (h : StrRow w g n) {g' : Nat} (hne : g ≠ g') (j : Nat) (v : Value) : StrRow (w.setCell ⟨g', j, none⟩ v) g n := by
  obtain ⟨cur, hg, hs, hc⟩ := h
  exact ⟨cur, by rw [heap_setCell_other w ⟨g', j, none⟩ g v hne, hg], hs, hc⟩
theorem StrRow.kept {w w' : World} {g n : Nat} (h : StrRow w g n) (hg : w.grownBy w' none) : StrRow w' g n := by
  obtain ⟨cur, hh, hs, hc⟩ := h
  exact ⟨cur, by rw [hg.block g (Array.getElem?_eq_some_iff.1 hh).1 (by simp), hh], hs, hc⟩

/-- What 'make([]string, n)' leaves. -/
theorem StrRow.made {w : World} {base g n : Nat} (h : w.ownsRow base 9 1 (.slice (some ⟨g, 0, none⟩) n n) n (madeCells (Value.string ByteArray.empty).cells (n * 1)).toList) : StrRow w g n := by
  rcases h.2 with ⟨h', _⟩ | ⟨g', cap', cur, h', _, hg, _, _, hcs, htake⟩
  · simp at h'
  · simp only [Value.slice.injEq, Option.some.injEq, Addr.mk.injEq, and_true, true_and] at h'
    obtain ⟨rfl, rfl⟩ := h'
    refine ⟨cur, hg, by simpa using hcs, fun j hj => ⟨ByteArray.empty, ?_⟩⟩
    have hc : cur.toList = (madeCells #[Value.string ByteArray.empty] n).toList := by
      have e : cur.toList.take (n * 1) = cur.toList := List.take_of_length_le (by simp [hcs])
      rw [← e, htake]; simp [Value.cells]
    rw [toList_madeCells_one] at hc
    rw [← Array.getElem?_toList, hc]
    simp [hj]

/-- 'copy(zzc, c)': zzc a row of n strings of the call's own, c n strings that came in. -/
theorem copy_step {w w1 : World} {B g n cap : Nat} {x : Addr} (hc : ∀ i, i < n → ∃ s : ByteArray, w.cell? (x.add i) = some (.string s) ∧ s.size ≤ maxLen)
    (hw : Below w.heap.size w w1) (hr : StrRow w1 g n) (hb : Below B w w1) (hBg : B ≤ g) :
    ∃ w2, (∀ ty, (Builtin.copy_ #[29, 29] ty #[.slice (some ⟨g, 0, none⟩) n n, .slice (some x) n cap]).run Try.prog w1 = .ok (.int .i64 (n : Int)) w2) ∧ StrRow w2 g n ∧ Below B w w2 := by
  obtain ⟨cur, hg, hs, hcur⟩ := hr
  obtain ⟨S, hS⟩ := Go.Deep.choose_lt hc
  have hlen : ((List.range n).map fun i => Value.string (S i)).length = n := by simp
  have hsz : (Try.prog.info? 9).map (·.size) = some 1 := by kernel_rfl
  have hrun := fun ty => run_copy_row (P := Try.prog) w1 29 29 ty 9 g 0 n n x n cap cur 9 ((List.range n).map fun i => Value.string (S i)) Try.underlying29 hsz hg (by simp)
    (by
      intro j v hv
      have hj : j < n := by have := (List.getElem?_eq_some_iff.1 hv).1; simpa using this
      have hv' : v = .string (S j) := by simpa [hj] using hv.symm
      subst hv'
      have h1 := (hS j hj).1
      exact (World.cell?_of_block (w := w) (hw.block _ (by have := World.block_lt_of_cell? w _ h1; simpa using this))).trans h1)
    (by simp [hs])
    (by
      intro v hv
      obtain ⟨i, _, rfl⟩ := List.mem_map.1 hv
      rfl)
  rw [hlen] at hrun
  refine ⟨_, hrun, ⟨_, setRow_heap w1 g _ _ 9 _ hg, by simp [hs], fun j hj => ⟨S j, ?_⟩⟩, below_setRow hb hBg _⟩
  have hl : j < ((List.range n).map fun i => Value.string (S i)).length := by simpa using hj
  simp only [List.take_zero, List.nil_append, List.getElem?_toArray]
  rw [List.getElem?_append_left hl]
  simp [hj]
end Go.Proofs.Qxb6613218a
