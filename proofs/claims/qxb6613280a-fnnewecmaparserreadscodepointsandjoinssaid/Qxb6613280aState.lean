/-
  THE CONTRACTS ONCE MORE, each new block under a name; what the two laws need of pointers, maps and rows.
-/
import Derived.Test.Qxb6613280aDecode
import Derived.Test.Qxb6613280aMake
import Derived.WalkSmall
import Derived.WideMake
import Derived.LaidEqlPtr
namespace Go.Proofs.Qxb6613280a
open Go.RowKit Go.Lib

theorem builder_at (w : World) (g : Nat) (hg : Hid (w.heap.size = g)) :
    Calls Try.prog 6 #[.string ⟨#[]⟩] w fun e w' => e = .returned (.pointer (some ⟨g, 0, none⟩)) ∧ Below g w w' ∧ g + 1 ≤ w'.heap.size := by
  obtain rfl := hg.out
  exact (builder_any w).mono fun e w' ⟨h1, h2, h3⟩ => ⟨h1, h2, by omega⟩
theorem decode_at' (s : ByteArray) (hs : s.size ≤ 1048576) (w : World) (g : Nat) (hg : Hid (w.heap.size = g)) :
    Calls Try.prog 10 #[.string s] w fun e w' => e = .returned (.tuple #[.slice (some ⟨g, 0, none⟩) (runes s).length s.size, .bool (well s)]) ∧ PRow w' g (runes s) ∧ Below g w w' ∧ g + 1 ≤ w'.heap.size := by
  obtain rfl := hg.out
  exact (decode_any s hs w).mono fun e w' ⟨h1, h2, h3, h4⟩ => ⟨h1, PRow.owned h2, h3, by omega⟩
theorem new_at (s : ByteArray) (q : Option Addr) (hs : s.size ≤ 1048576) (w : World) (g : Nat) (hg : Hid (w.heap.size = g)) :
    Calls Try.prog 7 #[.string s, .pointer q] w fun e w' => e = .returned (.pointer (some ⟨g + 3, 0, none⟩)) ∧
      PRow w' g (runes s) ∧ PMap w' (g + 1) ∧ PMap w' (g + 2) ∧ (∃ cap, PHead w' g (runes s).length cap q) ∧ Below g w w' ∧ g + 4 ≤ w'.heap.size := by
  obtain rfl := hg.out
  exact (new7_any s q hs w).mono fun e w' ⟨h1, h2, h3, h4, h5, h6, h7⟩ => ⟨h1, h2, h3, h4, h5, h6, by omega⟩

theorem size51 : (Try.prog.info? 51).map (·.size) = some 11 := by kernel_rfl

/-- Two parsers are two. -/
theorem apart {w : World} {g g' n n' c c' : Nat} {q q' : Option Addr} (h : PHead w g n c q) (h' : PHead w g' n' c' q') (hne : g ≠ g') :
    (binOp .eql 25 (.pointer (some ⟨g + 3, 0, none⟩)) (.pointer (some ⟨g' + 3, 0, none⟩))).run Try.prog w = .ok (.bool false) w := by
  obtain ⟨j, hj, hjs⟩ := Option.map_eq_some_iff.1 size51
  have hne' : (⟨g + 3, 0, none⟩ : Addr) ≠ ⟨g' + 3, 0, none⟩ := fun e => by
    have : g + 3 = g' + 3 := congrArg Addr.block e
    omega
  exact run_eql_ptr_other (P := Try.prog) w Try.underlying25 hj (by rw [hjs]; decide) hne' h h'
/-- A builder is itself. -/
theorem same23 (w : World) (a : Addr) : (binOp .eql 23 (.pointer (some a)) (.pointer (some a))).run Try.prog w = .ok (.bool true) w := by
  obtain ⟨j, hj, _⟩ := Option.map_eq_some_iff.1 size39
  exact run_eql_ptr_same (P := Try.prog) w a Try.underlying23 hj
theorem same23n (w : World) (a : Addr) : (binOp .neq 23 (.pointer (some a)) (.pointer (some a))).run Try.prog w = .ok (.bool false) w := by
  obtain ⟨j, hj, _⟩ := Option.map_eq_some_iff.1 size39
  exact run_neq_ptr_same (P := Try.prog) w a Try.underlying23 hj

theorem len35 {w : World} {b k : Nat} {es : Array MapEntry} (h : w.heap[b]? = some (.map es k)) (ty : TypeId) : (Builtin.len_ #[35] ty #[.map (some b)]).run Try.prog w = .ok (.int .i64 (es.size : Int)) w := by
  simp [Builtin.len_, run_underlying Try.underlying35, MapKept.run_getObj_map h, goInt]
theorem len46 {w : World} {b k : Nat} {es : Array MapEntry} (h : w.heap[b]? = some (.map es k)) (ty : TypeId) : (Builtin.len_ #[46] ty #[.map (some b)]).run Try.prog w = .ok (.int .i64 (es.size : Int)) w := by
  simp [Builtin.len_, run_underlying Try.underlying46, MapKept.run_getObj_map h, goInt]

/-- 'names[s] = true' at the empty map. -/
theorem enter_first {w : World} {b B : Nat} (s : ByteArray) (h : PMap w b) (w0 : World) (hb : Below B w0 w) (hB : B ≤ b) :
    ∃ w' e, (Instr.mapUpdate 35 (.map (some b)) (.string s) (.bool true)).run Try.prog w = .ok () w' ∧ w'.heap[b]? = some (.map #[e] 1) ∧ (∀ k, k ≠ b → w'.heap[k]? = w.heap[k]?) ∧ Below B w0 w' ∧ w'.heap.size = w.heap.size := by
  have hlt : b < w.heap.size := (Array.getElem?_eq_some_iff.1 h).1
  refine ⟨_, { key := .string s, val := .bool true, born := 0 }, run_mapUpdate_first (P := Try.prog) w 35 9 4 b 0 s (.bool true) Try.underlying35 Try.underlying9 h, ?_, ?_, ?_, ?_⟩
  · simp [hlt]
  · intro k hk
    simp only [Array.getElem?_setIfInBounds]
    rw [if_neg (fun e => hk e.symm)]
  · refine hb.trans ⟨rfl, rfl, rfl, by simp, fun k hk => ?_⟩
    simp only [Array.getElem?_setIfInBounds]
    rw [if_neg (by omega)]
  · simp

theorem PRow.set {w : World} {g : Nat} {L : List Int} (h : PRow w g L) (j : Nat) (v : Int) : ∃ L', L'.length = L.length ∧ PRow (w.setCell ⟨g, j, none⟩ (.int .i32 v)) g L' := by
  obtain ⟨cur, hg, hs, hc⟩ := h
  refine ⟨L.set j v, by simp, _, heap_setCell_same w g j cur 21 _ hg, by simpa using hs, fun i hi => ?_⟩
  have hi' : i < L.length := by simpa using hi
  by_cases e : j = i
  · subst e
    rw [Array.getElem?_setIfInBounds]
    simp [show j < cur.size by omega, List.getD, hi']
  · rw [Array.getElem?_setIfInBounds_ne e, hc i hi']
    simp [List.getD, List.getElem?_set_ne e]
end Go.Proofs.Qxb6613280a
