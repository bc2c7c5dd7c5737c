/-
  THE WALKS of the makers: a new builder, a new parser; the readers of a parser's fields; zzRunesEqual.
-/
import Derived.Test.Qxb6613280aRows
import Derived.Test.Qxb6613280aPlain
import Derived.WalkKit
import Derived.WalkSpells
import Derived.WalkLawsBesides
import Derived.Laws.Pointers
import Derived.Laws.IdiomStrings
import Derived.Lib.Builder
import Derived.Handy
import Derived.BigQuiet
import Derived.Deep.QuietTactic
namespace Go.Proofs.Qxb6613280a
open Go.RowKit Go.Lib

theorem size39 : (Try.prog.info? 39).map (·.size) = some 2 := by kernel_rfl
theorem lies39 : liesAt Try.prog Try.prog.depth 39 (2 / Try.prog.cellsOf 39) 0 39 1 = true := by kernel_rfl

/-- A pointer to a builder turned into a raw pointer, and back: the address as it is. -/
theorem to_raw (b : Nat) (w : World) (hsh : w.shape? b = some (39, 2)) : (convert 23 56 (.pointer (some ⟨b, 0, none⟩))).run Try.prog w = .ok (.pointer (some ⟨b, 0, none⟩)) w := by
  obtain ⟨j, hj, hjs⟩ := Option.map_eq_some_iff.1 size39
  simp only [convert, Sem.run_bind, run_underlying Try.underlying23, run_underlying Try.underlying56, Result.andThen]
  change Sem.run Try.prog (Bind.bind _ _) w = _
  simp [run_underlying Try.underlying23, run_underlying Try.underlying56, Conv.seenAt, viewAt, cellsIn, hsh, sizeOf, typeInfo, hj, hjs]
theorem from_raw (b : Nat) (w : World) (hsh : w.shape? b = some (39, 2)) : (convert 56 23 (.pointer (some ⟨b, 0, none⟩))).run Try.prog w = .ok (.pointer (some ⟨b, 0, none⟩)) w := by
  obtain ⟨j, hj, hjs⟩ := Option.map_eq_some_iff.1 size39
  simp only [convert, Sem.run_bind, run_underlying Try.underlying23, run_underlying Try.underlying56, Result.andThen]
  change Sem.run Try.prog (Bind.bind _ _) w = _
  simp [run_underlying Try.underlying23, run_underlying Try.underlying56, Conv.seenAt, viewAt, hsh, variablesAt, lies39, sizeOf, typeInfo, hj]

set_option maxRecDepth 100000 in
set_option maxHeartbeats 1000000 in
/-- copyCheck at a fresh builder: it stores its own address. -/
theorem copyCheck_fresh (b : Nat) (w : World) (h0 : w.cell? ⟨b, 0, none⟩ = some (.pointer none)) (hsh : w.shape? b = some (39, 2)) (hfz : w.frozen? ⟨b, 0, none⟩ = false) :
    Calls Try.prog 26 #[.pointer (some ⟨b, 0, none⟩)] w fun e w' => e = .returned (.tuple #[]) ∧ w' = w.setCell ⟨b, 0, none⟩ (.pointer (some ⟨b, 0, none⟩)) := by
  go_enter Try.func26, Try.ntmps26
  go_wp2
  rw [to_raw b w hsh]
  simp only [Result.andThen]
  rw [Oper.upon_value]
  go_wp2
  rw [run_callFunc_extern Try.func28 (by kernel_rfl) (by kernel_rfl) (by kernel_rfl) (e := Extern.AbiNoEscape.same) (by kernel_rfl)]
  rw [Lib.run_noEscape]
  simp only [Result.andThen]
  rw [Oper.upon_value]
  go_wp2
  rw [from_raw b w hsh]
  simp only [Result.andThen]
  rw [Oper.upon_value]
  go_wp2
  go_end0
  exact ⟨rfl, rfl⟩

set_option maxHeartbeats 1000000 in
theorem builder_any (w : World) :
    Calls Try.prog 6 #[.string ⟨#[]⟩] w fun e w' => e = .returned (.pointer (some ⟨w.heap.size, 0, none⟩)) ∧ Below w.heap.size w w' ∧ w'.heap.size = w.heap.size + 1 := by
  have hsh : (w.alloc (.cells #[.pointer none, .slice none 0 0] 39)).shape? w.heap.size = some (39, 2) := by
    have : (w.alloc (.cells #[.pointer none, .slice none 0 0] 39)).heap[w.heap.size]? = some (.cells #[.pointer none, .slice none 0 0] 39 (0, 0)) := heap_alloc_new w _
    unfold World.shape?
    rw [this]
    rfl
  go_enter Try.func6, Try.ntmps6
  go_wp2_with (first
    | (go_at_call 26; refine (copyCheck_fresh _ _ (by simp) hsh (by simp)).mono ?_; rintro e w' ⟨rfl, rfl⟩)
    | go_in)
  go_ret
  exact ⟨rfl, (Below.refl _ _).alloc (Nat.le_refl _) _, World.size_alloc _ _⟩

/-! ### a parser in memory: its row of runes (block g), its two maps (g + 1, g + 2), itself (g + 3) -/

/-- Row g holds the runes L (and what spare room there is), and may be written. -/
def PRow (w : World) (g : Nat) (L : List Int) : Prop :=
  ∃ cur : Array Value, w.heap[g]? = some (.cells cur 21 (0, 0)) ∧ L.length ≤ cur.size ∧ ∀ j, j < L.length → cur[j]? = some (.int .i32 (L.getD j 0))
/-- Block b is an empty map. -/
def PMap (w : World) (b : Nat) : Prop := w.heap[b]? = some (.map #[] 0)
/-- Block g + 3 is a fresh parser: n runes in row g, the builder q, the maps g + 1 and g + 2. -/
def PHead (w : World) (g n cap : Nat) (q : Option Addr) : Prop :=
  w.heap[g + 3]? = some (.cells #[.slice (some ⟨g, 0, none⟩) n cap, .int .i64 0, .pointer q, .int .i64 0, .int .i64 0, .int .i64 0, .int .i64 0, .map (some (g + 1)), .pointer none, .pointer none, .map (some (g + 2))] 51 (0, 0))

theorem PRow.cell {w : World} {g : Nat} {L : List Int} (h : PRow w g L) {j : Nat} (hj : j < L.length) : w.cell? ⟨g, j, none⟩ = some (.int .i32 (L.getD j 0)) := by
  obtain ⟨cur, hg, _, hc⟩ := h
  rw [cell_of_row w g j cur 21 (0, 0) hg, hc j hj]
theorem PRow.free {w : World} {g : Nat} {L : List Int} (h : PRow w g L) (j : Nat) : w.frozen? ⟨g, j, none⟩ = false := by
  obtain ⟨cur, hg, _, _⟩ := h
  exact frozen_of_row w g j cur 21 hg
theorem PRow.lt {w : World} {g : Nat} {L : List Int} (h : PRow w g L) : g < w.heap.size := by
  obtain ⟨cur, hg, _⟩ := h
  exact (Array.getElem?_eq_some_iff.1 hg).1
theorem PRow.kept {w w' : World} {g : Nat} {L : List Int} (h : PRow w g L) (he : w'.heap[g]? = w.heap[g]?) : PRow w' g L := by
  obtain ⟨cur, hg, r⟩ := h
  exact ⟨cur, he.trans hg, r⟩
theorem PMap.kept {w w' : World} {g : Nat} (h : PMap w g) (he : w'.heap[g]? = w.heap[g]?) : PMap w' g := he.trans h
theorem PHead.kept {w w' : World} {g n cap : Nat} {q : Option Addr} (h : PHead w g n cap q) (he : w'.heap[g + 3]? = w.heap[g + 3]?) : PHead w' g n cap q := he.trans h
theorem PHead.cell {w : World} {g n cap : Nat} {q : Option Addr} (h : PHead w g n cap q) (j : Nat) :
    w.cell? ⟨g + 3, j, none⟩ = (#[.slice (some ⟨g, 0, none⟩) n cap, .int .i64 0, .pointer q, .int .i64 0, .int .i64 0, .int .i64 0, .int .i64 0, .map (some (g + 1)), .pointer none, .pointer none, .map (some (g + 2))] : Array Value)[j]? :=
  cell_of_row w (g + 3) j _ 51 (0, 0) h
theorem PHead.lt {w : World} {g n cap : Nat} {q : Option Addr} (h : PHead w g n cap q) : g + 3 < w.heap.size := (Array.getElem?_eq_some_iff.1 h).1
/-- What 'ownsRow' says of a row that zzDecode made. -/
theorem PRow.owned {w : World} {base g cap : Nat} {L : List Int} (h : w.ownsRow base 21 1 (.slice (some ⟨g, 0, none⟩) L.length cap) L.length (L.map (Value.int .i32))) : PRow w g L := by
  rcases h.2 with ⟨h', _⟩ | ⟨g', cap', cur, h', _, hg, hn, _, hs, htake⟩
  · simp at h'
  · simp only [Value.slice.injEq, Option.some.injEq, Addr.mk.injEq, and_true, true_and] at h'
    obtain ⟨rfl, rfl⟩ := h'
    refine ⟨cur, hg, by omega, fun j hj => ?_⟩
    have : (cur.toList.take (L.length * 1))[j]? = (L.map (Value.int .i32))[j]? := by rw [htake]
    rw [List.getElem?_take_of_lt (by omega), Array.getElem?_toList] at this
    rw [this, List.getElem?_map, List.getElem?_eq_getElem hj]
    simp [List.getD, List.getElem?_eq_getElem hj]

theorem push4 (h : Array Obj) (a b c d : Obj) : ((((h.push a).push b).push c).push d)[h.size]? = some a ∧ ((((h.push a).push b).push c).push d)[h.size + 1]? = some b ∧
    ((((h.push a).push b).push c).push d)[h.size + 2]? = some c ∧ ((((h.push a).push b).push c).push d)[h.size + 3]? = some d := by
  have z1 : (h.push a).size = h.size + 1 := by simp
  have z2 : ((h.push a).push b).size = h.size + 2 := by simp
  have z3 : (((h.push a).push b).push c).size = h.size + 3 := by simp
  refine ⟨?_, ?_, ?_, ?_⟩
  · rw [Array.getElem?_push, if_neg (by omega), Array.getElem?_push, if_neg (by omega), Array.getElem?_push, if_neg (by omega), Array.getElem?_push, if_pos rfl]
  · rw [Array.getElem?_push, if_neg (by omega), Array.getElem?_push, if_neg (by omega), Array.getElem?_push, if_pos (by omega)]
  · rw [Array.getElem?_push, if_neg (by omega), Array.getElem?_push, if_pos (by omega)]
  · rw [Array.getElem?_push, if_pos (by omega)]
theorem four (w : World) (a b c d : Obj) :
    let W := ((((w.alloc a).alloc b).alloc c).alloc d).drew
    W.heap[w.heap.size]? = some a ∧ W.heap[w.heap.size + 1]? = some b ∧ W.heap[w.heap.size + 2]? = some c ∧ W.heap[w.heap.size + 3]? = some d ∧ Below w.heap.size w W ∧ W.heap.size = w.heap.size + 4 := by
  intro W
  have e : W.heap = (((w.heap.push a).push b).push c).push d := rfl
  have hp := push4 w.heap a b c d
  rw [e]
  refine ⟨hp.1, hp.2.1, hp.2.2.1, hp.2.2.2, ?_, by simp⟩
  exact (((((Below.refl _ _).alloc (Nat.le_refl _) a).alloc (by simp) b).alloc (by simp; omega) c).alloc (by simp; omega) d).drew

set_option maxHeartbeats 1000000 in
theorem new16_any (s : ByteArray) (q : Option Addr) (hs : s.size ≤ 1048576) (w : World) :
    Calls Try.prog 16 #[.string s, .pointer q] w fun e w' => e = .returned (.pointer (some ⟨w.heap.size + 3, 0, none⟩)) ∧
      PRow w' w.heap.size (runes s) ∧ PMap w' (w.heap.size + 1) ∧ PMap w' (w.heap.size + 2) ∧ (∃ cap, PHead w' w.heap.size (runes s).length cap q) ∧ Below w.heap.size w w' ∧ w'.heap.size = w.heap.size + 4 := by
  have hl := runes_len s
  have hcv := run_runes_of_string (P := Try.prog) w 9 29 21 s Try.underlying9 Try.underlying29 Try.underlying21 (by rw [runesFrom_runes]; simp; omega)
  rw [runesFrom_runes] at hcv
  have hmm := @run_makeMap Try.prog
  have hg := grownCap_ge w (runes s).length 0 21
  go_enter Try.func16, Try.ntmps16
  go_wp2
  go_ret
  obtain ⟨cap, hcap⟩ : ∃ cap, grownCap w (runes s).length 0 21 = cap := ⟨_, rfl⟩
  rw [hcap] at hg ⊢
  clear hcv hmm hcap
  obtain ⟨f0, f1, f2, f3, fb, fs⟩ := four w (.cells (((runes s).map (Value.int .i32)).toArray ++ Array.replicate (cap - (runes s).length) (.int .i32 0)) 21) (.map #[] 0) (.map #[] 0)
    (.cells #[.slice (some ⟨w.heap.size, 0, none⟩) (runes s).length cap, .int .i64 0, .pointer q, .int .i64 0, .int .i64 0, .int .i64 0, .int .i64 0, .map (some (w.heap.size + 1)), .pointer none, .pointer none, .map (some (w.heap.size + 2))] 51)
  refine ⟨rfl, ⟨_, f0, ?_, ?_⟩, f1, f2, ⟨cap, f3⟩, fb, fs⟩
  · simp
  · intro j hj
    rw [Array.getElem?_append_left (by simpa using hj)]
    simp [hj]

theorem new7_any (s : ByteArray) (q : Option Addr) (hs : s.size ≤ 1048576) (w : World) :
    Calls Try.prog 7 #[.string s, .pointer q] w fun e w' => e = .returned (.pointer (some ⟨w.heap.size + 3, 0, none⟩)) ∧
      PRow w' w.heap.size (runes s) ∧ PMap w' (w.heap.size + 1) ∧ PMap w' (w.heap.size + 2) ∧ (∃ cap, PHead w' w.heap.size (runes s).length cap q) ∧ Below w.heap.size w w' ∧ w'.heap.size = w.heap.size + 4 := by
  go_enter Try.func7, Try.ntmps7
  go_wp2_with (go_at_call 16; refine (new16_any s q hs _).mono ?_; rintro e w' ⟨rfl, H⟩)
  go_ret
  exact ⟨rfl, H⟩

/-! ### the readers of a parser's fields -/
theorem src_any (w : World) (g n cap : Nat) (q : Option Addr) (h : PHead w g n cap q) :
    Calls Try.prog 11 #[.pointer (some ⟨g + 3, 0, none⟩)] w fun e w' => e = .returned (.slice (some ⟨g, 0, none⟩) n cap) ∧ w' = w := by
  have hc := h.cell 0
  simp at hc
  clear h
  go_enter Try.func11, Try.ntmps11
  go_wp2
  go_ret
  exact ⟨rfl, rfl⟩
theorem out_any (w : World) (g n cap : Nat) (q : Option Addr) (h : PHead w g n cap q) :
    Calls Try.prog 9 #[.pointer (some ⟨g + 3, 0, none⟩)] w fun e w' => e = .returned (.pointer q) ∧ w' = w := by
  have hc := h.cell 2
  simp at hc
  clear h
  go_enter Try.func9, Try.ntmps9
  go_wp2
  go_ret
  exact ⟨rfl, rfl⟩
theorem names_any (w : World) (g n cap : Nat) (q : Option Addr) (h : PHead w g n cap q) :
    Calls Try.prog 14 #[.pointer (some ⟨g + 3, 0, none⟩)] w fun e w' => e = .returned (.map (some (g + 1))) ∧ w' = w := by
  have hc := h.cell 7
  simp at hc
  clear h
  go_enter Try.func14, Try.ntmps14
  go_wp2
  go_ret
  exact ⟨rfl, rfl⟩

/-! ### zzRunesEqual at two rows of the same runes -/
set_option maxHeartbeats 1000000 in
theorem equal_any (L : List Int) (gx gy cx cy : Nat) (hL : L.length ≤ 1048576) (w : World) (hx : PRow w gx L) (hy : PRow w gy L) :
    Calls Try.prog 12 #[.slice (some ⟨gx, 0, none⟩) L.length cx, .slice (some ⟨gy, 0, none⟩) L.length cy] w fun e w' => e = .returned (.bool true) ∧ ∃ n, w' = w.drewN n := by
  go_enter Try.func12, Try.ntmps12
  go_wp2
  go_loopw [5] (fun i wr => ∃ k n : Nat, k ≤ L.length ∧ i = .int .i64 k ∧ wr = w.drewN n) (fun i _ => L.length - (intOf i).toNat)
  case atStart => exact ⟨0, 0, Nat.zero_le _, rfl, rfl⟩
  case round =>
    obtain ⟨k, n, hk, rfl, rfl⟩ := hrel
    by_cases hlt : k < L.length
    · have h1 := hx.cell hlt
      have h2 := hy.cell hlt
      have g1 : (0 : Int) ≤ (k : Int) ∧ (k : Int) < (L.length : Int) := by omega
      go_wp2_with fail
      go_quiet (fail)
      go_wp2
      go_roundw
      case rel => exact ⟨k + 1, _, by omega, by go_num, rfl⟩
      case measure => simp [intOf]; omega
    · go_wp2
      go_ret
      exact ⟨rfl, n, rfl⟩
end Go.Proofs.Qxb6613280a
