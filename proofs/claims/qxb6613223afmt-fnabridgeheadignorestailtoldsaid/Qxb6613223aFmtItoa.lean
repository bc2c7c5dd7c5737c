/-
  THE WALK of the law's own decimal numeral, abrItoa: the digits of the number.
-/
import Derived.Test.Qxb6613223aFmtAbridge
import Derived.Laws.IdiomStrings
namespace Go.Proofs.Qxb6613223aFmt
open Go.RowKit Go.Extern.Stop Go.Stop Go.Extern

/-- Block B is the row of 24 bytes; from place i on it holds the bytes ds. -/
def Buf (w : World) (B i : Nat) (ds : List UInt8) : Prop :=
  ∃ cur : Array Value, w.heap[B]? = some (.cells cur 29 (0, 0)) ∧ cur.size = 24 ∧ i + ds.length = 24 ∧ ∀ j (h : j < ds.length), cur[i + j]? = some (.int .u8 (ds[j].toNat : Int))

theorem Buf.start (w : World) (c : Array Value) (hc : c.size = 24) : Buf (w.alloc (.cells c 29)) w.heap.size 24 [] :=
  ⟨c, heap_alloc_new w _, hc, rfl, fun j h => by cases h⟩
theorem Buf.free {w : World} {B i : Nat} {ds : List UInt8} (h : Buf w B i ds) (j : Nat) : w.frozen? ⟨B, j, none⟩ = false := by
  obtain ⟨cur, hg, _, _⟩ := h
  exact frozen_of_row w B j cur 29 hg
theorem Buf.any {w : World} {B i : Nat} {ds : List UInt8} (h : Buf w B i ds) {j : Nat} (hj : j < 24) : ∃ v, w.cell? ⟨B, j, none⟩ = some v := by
  obtain ⟨cur, hg, hs, _⟩ := h
  exact ⟨cur[j], by rw [cell_of_row w B j cur 29 (0, 0) hg]; exact Array.getElem?_eq_getElem (by omega)⟩
theorem Buf.cell {w : World} {B i : Nat} {ds : List UInt8} (h : Buf w B i ds) (j : Nat) (hj : j < ds.length) : w.cell? ⟨B, i + j, none⟩ = some (.int .u8 (ds[j].toNat : Int)) := by
  obtain ⟨cur, hg, _, _, hc⟩ := h
  rw [cell_of_row w B (i + j) cur 29 (0, 0) hg, hc j hj]
theorem Buf.put {w : World} {B m : Nat} {ds : List UInt8} (h : Buf w B (m + 1) ds) (n : Nat) :
    Buf (w.setCell ⟨B, m, none⟩ (.int .u8 (48 + (n : Int) % 10))) B m (UInt8.ofNat (48 + n % 10) :: ds) := by
  obtain ⟨cur, hg, hs, hl, hc⟩ := h
  refine ⟨_, heap_setCell_same w B m cur 29 _ hg, by simpa using hs, by simp; omega, fun j hj => ?_⟩
  match j, hj with
  | 0, hj =>
    have e : ((UInt8.ofNat (48 + n % 10)).toNat : Int) = 48 + (n : Int) % 10 := by
      rw [UInt8.toNat_ofNat']
      omega
    simp only [Nat.add_zero, List.getElem_cons_zero, e]
    rw [Array.getElem?_setIfInBounds]; simp; omega
  | j + 1, hj =>
    have hj' : j < ds.length := by simpa using hj
    rw [Array.getElem?_setIfInBounds_ne (by omega)]
    have := hc j hj'
    rw [show m + 1 + j = m + (j + 1) by omega] at this
    simpa using this

set_option maxHeartbeats 1000000 in
theorem itoa_any (N : Nat) (h0 : 0 < N) (h1 : N ≤ 1048576) (w : World) :
    Calls Tryf.prog 9 #[.int .i64 N] w fun e w' => e = .returned (.string ⟨(digs N).toArray⟩) ∧ Below w.heap.size w w' := by
  have hdl : (digs N).length ≤ 7 := digs_len 7 N (by omega)
  go_enter Tryf.func9, Tryf.ntmps9
  go_wp2
  go_loopw [0, 4] (fun a i wr => ∃ (n k : Nat) (ds : List UInt8), a = .int .i64 n ∧ i = .int .i64 k ∧ Hid (digs N = digs n ++ ds) ∧ n ≤ 1048576 ∧ k ≤ 24 ∧ Buf wr w.heap.size k ds ∧ Below w.heap.size w wr) (fun a _ _ => (intOf a).toNat)
  case atStart => exact ⟨N, 24, [], rfl, rfl, by simp [Hid], h1, by omega, Buf.start w _ rfl, (Below.refl _ _).alloc (Nat.le_refl _) _⟩
  case round =>
    obtain ⟨n, k, ds, rfl, rfl, HD, hn, hk, hbuf, hbel⟩ := hrel
    have hlen : k + ds.length = 24 := by obtain ⟨_, _, _, h, _⟩ := hbuf; exact h
    have hds : ds.length ≤ 7 := by have := congrArg List.length HD.out; simp at this; omega
    by_cases hn0 : 0 < n
    · obtain ⟨m, rfl⟩ : ∃ m, k = m + 1 := ⟨k - 1, by omega⟩
      have hf := hbuf.free m
      obtain ⟨v0, hv0⟩ := hbuf.any (j := m) (by omega)
      go_wp2
      go_roundw
      case rel =>
        refine ⟨n / 10, m, UInt8.ofNat (48 + n % 10) :: ds, by go_num, by go_num, ?_, by omega, by omega, hbuf.put n, hbel.setCell (Nat.le_refl _) _⟩
        show digs N = _
        rw [HD.out, digs_step n hn0]; simp
      case measure => simp [intOf]; omega
    · obtain rfl : n = 0 := by omega
      have HD' : Hid (digs N = ds) := by have := HD.out; simpa [digs, Hid] using this
      have hcv := fun (c : Nat) => run_convert_bytes_back (P := Tryf.prog) wr 30 9 5 ⟨w.heap.size, k, none⟩ c ds Tryf.underlying30 Tryf.underlying5 Tryf.underlying9 (fun j hj => by rw [WideShapes.add_plain]; exact hbuf.cell j hj)
      have hL : ds.length = 24 - k := by omega
      rw [hL] at hcv
      have hpos : 0 < ds.length := by
        have := HD'.out
        rw [← this, digs_step N h0]; simp
      have hk2 : k < 24 := by omega
      have hsl : (Instr.sliceAt 29 (.pointer (some ⟨w.heap.size, 0, none⟩)) (some (.int .i64 (k : Int))) none none).run Tryf.prog wr = .ok (.slice (some ⟨w.heap.size, k, none⟩) (24 - k) (24 - k)) wr := by
        have hal : Tryf.prog.arrayLen 29 = 24 := by kernel_rfl
        have hau : Tryf.prog.underlying 29 = some (.array (Tryf.prog.arrayLen 29) (Tryf.prog.elem 29)) := by kernel_rfl
        have hsz : (Go.sizeOf (Tryf.prog.elem 29)).run Tryf.prog wr = .ok 1 wr := by kernel_rfl
        rw [run_sliceAt_array_l wr 29 _ hau .i64 (k : Int) (by omega) (by rw [hal]; omega), hsz, hal]
        simp only [Result.andThen, slicedAt, Int.toNat_natCast, Nat.mul_one, WideShapes.add_plain, Nat.zero_add]
        rw [if_neg (by omega)]
      clear hL hpos
      go_wp2
      go_ret
      exact ⟨by rw [HD'.out]; rfl, hbel⟩
end Go.Proofs.Qxb6613223aFmt
