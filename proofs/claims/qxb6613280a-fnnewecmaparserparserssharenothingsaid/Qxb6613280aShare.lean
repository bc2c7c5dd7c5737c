/-
  THE LAW 'FnNewECMAParserParsersShareNothing'.
-/
import Derived.Test.Qxb6613280aState
import Derived.ProofKit
import Derived.OpenShut
import Derived.ShutString
import Derived.ChangeOld
import Derived.Below
namespace Go.Proofs.Qxb6613280a.fnNewECMAParserParsersShareNothing
open Go.RowKit Go.Lib
open Go.ChangeShapes Go.WideShapes Go.ChangeAt
open Go.ChangeMaps (open_string shut_string)

/-- The call gives some bool. (A definition, so that the walk leaves it standing.) -/
def SomeBool (e : Ending) : Prop := ∃ b : Bool, e = .returned (.bool b)
theorem bytes_any (s : ByteArray) (b : Bool) (hs : s.size ≤ maxLen) (w : World) :
    Calls Try.prog 13 #[.string s, .bool b] w fun e w' => SomeBool e ∧ w' = w := by
  unfold maxLen at hs
  go_enter Try.func13, Try.ntmps13
  go_wp2
  all_goals (go_ret; exact ⟨⟨_, rfl⟩, rfl⟩)

set_option maxRecDepth 100000 in
set_option maxHeartbeats 4000000 in
theorem walk_true (s : ByteArray) (hs : s.size ≤ maxLen) (w : World) :
    Calls Try.prog 4 #[.string s, .bool true] w fun e w' => e = .returned (.bool true) ∧ Below w.heap.size w w' := by
  have hs' := hs
  unfold maxLen at hs'
  have hmn := fun (w : World) (r : Option Nat) => run_eql_map_nil (P := Try.prog) w 35 9 4 r Try.underlying35
  have hss := same23
  obtain ⟨g0, hg0⟩ : ∃ g, Hid (w.heap.size = g) := ⟨_, rfl⟩
  go_enter Try.func4, Try.ntmps4
  go_wp2_with (first
    | (go_at_call 13; refine (bytes_any _ _ hs _).mono ?_; rintro e w' ⟨⟨b, rfl⟩, hw'⟩; obtain rfl := hw'.symm; clear hw')
    | (go_at_call 6; refine (builder_at _ g0 hg0).mono ?_; rintro e w1 ⟨rfl, hb1, hz1⟩))
  all_goals first
    | (go_ret; exact ⟨rfl, Below.refl _ _⟩)
    | skip
  have hs20 : s.size ≤ 1048576 := by omega
  have hl := runes_len s
  obtain ⟨L, HL⟩ : ∃ L, Hid (runes s = L) := ⟨_, rfl⟩
  have hL : L.length ≤ 1048576 := by rw [← HL.out]; omega
  have D := decode_at' s hs20
  have N := fun q => new_at s q hs20
  rw [HL.out] at D N
  have D' : Hid _ := D
  have N' : Hid _ := N
  clear D N hl HL
  obtain ⟨gw, hgw⟩ : ∃ g, Hid (w1.heap.size = g) := ⟨_, rfl⟩
  have i1 : g0 + 1 ≤ gw := by have := hgw.out; omega
  refine (D'.out w1 gw hgw).mono ?_
  rintro e w2 ⟨rfl, hwant, hb2, hz2⟩
  have B2 : Below g0 w w2 := hb1.trans (hb2.mono (by omega))
  clear hb1 hb2 hz1 hgw
  go_wp2_with fail
  obtain ⟨g1, hg1⟩ : ∃ g, Hid (w2.heap.size = g) := ⟨_, rfl⟩
  have i2 : gw + 1 ≤ g1 := by have := hg1.out; omega
  refine (N'.out _ w2 g1 hg1).mono ?_
  rintro e w3 ⟨rfl, r1, m1, n1, ⟨c1, p1⟩, hb3, hz3⟩
  replace hwant := hwant.kept (hb3.block _ (by omega))
  have B3 : Below g0 w w3 := B2.trans (hb3.mono (by omega))
  clear B2 hb3 hz2 hg1 n1
  go_wp2_with fail
  obtain ⟨g2, hg2⟩ : ∃ g, Hid (w3.heap.size = g) := ⟨_, rfl⟩
  have i3 : g1 + 4 ≤ g2 := by have := hg2.out; omega
  refine (N'.out _ w3 g2 hg2).mono ?_
  rintro e w4 ⟨rfl, r2, m2, n2, ⟨c2, p2⟩, hb4, hz4⟩
  replace hwant := hwant.kept (hb4.block _ (by omega))
  replace r1 := r1.kept (hb4.block _ (by omega))
  replace m1 := m1.kept (hb4.block _ (by omega))
  replace p1 := p1.kept (hb4.block _ (by omega))
  have B4 : Below g0 w w4 := B3.trans (hb4.mono (by omega))
  have a12 := apart p1 p2 (by omega)
  clear B3 hb4 hz3 hg2 n2
  go_wp2_with (go_at_call 11; refine (src_any _ g1 _ c1 _ p1).mono ?_; rintro e w' ⟨rfl, hw'⟩; obtain rfl := hw'.symm; clear hw')
  clear a12
  refine (equal_any L g1 gw c1 s.size hL _ r1 hwant).mono ?_
  rintro e w5 ⟨rfl, k5, hw5⟩
  replace hwant := hwant.kept (show w5.heap[_]? = _ by rw [hw5]; rfl)
  replace r1 := r1.kept (show w5.heap[_]? = _ by rw [hw5]; rfl)
  replace m1 := m1.kept (show w5.heap[_]? = _ by rw [hw5]; rfl)
  replace p1 := p1.kept (show w5.heap[_]? = _ by rw [hw5]; rfl)
  replace r2 := r2.kept (show w5.heap[_]? = _ by rw [hw5]; rfl)
  replace m2 := m2.kept (show w5.heap[_]? = _ by rw [hw5]; rfl)
  replace p2 := p2.kept (show w5.heap[_]? = _ by rw [hw5]; rfl)
  have B5 : Below g0 w w5 := by rw [hw5]; exact below_drewN B4 k5
  have z5 : g2 + 4 ≤ w5.heap.size := by rw [hw5]; exact hz4
  clear B4 hz4 hw5
  go_wp2
  go_loopw [11] (fun i wr => ∃ (k : Nat) (L1 : List Int), k ≤ L.length ∧ Hid (L1.length = L.length) ∧ i = .int .i64 k ∧ PRow wr g1 L1 ∧ Hid (∀ b, b ≠ g1 → wr.heap[b]? = w5.heap[b]?) ∧ Below g0 w wr ∧ Hid (wr.heap.size = w5.heap.size)) (fun i _ => L.length - (intOf i).toNat)
  case atStart => exact ⟨0, L, Nat.zero_le _, rfl, rfl, r1, fun _ _ => rfl, B5, rfl⟩
  case round =>
    obtain ⟨k, L1, hk, HL1, rfl, q1, HF, BR, HZ⟩ := hrel
    by_cases hlt : k < L.length
    · have hc := q1.cell (j := k) (by have := HL1.out; omega)
      have hf := q1.free k
      go_wp2
      go_roundw
      case rel =>
        obtain ⟨L2, e2, q2⟩ := q1.set k (bits .xor .i32 (L1.getD k 0) 1)
        refine ⟨k + 1, L2, by omega, show _ = _ by rw [e2]; exact HL1.out, by go_num, ?_, fun b hb => ?_, BR.setCell (by simp; omega) _, show _ = _ by rw [World.size_setCell]; exact HZ.out⟩
        · exact q2
        · rw [heap_setCell_other _ _ _ _ (by simpa using hb)]; exact HF.out b hb
      case measure => simp [intOf]; omega
    · replace hwant := hwant.kept (HF.out _ (by omega))
      replace m1 := m1.kept (HF.out _ (by omega))
      replace p1 := p1.kept (HF.out _ (by omega))
      replace r2 := r2.kept (HF.out _ (by omega))
      replace m2 := m2.kept (HF.out _ (by omega))
      replace p2 := p2.kept (HF.out _ (by omega))
      have z6 : g2 + 4 ≤ wr.heap.size := by have := HZ.out; omega
      obtain ⟨w6, en, hup, me, HK, B6, hz6⟩ := enter_first s m1 w BR (by omega)
      have HK' : Hid _ := HK
      have HZ6 : Hid _ := hz6
      clear r1 B5 z5 HF HZ HK hz6 q1 HL1
      go_wp2_with (go_at_call 14; refine (names_any _ g1 _ c1 _ p1).mono ?_; rintro e w' ⟨rfl, hw'⟩; obtain rfl := hw'.symm; clear hw')
      replace hwant := hwant.kept (HK'.out _ (by omega))
      replace p1 := p1.kept (HK'.out _ (by omega))
      replace r2 := r2.kept (HK'.out _ (by omega))
      replace m2 := m2.kept (HK'.out _ (by omega))
      replace p2 := p2.kept (HK'.out _ (by omega))
      clear hup m1 BR HK'
      obtain ⟨g3, hg3⟩ : ∃ g, Hid (w6.heap.size = g) := ⟨_, rfl⟩
      have i4 : g2 + 4 ≤ g3 := by have := hg3.out; have := HZ6.out; omega
      refine (N'.out _ w6 g3 hg3).mono ?_
      rintro e w7 ⟨rfl, r3, m3, n3, ⟨c3, p3⟩, hb7, hz7⟩
      replace hwant := hwant.kept (hb7.block _ (by omega))
      replace p1 := p1.kept (hb7.block _ (by omega))
      replace r2 := r2.kept (hb7.block _ (by omega))
      replace m2 := m2.kept (hb7.block _ (by omega))
      replace p2 := p2.kept (hb7.block _ (by omega))
      replace me := (hb7.block (g1 + 1) (by omega)).trans me
      have B7 : Below g0 w w7 := B6.trans (hb7.mono (by omega))
      have a31 := apart p3 p1 (by omega)
      have a32 := apart p3 p2 (by omega)
      have l1 := fun n ty => len35 (w := w7.drewN n) me ty
      have l2 := fun n ty => len35 (w := w7.drewN n) m2 ty
      have l3 := fun n ty => len35 (w := w7.drewN n) m3 ty
      clear B6 hb7 HZ6 hg3 z6 n3
      go_wp2_with (first
        | (go_at_call 11; (with_reducible refine (src_any _ g2 L.length c2 (some ⟨g0, 0, none⟩) ?_).mono ?_); exact p2; rintro e w' ⟨rfl, hw'⟩; obtain rfl := hw'.symm; clear hw')
        | (go_at_call 11; (with_reducible refine (src_any _ g3 L.length c3 (some ⟨g0, 0, none⟩) ?_).mono ?_); exact p3; rintro e w' ⟨rfl, hw'⟩; obtain rfl := hw'.symm; clear hw')
        | (go_at_call 12; (with_reducible refine (equal_any L g2 gw c2 s.size hL _ ?_ ?_).mono ?_); exact r2; exact hwant; rintro e w' ⟨rfl, n8, rfl⟩)
        | (go_at_call 12; (with_reducible refine (equal_any L g3 gw c3 s.size hL _ ?_ ?_).mono ?_); exact r3; exact hwant; rintro e w' ⟨rfl, n9, rfl⟩)
        | (go_at_call 14; (with_reducible refine (names_any _ g1 L.length c1 (some ⟨g0, 0, none⟩) ?_).mono ?_); exact p1; rintro e w' ⟨rfl, hw'⟩; obtain rfl := hw'.symm; clear hw')
        | (go_at_call 14; (with_reducible refine (names_any _ g2 L.length c2 (some ⟨g0, 0, none⟩) ?_).mono ?_); exact p2; rintro e w' ⟨rfl, hw'⟩; obtain rfl := hw'.symm; clear hw')
        | (go_at_call 14; (with_reducible refine (names_any _ g3 L.length c3 (some ⟨g0, 0, none⟩) ?_).mono ?_); exact p3; rintro e w' ⟨rfl, hw'⟩; obtain rfl := hw'.symm; clear hw')
        | (go_at_call 9; (with_reducible refine (out_any _ g2 L.length c2 (some ⟨g0, 0, none⟩) ?_).mono ?_); exact p2; rintro e w' ⟨rfl, hw'⟩; obtain rfl := hw'.symm; clear hw')
        | (go_at_call 9; (with_reducible refine (out_any _ g3 L.length c3 (some ⟨g0, 0, none⟩) ?_).mono ?_); exact p3; rintro e w' ⟨rfl, hw'⟩; obtain rfl := hw'.symm; clear hw'))
      go_ret
      exact ⟨rfl, by rw [hg0.out]; exact below_drewN B7 _⟩

set_option maxRecDepth 100000 in
set_option maxHeartbeats 4000000 in
theorem walk_false (s : ByteArray) (hs : s.size ≤ maxLen) (w : World) :
    Calls Try.prog 4 #[.string s, .bool false] w fun e w' => e = .returned (.bool true) ∧ Below w.heap.size w w' := by
  have hs' := hs
  unfold maxLen at hs'
  have hmn := fun (w : World) (r : Option Nat) => run_eql_map_nil (P := Try.prog) w 35 9 4 r Try.underlying35
  have hss := same23
  obtain ⟨g0, hg0⟩ : ∃ g, Hid (w.heap.size = g) := ⟨_, rfl⟩
  go_enter Try.func4, Try.ntmps4
  go_wp2_with (first
    | (go_at_call 13; refine (bytes_any _ _ hs _).mono ?_; rintro e w' ⟨⟨b, rfl⟩, hw'⟩; obtain rfl := hw'.symm; clear hw')
    | (go_at_call 6; refine (builder_at _ g0 hg0).mono ?_; rintro e w1 ⟨rfl, hb1, hz1⟩))
  all_goals first
    | (go_ret; exact ⟨rfl, Below.refl _ _⟩)
    | skip
  have hs20 : s.size ≤ 1048576 := by omega
  have hl := runes_len s
  obtain ⟨L, HL⟩ : ∃ L, Hid (runes s = L) := ⟨_, rfl⟩
  have hL : L.length ≤ 1048576 := by rw [← HL.out]; omega
  have D := decode_at' s hs20
  have N := fun q => new_at s q hs20
  rw [HL.out] at D N
  have D' : Hid _ := D
  have N' : Hid _ := N
  clear D N hl HL
  obtain ⟨gw, hgw⟩ : ∃ g, Hid (w1.heap.size = g) := ⟨_, rfl⟩
  have i1 : g0 + 1 ≤ gw := by have := hgw.out; omega
  refine (D'.out w1 gw hgw).mono ?_
  rintro e w2 ⟨rfl, hwant, hb2, hz2⟩
  have B2 : Below g0 w w2 := hb1.trans (hb2.mono (by omega))
  clear hb1 hb2 hz1 hgw
  go_wp2_with fail
  obtain ⟨g1, hg1⟩ : ∃ g, Hid (w2.heap.size = g) := ⟨_, rfl⟩
  have i2 : gw + 1 ≤ g1 := by have := hg1.out; omega
  refine (N'.out _ w2 g1 hg1).mono ?_
  rintro e w3 ⟨rfl, r1, m1, n1, ⟨c1, p1⟩, hb3, hz3⟩
  replace hwant := hwant.kept (hb3.block _ (by omega))
  have B3 : Below g0 w w3 := B2.trans (hb3.mono (by omega))
  clear B2 hb3 hz2 hg1 n1
  go_wp2_with fail
  obtain ⟨g2, hg2⟩ : ∃ g, Hid (w3.heap.size = g) := ⟨_, rfl⟩
  have i3 : g1 + 4 ≤ g2 := by have := hg2.out; omega
  refine (N'.out _ w3 g2 hg2).mono ?_
  rintro e w4 ⟨rfl, r2, m2, n2, ⟨c2, p2⟩, hb4, hz4⟩
  replace hwant := hwant.kept (hb4.block _ (by omega))
  replace r1 := r1.kept (hb4.block _ (by omega))
  replace m1 := m1.kept (hb4.block _ (by omega))
  replace p1 := p1.kept (hb4.block _ (by omega))
  have B4 : Below g0 w w4 := B3.trans (hb4.mono (by omega))
  have a12 := apart p1 p2 (by omega)
  clear B3 hb4 hz3 hg2 n2
  go_wp2_with (go_at_call 11; refine (src_any _ g1 _ c1 _ p1).mono ?_; rintro e w' ⟨rfl, hw'⟩; obtain rfl := hw'.symm; clear hw')
  clear a12
  refine (equal_any L g1 gw c1 s.size hL _ r1 hwant).mono ?_
  rintro e w5 ⟨rfl, k5, hw5⟩
  replace hwant := hwant.kept (show w5.heap[_]? = _ by rw [hw5]; rfl)
  replace r1 := r1.kept (show w5.heap[_]? = _ by rw [hw5]; rfl)
  replace m1 := m1.kept (show w5.heap[_]? = _ by rw [hw5]; rfl)
  replace p1 := p1.kept (show w5.heap[_]? = _ by rw [hw5]; rfl)
  replace r2 := r2.kept (show w5.heap[_]? = _ by rw [hw5]; rfl)
  replace m2 := m2.kept (show w5.heap[_]? = _ by rw [hw5]; rfl)
  replace p2 := p2.kept (show w5.heap[_]? = _ by rw [hw5]; rfl)
  have B5 : Below g0 w w5 := by rw [hw5]; exact below_drewN B4 k5
  have z5 : g2 + 4 ≤ w5.heap.size := by rw [hw5]; exact hz4
  clear B4 hz4 hw5
  go_wp2
  go_loopw [11] (fun i wr => ∃ (k : Nat) (L1 : List Int), k ≤ L.length ∧ Hid (L1.length = L.length) ∧ i = .int .i64 k ∧ PRow wr g1 L1 ∧ Hid (∀ b, b ≠ g1 → wr.heap[b]? = w5.heap[b]?) ∧ Below g0 w wr ∧ Hid (wr.heap.size = w5.heap.size)) (fun i _ => L.length - (intOf i).toNat)
  case atStart => exact ⟨0, L, Nat.zero_le _, rfl, rfl, r1, fun _ _ => rfl, B5, rfl⟩
  case round =>
    obtain ⟨k, L1, hk, HL1, rfl, q1, HF, BR, HZ⟩ := hrel
    by_cases hlt : k < L.length
    · have hc := q1.cell (j := k) (by have := HL1.out; omega)
      have hf := q1.free k
      go_wp2
      go_roundw
      case rel =>
        obtain ⟨L2, e2, q2⟩ := q1.set k (bits .xor .i32 (L1.getD k 0) 1)
        refine ⟨k + 1, L2, by omega, show _ = _ by rw [e2]; exact HL1.out, by go_num, ?_, fun b hb => ?_, BR.setCell (by simp; omega) _, show _ = _ by rw [World.size_setCell]; exact HZ.out⟩
        · exact q2
        · rw [heap_setCell_other _ _ _ _ (by simpa using hb)]; exact HF.out b hb
      case measure => simp [intOf]; omega
    · replace hwant := hwant.kept (HF.out _ (by omega))
      replace m1 := m1.kept (HF.out _ (by omega))
      replace p1 := p1.kept (HF.out _ (by omega))
      replace r2 := r2.kept (HF.out _ (by omega))
      replace m2 := m2.kept (HF.out _ (by omega))
      replace p2 := p2.kept (HF.out _ (by omega))
      have z6 : g2 + 4 ≤ wr.heap.size := by have := HZ.out; omega
      obtain ⟨w6, en, hup, me, HK, B6, hz6⟩ := enter_first s m1 w BR (by omega)
      have HK' : Hid _ := HK
      have HZ6 : Hid _ := hz6
      clear r1 B5 z5 HF HZ HK hz6 q1 HL1
      go_wp2_with (go_at_call 14; refine (names_any _ g1 _ c1 _ p1).mono ?_; rintro e w' ⟨rfl, hw'⟩; obtain rfl := hw'.symm; clear hw')
      replace hwant := hwant.kept (HK'.out _ (by omega))
      replace p1 := p1.kept (HK'.out _ (by omega))
      replace r2 := r2.kept (HK'.out _ (by omega))
      replace m2 := m2.kept (HK'.out _ (by omega))
      replace p2 := p2.kept (HK'.out _ (by omega))
      clear hup m1 BR HK'
      obtain ⟨g3, hg3⟩ : ∃ g, Hid (w6.heap.size = g) := ⟨_, rfl⟩
      have i4 : g2 + 4 ≤ g3 := by have := hg3.out; have := HZ6.out; omega
      refine (N'.out _ w6 g3 hg3).mono ?_
      rintro e w7 ⟨rfl, r3, m3, n3, ⟨c3, p3⟩, hb7, hz7⟩
      replace hwant := hwant.kept (hb7.block _ (by omega))
      replace p1 := p1.kept (hb7.block _ (by omega))
      replace r2 := r2.kept (hb7.block _ (by omega))
      replace m2 := m2.kept (hb7.block _ (by omega))
      replace p2 := p2.kept (hb7.block _ (by omega))
      replace me := (hb7.block (g1 + 1) (by omega)).trans me
      have B7 : Below g0 w w7 := B6.trans (hb7.mono (by omega))
      have a31 := apart p3 p1 (by omega)
      have a32 := apart p3 p2 (by omega)
      have l1 := fun n ty => len35 (w := w7.drewN n) me ty
      have l2 := fun n ty => len35 (w := w7.drewN n) m2 ty
      have l3 := fun n ty => len35 (w := w7.drewN n) m3 ty
      clear B6 hb7 HZ6 hg3 z6 n3
      go_wp2_with (first
        | (go_at_call 11; (with_reducible refine (src_any _ g2 L.length c2 none ?_).mono ?_); exact p2; rintro e w' ⟨rfl, hw'⟩; obtain rfl := hw'.symm; clear hw')
        | (go_at_call 11; (with_reducible refine (src_any _ g3 L.length c3 none ?_).mono ?_); exact p3; rintro e w' ⟨rfl, hw'⟩; obtain rfl := hw'.symm; clear hw')
        | (go_at_call 12; (with_reducible refine (equal_any L g2 gw c2 s.size hL _ ?_ ?_).mono ?_); exact r2; exact hwant; rintro e w' ⟨rfl, n8, rfl⟩)
        | (go_at_call 12; (with_reducible refine (equal_any L g3 gw c3 s.size hL _ ?_ ?_).mono ?_); exact r3; exact hwant; rintro e w' ⟨rfl, n9, rfl⟩)
        | (go_at_call 14; (with_reducible refine (names_any _ g1 L.length c1 none ?_).mono ?_); exact p1; rintro e w' ⟨rfl, hw'⟩; obtain rfl := hw'.symm; clear hw')
        | (go_at_call 14; (with_reducible refine (names_any _ g2 L.length c2 none ?_).mono ?_); exact p2; rintro e w' ⟨rfl, hw'⟩; obtain rfl := hw'.symm; clear hw')
        | (go_at_call 14; (with_reducible refine (names_any _ g3 L.length c3 none ?_).mono ?_); exact p3; rintro e w' ⟨rfl, hw'⟩; obtain rfl := hw'.symm; clear hw')
        | (go_at_call 9; (with_reducible refine (out_any _ g2 L.length c2 none ?_).mono ?_); exact p2; rintro e w' ⟨rfl, hw'⟩; obtain rfl := hw'.symm; clear hw')
        | (go_at_call 9; (with_reducible refine (out_any _ g3 L.length c3 none ?_).mono ?_); exact p3; rintro e w' ⟨rfl, hw'⟩; obtain rfl := hw'.symm; clear hw'))
      go_ret
      exact ⟨rfl, by rw [hg0.out]; exact below_drewN B7 _⟩

theorem walk (a0 : ByteArray) (a1 : Bool) (w0 : a0.size ≤ maxLen) (w : World) :
    Calls Try.prog 4 #[.string a0, .bool a1] w fun e w' => e = .returned (.bool true) ∧ Below w.heap.size w w' := by
  cases a1
  · exact walk_false a0 w0 w
  · exact walk_true a0 w0 w

theorem own : ownKnob Try.prog.godebug = none := by kernel_rfl

set_option maxRecDepth 100000 in
theorem lifted (os : Os) (started : os.Started) (H : Type) (enc : TypeId × Value → H) :
    ReturnsInHanded {} Try.checked os 4 .any (Rows.fnNewECMAParserParsersShareNothingSpec.pre6 enc Try.prog Try.f4 Rows.fnNewECMAParserParsersShareNothingRow.domain false) (Rows.fnNewECMAParserParsersShareNothingSpec.post enc Try.prog Try.f4 false true false false) := by
  refine returnsInHanded_of_change (C := Try.checked) own started (by kernel_rfl) Try.func4
    (ChangeSpec.witness6 (enc := enc) (C := Try.checked) false ⟨#[], #[.string ByteArray.empty, .bool false], []⟩ 8 (by kernel_rfl) (by kernel_rfl) (by kernel_rfl) (by kernel_rfl)) ?_
  intro W base args ds gs before hval0 hW hcnd _
  have hval : ∀ (j : Nat) t v, Try.f4.params[j]? = some t → args[j]? = some v → Value.okWide Try.prog W .any base t v := hval0
  have hW' := hW
  obtain ⟨p, q, hA0, hV, rfl, hfz, hnd⟩ := hW
  have hA : DataW.TrodAll enc Try.prog W 0 (fun _ => true) true Try.f4.params.toList args.toList ds p := hA0
  rw [Try.params4] at hA hval
  obtain ⟨v0, vs0, d0, ds0, p0, q0, hargs, rfl, rfl, h0, r0⟩ := trodAll_cons hA
  obtain ⟨v1, vs1, d1, ds1, p1, q1, rfl, rfl, rfl, h1, r1⟩ := trodAll_cons r0
  obtain ⟨rfl, rfl, rfl⟩ := trodAll_nil r1
  obtain rfl : args = #[v0, v1] := by cases args; simp_all
  obtain ⟨rfl, rfl⟩ := trodVars_none hV
  obtain ⟨a0, rfl, rfl, rfl, w0⟩ := open_string Try.underlying9 (hval 0 9 v0 rfl rfl) h0
  obtain ⟨a1, rfl, rfl, rfl⟩ := open_bool Try.underlying4 (hval 1 4 v1 rfl rfl) h1
  clear hA0 hval0
  refine (walk a0 a1 w0 W).mono fun e W' ⟨he, bel⟩ => ?_
  subst he
  exact ⟨_, rfl, _, _, _, [], _, [], hW', trodAll_mk1 (shut_bool Try.underlying4 _), (trodAll_cons_mk (shut_string Try.underlying9 w0) (trodAll_cons_mk (shut_bool Try.underlying4 _) trodAll_mk0)), rfl, bel.frame _, fun h => by cases h⟩

theorem over : Rows.fnNewECMAParserParsersShareNothingRow.holds Try.pinned (OpenSpec.ofChange Rows.fnNewECMAParserParsersShareNothingSpec) :=
  OpenClaim.holds_of_wide 4 Try.f4 rfl rfl rfl rfl rfl rfl rfl ⟨rfl, rfl, rfl, rfl, rfl⟩ rfl rfl rfl rfl rfl (by kernel_rfl) Try.func4 (by kernel_rfl)
    (of_decide_eq_true (by kernel_rfl)) (by unfold Func.isWrapper; first | (rw [if_pos (by decide +kernel)]; kernel_rfl) | (rw [if_neg (by decide +kernel)]; exact ⟨rfl, rfl⟩))
    (fun os started H enc _ => lifted os started H enc)

/-- ████ THE STATEMENT ████ -/
theorem proved : Rows.FnNewECMAParserParsersShareNothingSaid :=
  over
#print axioms proved
end Go.Proofs.Qxb6613280a.fnNewECMAParserParsersShareNothing
