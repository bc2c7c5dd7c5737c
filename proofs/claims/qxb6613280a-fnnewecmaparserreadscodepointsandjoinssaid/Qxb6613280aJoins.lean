/-
  THE LAW 'FnNewECMAParserReadsCodePointsAndJoins'.
-/
import Derived.Test.Qxb6613280aFresh
import Derived.ProofKit
import Derived.OpenShut
import Derived.ShutString
import Derived.ChangeOld
import Derived.Below
namespace Go.Proofs.Qxb6613280a.fnNewECMAParserReadsCodePointsAndJoins
open Go.RowKit Go.Lib
open Go.ChangeShapes Go.WideShapes Go.ChangeAt
open Go.ChangeMaps (open_string shut_string)

/-- The call gives some bool. (A definition, so that the walk leaves it standing.) -/
def SomeBool (e : Ending) : Prop := ∃ b : Bool, e = .returned (.bool b)
theorem bytes_any (a b : ByteArray) (c : Bool) (ha : a.size ≤ maxLen) (hb : b.size ≤ maxLen) (w : World) :
    Calls Try.prog 5 #[.string a, .string b, .bool c] w fun e w' => SomeBool e ∧ w' = w := by
  unfold maxLen at ha hb
  go_enter Try.func5, Try.ntmps5
  go_wp2
  all_goals (go_ret; exact ⟨⟨_, rfl⟩, rfl⟩)

theorem getD_left (A C : List Int) {k : Nat} (h : k < A.length) : (A ++ C).getD k 0 = A.getD k 0 := by
  simp only [List.getD, List.getElem?_append_left h]
theorem getD_right (A C : List Int) (k : Nat) : (A ++ C).getD (A.length + k) 0 = C.getD k 0 := by
  simp only [List.getD]
  rw [List.getElem?_append_right (by omega), show A.length + k - A.length = k by omega]

set_option maxRecDepth 100000 in
set_option maxHeartbeats 4000000 in
theorem walk_true_well (a b : ByteArray) (ha : a.size ≤ maxLen) (hb : b.size ≤ maxLen) (hw : well a = true) (w : World) :
    Calls Try.prog 3 #[.string a, .string b, .bool true] w fun e w' => e = .returned (.bool true) ∧ Below w.heap.size w w' := by
  have ha' := ha
  have hb' := hb
  unfold maxLen at ha' hb'
  have hsn := same23n
  have hsz : (a ++ b).size = a.size + b.size := ByteArray.size_append
  have HW : Hid (well a = true) := hw
  clear hw
  obtain ⟨g0, hg0⟩ : ∃ g, Hid (w.heap.size = g) := ⟨_, rfl⟩
  go_enter Try.func3, Try.ntmps3
  go_wp2_with (first
    | (go_at_call 5; refine (bytes_any _ _ _ ha hb _).mono ?_; rintro e w' ⟨⟨b0, rfl⟩, hw'⟩; obtain rfl := hw'.symm; clear hw')
    | (go_at_call 6; refine (builder_at _ g0 hg0).mono ?_; rintro e w1 ⟨rfl, B1, hz1⟩))
  all_goals first
    | (go_ret; exact ⟨rfl, Below.refl _ _⟩)
    | skip
  have sa : a.size ≤ 1048576 := by omega
  have sb : b.size ≤ 1048576 := by omega
  have sab : (a ++ b).size ≤ 1048576 := by omega
  have la := runes_len a
  have lb := runes_len b
  have lab := runes_len (a ++ b)
  obtain ⟨A, HA⟩ : ∃ L, Hid (runes a = L) := ⟨_, rfl⟩
  obtain ⟨C, HC⟩ : ∃ L, Hid (runes b = L) := ⟨_, rfl⟩
  have hA : A.length ≤ 1048576 := by rw [← HA.out]; omega
  have hC : C.length ≤ 1048576 := by rw [← HC.out]; omega
  have DA := decode_at' a sa
  have DC := decode_at' b sb
  have NA := fun q => new_at a q sa
  have NC := fun q => new_at b q sb
  have NM := fun q => new_at (a ++ b) q sab
  have hj := runes_join a b HW.out
  rw [HA.out, HC.out] at hj
  rw [hj, List.length_append] at NM
  clear hj
  rw [HA.out, HW.out] at DA
  rw [HA.out] at NA
  rw [HC.out] at DC NC
  have DA' : Hid _ := DA
  have DC' : Hid _ := DC
  have NA' : Hid _ := NA
  have NC' : Hid _ := NC
  have NM' : Hid _ := NM
  clear DA DC NA NC NM la lb lab HA HC HW
  obtain ⟨ga, hga⟩ : ∃ g, Hid (w1.heap.size = g) := ⟨_, rfl⟩
  have i1 : g0 + 1 ≤ ga := by have := hga.out; omega
  refine (NA'.out _ w1 ga hga).mono ?_
  rintro e w2 ⟨rfl, ra, ma, na, ⟨ca, pa⟩, b2, hz2⟩
  have B2 : Below g0 w w2 := B1.trans (b2.mono (by omega))
  clear B1 b2 hga hz1
  go_wp2_with fail
  obtain ⟨gb, hgb⟩ : ∃ g, Hid (w2.heap.size = g) := ⟨_, rfl⟩
  have i2 : ga + 4 ≤ gb := by have := hgb.out; omega
  refine (NC'.out _ w2 gb hgb).mono ?_
  rintro e w3 ⟨rfl, rb, mb, nb, ⟨cb, pb⟩, b3, hz3⟩
  replace ra := ra.kept (b3.block _ (by omega))
  replace ma := ma.kept (b3.block _ (by omega))
  replace na := na.kept (b3.block _ (by omega))
  replace pa := pa.kept (b3.block _ (by omega))
  have B3 : Below g0 w w3 := B2.trans (b3.mono (by omega))
  clear B2 b3 hgb hz2
  go_wp2_with fail
  obtain ⟨gm, hgm⟩ : ∃ g, Hid (w3.heap.size = g) := ⟨_, rfl⟩
  have i3 : gb + 4 ≤ gm := by have := hgm.out; omega
  refine (NM'.out _ w3 gm hgm).mono ?_
  rintro e w4 ⟨rfl, rm, mm, nm, ⟨cm, pm⟩, b4, hz4⟩
  replace ra := ra.kept (b4.block _ (by omega))
  replace ma := ma.kept (b4.block _ (by omega))
  replace na := na.kept (b4.block _ (by omega))
  replace pa := pa.kept (b4.block _ (by omega))
  replace rb := rb.kept (b4.block _ (by omega))
  replace mb := mb.kept (b4.block _ (by omega))
  replace nb := nb.kept (b4.block _ (by omega))
  replace pb := pb.kept (b4.block _ (by omega))
  have B4 : Below g0 w w4 := B3.trans (b4.mono (by omega))
  clear B3 b4 hgm hz3
  go_wp2_with (first
    | (go_at_call 8; (with_reducible refine (fresh_any _ ga A.length ca (some ⟨g0, 0, none⟩) pa ma na).mono ?_); rintro e w' ⟨rfl, hw'⟩; obtain rfl := hw'.symm; clear hw')
    | (go_at_call 8; (with_reducible refine (fresh_any _ gb C.length cb (some ⟨g0, 0, none⟩) pb mb nb).mono ?_); rintro e w' ⟨rfl, hw'⟩; obtain rfl := hw'.symm; clear hw')
    | (go_at_call 8; (with_reducible refine (fresh_any _ gm (A.length + C.length) cm (some ⟨g0, 0, none⟩) pm mm nm).mono ?_); rintro e w' ⟨rfl, hw'⟩; obtain rfl := hw'.symm; clear hw')
    | (go_at_call 9; (with_reducible refine (out_any _ ga A.length ca (some ⟨g0, 0, none⟩) pa).mono ?_); rintro e w' ⟨rfl, hw'⟩; obtain rfl := hw'.symm; clear hw')
    | (go_at_call 9; (with_reducible refine (out_any _ gb C.length cb (some ⟨g0, 0, none⟩) pb).mono ?_); rintro e w' ⟨rfl, hw'⟩; obtain rfl := hw'.symm; clear hw')
    | (go_at_call 9; (with_reducible refine (out_any _ gm (A.length + C.length) cm (some ⟨g0, 0, none⟩) pm).mono ?_); rintro e w' ⟨rfl, hw'⟩; obtain rfl := hw'.symm; clear hw'))
  obtain ⟨gx, hgx⟩ : ∃ g, Hid (w4.heap.size = g) := ⟨_, rfl⟩
  have i4 : gm + 4 ≤ gx := by have := hgx.out; omega
  refine (DA'.out w4 gx hgx).mono ?_
  rintro e w5 ⟨rfl, rx, b5, hz5⟩
  replace ra := ra.kept (b5.block _ (by omega))
  replace pa := pa.kept (b5.block _ (by omega))
  replace rb := rb.kept (b5.block _ (by omega))
  replace pb := pb.kept (b5.block _ (by omega))
  replace rm := rm.kept (b5.block _ (by omega))
  replace pm := pm.kept (b5.block _ (by omega))
  have B5 : Below g0 w w5 := B4.trans (b5.mono (by omega))
  clear B4 b5 hgx hz4 ma na mb nb mm nm
  go_wp2_with fail
  obtain ⟨gy, hgy⟩ : ∃ g, Hid (w5.heap.size = g) := ⟨_, rfl⟩
  have i5 : gx + 1 ≤ gy := by have := hgy.out; omega
  refine (DC'.out w5 gy hgy).mono ?_
  rintro e w6 ⟨rfl, ry, b6, hz6⟩
  replace ra := ra.kept (b6.block _ (by omega))
  replace pa := pa.kept (b6.block _ (by omega))
  replace rb := rb.kept (b6.block _ (by omega))
  replace pb := pb.kept (b6.block _ (by omega))
  replace rm := rm.kept (b6.block _ (by omega))
  replace pm := pm.kept (b6.block _ (by omega))
  replace rx := rx.kept (b6.block _ (by omega))
  have B6 : Below g0 w w6 := B5.trans (b6.mono (by omega))
  clear B5 b6 hgy hz5 DA' DC' NA' NC' NM'
  go_wp2_with (first
    | (go_at_call 11; (with_reducible refine (src_any _ ga A.length ca (some ⟨g0, 0, none⟩) pa).mono ?_); rintro e w' ⟨rfl, hw'⟩; obtain rfl := hw'.symm; clear hw')
    | (go_at_call 11; (with_reducible refine (src_any _ gb C.length cb (some ⟨g0, 0, none⟩) pb).mono ?_); rintro e w' ⟨rfl, hw'⟩; obtain rfl := hw'.symm; clear hw')
    | (go_at_call 11; (with_reducible refine (src_any _ gm (A.length + C.length) cm (some ⟨g0, 0, none⟩) pm).mono ?_); rintro e w' ⟨rfl, hw'⟩; obtain rfl := hw'.symm; clear hw')
    | (go_at_call 12; (with_reducible refine (equal_any A ga gx ca _ hA _ ?_ ?_).mono ?_); exact ra; exact rx; rintro e w' ⟨rfl, n8, rfl⟩)
    | (go_at_call 12; (with_reducible refine (equal_any C gb gy cb _ hC _ ?_ ?_).mono ?_); exact rb; exact ry; rintro e w' ⟨rfl, n9, rfl⟩))
  go_loopw [18] (fun i wr => ∃ k n : Nat, k ≤ A.length ∧ i = .int .i64 k ∧ wr = w6.drewN n) (fun i _ => A.length - (intOf i).toNat)
  case atStart => exact ⟨0, _, Nat.zero_le _, rfl, rfl⟩
  case round =>
    obtain ⟨k, n, hk, rfl, rfl⟩ := hrel
    by_cases hlt : k < A.length
    · have h1 : w6.cell? ⟨gm, k, none⟩ = some (.int .i32 (A.getD k 0)) := by
        rw [rm.cell (j := k) (by rw [List.length_append]; omega), getD_left A C hlt]
      have h2 := ra.cell hlt
      have g1 : (0 : Int) ≤ (k : Int) ∧ (k : Int) < (A.length : Int) + (C.length : Int) := by omega
      have g2 : (0 : Int) ≤ (k : Int) ∧ (k : Int) < (A.length : Int) := by omega
      go_wp2_with fail
      go_quiet (fail)
      go_wp2
      go_roundw
      case rel => exact ⟨k + 1, _, by omega, by go_num, rfl⟩
      case measure => simp [intOf]; omega
    · go_wp2
      go_loopw [19] (fun i wr => ∃ k n : Nat, k ≤ C.length ∧ i = .int .i64 k ∧ wr = w6.drewN n) (fun i _ => C.length - (intOf i).toNat)
      case atStart => exact ⟨0, _, Nat.zero_le _, rfl, rfl⟩
      case round =>
        obtain ⟨k', n', hk', rfl, rfl⟩ := hrel
        by_cases hlt' : k' < C.length
        · have h1 : w6.cell? ⟨gm, A.length + k', none⟩ = some (.int .i32 (C.getD k' 0)) := by
            rw [rm.cell (j := A.length + k') (by rw [List.length_append]; omega), getD_right A C k']
          have h2 := rb.cell hlt'
          have g1 : (0 : Int) ≤ (A.length : Int) + (k' : Int) ∧ (A.length : Int) + (k' : Int) < (A.length : Int) + (C.length : Int) := by omega
          have g2 : (0 : Int) ≤ (k' : Int) ∧ (k' : Int) < (C.length : Int) := by omega
          go_wp2_with fail
          go_quiet (fail)
          go_wp2
          go_roundw
          case rel => exact ⟨k' + 1, _, by omega, by go_num, rfl⟩
          case measure => simp [intOf]; omega
        · go_wp2
          go_ret
          exact ⟨rfl, by rw [hg0.out]; exact below_drewN B6 _⟩

set_option maxRecDepth 100000 in
set_option maxHeartbeats 4000000 in
theorem walk_true_ill (a b : ByteArray) (ha : a.size ≤ maxLen) (hb : b.size ≤ maxLen) (hw : well a = false) (w : World) :
    Calls Try.prog 3 #[.string a, .string b, .bool true] w fun e w' => e = .returned (.bool true) ∧ Below w.heap.size w w' := by
  have ha' := ha
  have hb' := hb
  unfold maxLen at ha' hb'
  have hsn := same23n
  have hsz : (a ++ b).size = a.size + b.size := ByteArray.size_append
  have HW : Hid (well a = false) := hw
  clear hw
  obtain ⟨g0, hg0⟩ : ∃ g, Hid (w.heap.size = g) := ⟨_, rfl⟩
  go_enter Try.func3, Try.ntmps3
  go_wp2_with (first
    | (go_at_call 5; refine (bytes_any _ _ _ ha hb _).mono ?_; rintro e w' ⟨⟨b0, rfl⟩, hw'⟩; obtain rfl := hw'.symm; clear hw')
    | (go_at_call 6; refine (builder_at _ g0 hg0).mono ?_; rintro e w1 ⟨rfl, B1, hz1⟩))
  all_goals first
    | (go_ret; exact ⟨rfl, Below.refl _ _⟩)
    | skip
  have sa : a.size ≤ 1048576 := by omega
  have sb : b.size ≤ 1048576 := by omega
  have sab : (a ++ b).size ≤ 1048576 := by omega
  have la := runes_len a
  have lb := runes_len b
  have lab := runes_len (a ++ b)
  obtain ⟨A, HA⟩ : ∃ L, Hid (runes a = L) := ⟨_, rfl⟩
  obtain ⟨C, HC⟩ : ∃ L, Hid (runes b = L) := ⟨_, rfl⟩
  have hA : A.length ≤ 1048576 := by rw [← HA.out]; omega
  have hC : C.length ≤ 1048576 := by rw [← HC.out]; omega
  have DA := decode_at' a sa
  have DC := decode_at' b sb
  have NA := fun q => new_at a q sa
  have NC := fun q => new_at b q sb
  have NM := fun q => new_at (a ++ b) q sab
  obtain ⟨M, HM⟩ : ∃ L, Hid (runes (a ++ b) = L) := ⟨_, rfl⟩
  have hM : M.length ≤ 1048576 := by rw [← HM.out]; omega
  have DM := decode_at' (a ++ b) sab
  rw [HM.out] at DM NM
  have DM' : Hid _ := DM
  clear DM HM
  rw [HA.out, HW.out] at DA
  rw [HA.out] at NA
  rw [HC.out] at DC NC
  have DA' : Hid _ := DA
  have DC' : Hid _ := DC
  have NA' : Hid _ := NA
  have NC' : Hid _ := NC
  have NM' : Hid _ := NM
  clear DA DC NA NC NM la lb lab HA HC HW
  obtain ⟨ga, hga⟩ : ∃ g, Hid (w1.heap.size = g) := ⟨_, rfl⟩
  have i1 : g0 + 1 ≤ ga := by have := hga.out; omega
  refine (NA'.out _ w1 ga hga).mono ?_
  rintro e w2 ⟨rfl, ra, ma, na, ⟨ca, pa⟩, b2, hz2⟩
  have B2 : Below g0 w w2 := B1.trans (b2.mono (by omega))
  clear B1 b2 hga hz1
  go_wp2_with fail
  obtain ⟨gb, hgb⟩ : ∃ g, Hid (w2.heap.size = g) := ⟨_, rfl⟩
  have i2 : ga + 4 ≤ gb := by have := hgb.out; omega
  refine (NC'.out _ w2 gb hgb).mono ?_
  rintro e w3 ⟨rfl, rb, mb, nb, ⟨cb, pb⟩, b3, hz3⟩
  replace ra := ra.kept (b3.block _ (by omega))
  replace ma := ma.kept (b3.block _ (by omega))
  replace na := na.kept (b3.block _ (by omega))
  replace pa := pa.kept (b3.block _ (by omega))
  have B3 : Below g0 w w3 := B2.trans (b3.mono (by omega))
  clear B2 b3 hgb hz2
  go_wp2_with fail
  obtain ⟨gm, hgm⟩ : ∃ g, Hid (w3.heap.size = g) := ⟨_, rfl⟩
  have i3 : gb + 4 ≤ gm := by have := hgm.out; omega
  refine (NM'.out _ w3 gm hgm).mono ?_
  rintro e w4 ⟨rfl, rm, mm, nm, ⟨cm, pm⟩, b4, hz4⟩
  replace ra := ra.kept (b4.block _ (by omega))
  replace ma := ma.kept (b4.block _ (by omega))
  replace na := na.kept (b4.block _ (by omega))
  replace pa := pa.kept (b4.block _ (by omega))
  replace rb := rb.kept (b4.block _ (by omega))
  replace mb := mb.kept (b4.block _ (by omega))
  replace nb := nb.kept (b4.block _ (by omega))
  replace pb := pb.kept (b4.block _ (by omega))
  have B4 : Below g0 w w4 := B3.trans (b4.mono (by omega))
  clear B3 b4 hgm hz3
  go_wp2_with (first
    | (go_at_call 8; (with_reducible refine (fresh_any _ ga A.length ca (some ⟨g0, 0, none⟩) pa ma na).mono ?_); rintro e w' ⟨rfl, hw'⟩; obtain rfl := hw'.symm; clear hw')
    | (go_at_call 8; (with_reducible refine (fresh_any _ gb C.length cb (some ⟨g0, 0, none⟩) pb mb nb).mono ?_); rintro e w' ⟨rfl, hw'⟩; obtain rfl := hw'.symm; clear hw')
    | (go_at_call 8; (with_reducible refine (fresh_any _ gm M.length cm (some ⟨g0, 0, none⟩) pm mm nm).mono ?_); rintro e w' ⟨rfl, hw'⟩; obtain rfl := hw'.symm; clear hw')
    | (go_at_call 9; (with_reducible refine (out_any _ ga A.length ca (some ⟨g0, 0, none⟩) pa).mono ?_); rintro e w' ⟨rfl, hw'⟩; obtain rfl := hw'.symm; clear hw')
    | (go_at_call 9; (with_reducible refine (out_any _ gb C.length cb (some ⟨g0, 0, none⟩) pb).mono ?_); rintro e w' ⟨rfl, hw'⟩; obtain rfl := hw'.symm; clear hw')
    | (go_at_call 9; (with_reducible refine (out_any _ gm M.length cm (some ⟨g0, 0, none⟩) pm).mono ?_); rintro e w' ⟨rfl, hw'⟩; obtain rfl := hw'.symm; clear hw'))
  obtain ⟨gx, hgx⟩ : ∃ g, Hid (w4.heap.size = g) := ⟨_, rfl⟩
  have i4 : gm + 4 ≤ gx := by have := hgx.out; omega
  refine (DA'.out w4 gx hgx).mono ?_
  rintro e w5 ⟨rfl, rx, b5, hz5⟩
  replace ra := ra.kept (b5.block _ (by omega))
  replace pa := pa.kept (b5.block _ (by omega))
  replace rb := rb.kept (b5.block _ (by omega))
  replace pb := pb.kept (b5.block _ (by omega))
  replace rm := rm.kept (b5.block _ (by omega))
  replace pm := pm.kept (b5.block _ (by omega))
  have B5 : Below g0 w w5 := B4.trans (b5.mono (by omega))
  clear B4 b5 hgx hz4 ma na mb nb mm nm
  go_wp2_with fail
  obtain ⟨gy, hgy⟩ : ∃ g, Hid (w5.heap.size = g) := ⟨_, rfl⟩
  have i5 : gx + 1 ≤ gy := by have := hgy.out; omega
  refine (DC'.out w5 gy hgy).mono ?_
  rintro e w6 ⟨rfl, ry, b6, hz6⟩
  replace ra := ra.kept (b6.block _ (by omega))
  replace pa := pa.kept (b6.block _ (by omega))
  replace rb := rb.kept (b6.block _ (by omega))
  replace pb := pb.kept (b6.block _ (by omega))
  replace rm := rm.kept (b6.block _ (by omega))
  replace pm := pm.kept (b6.block _ (by omega))
  replace rx := rx.kept (b6.block _ (by omega))
  have B6 : Below g0 w w6 := B5.trans (b6.mono (by omega))
  clear B5 b6 hgy hz5 DA' DC' NA' NC' NM'
  go_wp2_with (first
    | (go_at_call 11; (with_reducible refine (src_any _ ga A.length ca (some ⟨g0, 0, none⟩) pa).mono ?_); rintro e w' ⟨rfl, hw'⟩; obtain rfl := hw'.symm; clear hw')
    | (go_at_call 11; (with_reducible refine (src_any _ gb C.length cb (some ⟨g0, 0, none⟩) pb).mono ?_); rintro e w' ⟨rfl, hw'⟩; obtain rfl := hw'.symm; clear hw')
    | (go_at_call 11; (with_reducible refine (src_any _ gm M.length cm (some ⟨g0, 0, none⟩) pm).mono ?_); rintro e w' ⟨rfl, hw'⟩; obtain rfl := hw'.symm; clear hw')
    | (go_at_call 12; (with_reducible refine (equal_any A ga gx ca _ hA _ ?_ ?_).mono ?_); exact ra; exact rx; rintro e w' ⟨rfl, n8, rfl⟩)
    | (go_at_call 12; (with_reducible refine (equal_any C gb gy cb _ hC _ ?_ ?_).mono ?_); exact rb; exact ry; rintro e w' ⟨rfl, n9, rfl⟩))
  obtain ⟨gz, hgz⟩ : ∃ g, Hid (w6.heap.size = g) := ⟨_, rfl⟩
  have i6 : gy + 1 ≤ gz := by have := hgz.out; omega
  refine (DM'.out _ gz ?_).mono ?_
  · exact hgz
  rintro e w7 ⟨rfl, rz, b7, hz7⟩
  replace rm := rm.kept (b7.block _ (by omega))
  have B7 : Below g0 w w7 := (below_drewN B6 _).trans (b7.mono (by omega))
  clear B6 b7 hgz hz6
  go_wp2_with (go_at_call 12; (with_reducible refine (equal_any M gm gz cm _ hM _ ?_ ?_).mono ?_); exact rm; exact rz; rintro e w' ⟨rfl, n10, rfl⟩)
  go_ret
  exact ⟨rfl, by rw [hg0.out]; exact below_drewN B7 _⟩

set_option maxRecDepth 100000 in
set_option maxHeartbeats 4000000 in
theorem walk_false_well (a b : ByteArray) (ha : a.size ≤ maxLen) (hb : b.size ≤ maxLen) (hw : well a = true) (w : World) :
    Calls Try.prog 3 #[.string a, .string b, .bool false] w fun e w' => e = .returned (.bool true) ∧ Below w.heap.size w w' := by
  have ha' := ha
  have hb' := hb
  unfold maxLen at ha' hb'
  have hsn := same23n
  have hsz : (a ++ b).size = a.size + b.size := ByteArray.size_append
  have HW : Hid (well a = true) := hw
  clear hw
  obtain ⟨g0, hg0⟩ : ∃ g, Hid (w.heap.size = g) := ⟨_, rfl⟩
  go_enter Try.func3, Try.ntmps3
  go_wp2_with (first
    | (go_at_call 5; refine (bytes_any _ _ _ ha hb _).mono ?_; rintro e w' ⟨⟨b0, rfl⟩, hw'⟩; obtain rfl := hw'.symm; clear hw')
    | (go_at_call 6; refine (builder_at _ g0 hg0).mono ?_; rintro e w1 ⟨rfl, B1, hz1⟩))
  all_goals first
    | (go_ret; exact ⟨rfl, Below.refl _ _⟩)
    | skip
  have sa : a.size ≤ 1048576 := by omega
  have sb : b.size ≤ 1048576 := by omega
  have sab : (a ++ b).size ≤ 1048576 := by omega
  have la := runes_len a
  have lb := runes_len b
  have lab := runes_len (a ++ b)
  obtain ⟨A, HA⟩ : ∃ L, Hid (runes a = L) := ⟨_, rfl⟩
  obtain ⟨C, HC⟩ : ∃ L, Hid (runes b = L) := ⟨_, rfl⟩
  have hA : A.length ≤ 1048576 := by rw [← HA.out]; omega
  have hC : C.length ≤ 1048576 := by rw [← HC.out]; omega
  have DA := decode_at' a sa
  have DC := decode_at' b sb
  have NA := fun q => new_at a q sa
  have NC := fun q => new_at b q sb
  have NM := fun q => new_at (a ++ b) q sab
  have hj := runes_join a b HW.out
  rw [HA.out, HC.out] at hj
  rw [hj, List.length_append] at NM
  clear hj
  rw [HA.out, HW.out] at DA
  rw [HA.out] at NA
  rw [HC.out] at DC NC
  have DA' : Hid _ := DA
  have DC' : Hid _ := DC
  have NA' : Hid _ := NA
  have NC' : Hid _ := NC
  have NM' : Hid _ := NM
  clear DA DC NA NC NM la lb lab HA HC HW
  obtain ⟨ga, hga⟩ : ∃ g, Hid (w1.heap.size = g) := ⟨_, rfl⟩
  have i1 : g0 + 1 ≤ ga := by have := hga.out; omega
  refine (NA'.out _ w1 ga hga).mono ?_
  rintro e w2 ⟨rfl, ra, ma, na, ⟨ca, pa⟩, b2, hz2⟩
  have B2 : Below g0 w w2 := B1.trans (b2.mono (by omega))
  clear B1 b2 hga hz1
  go_wp2_with fail
  obtain ⟨gb, hgb⟩ : ∃ g, Hid (w2.heap.size = g) := ⟨_, rfl⟩
  have i2 : ga + 4 ≤ gb := by have := hgb.out; omega
  refine (NC'.out _ w2 gb hgb).mono ?_
  rintro e w3 ⟨rfl, rb, mb, nb, ⟨cb, pb⟩, b3, hz3⟩
  replace ra := ra.kept (b3.block _ (by omega))
  replace ma := ma.kept (b3.block _ (by omega))
  replace na := na.kept (b3.block _ (by omega))
  replace pa := pa.kept (b3.block _ (by omega))
  have B3 : Below g0 w w3 := B2.trans (b3.mono (by omega))
  clear B2 b3 hgb hz2
  go_wp2_with fail
  obtain ⟨gm, hgm⟩ : ∃ g, Hid (w3.heap.size = g) := ⟨_, rfl⟩
  have i3 : gb + 4 ≤ gm := by have := hgm.out; omega
  refine (NM'.out _ w3 gm hgm).mono ?_
  rintro e w4 ⟨rfl, rm, mm, nm, ⟨cm, pm⟩, b4, hz4⟩
  replace ra := ra.kept (b4.block _ (by omega))
  replace ma := ma.kept (b4.block _ (by omega))
  replace na := na.kept (b4.block _ (by omega))
  replace pa := pa.kept (b4.block _ (by omega))
  replace rb := rb.kept (b4.block _ (by omega))
  replace mb := mb.kept (b4.block _ (by omega))
  replace nb := nb.kept (b4.block _ (by omega))
  replace pb := pb.kept (b4.block _ (by omega))
  have B4 : Below g0 w w4 := B3.trans (b4.mono (by omega))
  clear B3 b4 hgm hz3
  go_wp2_with (first
    | (go_at_call 8; (with_reducible refine (fresh_any _ ga A.length ca none pa ma na).mono ?_); rintro e w' ⟨rfl, hw'⟩; obtain rfl := hw'.symm; clear hw')
    | (go_at_call 8; (with_reducible refine (fresh_any _ gb C.length cb none pb mb nb).mono ?_); rintro e w' ⟨rfl, hw'⟩; obtain rfl := hw'.symm; clear hw')
    | (go_at_call 8; (with_reducible refine (fresh_any _ gm (A.length + C.length) cm none pm mm nm).mono ?_); rintro e w' ⟨rfl, hw'⟩; obtain rfl := hw'.symm; clear hw')
    | (go_at_call 9; (with_reducible refine (out_any _ ga A.length ca none pa).mono ?_); rintro e w' ⟨rfl, hw'⟩; obtain rfl := hw'.symm; clear hw')
    | (go_at_call 9; (with_reducible refine (out_any _ gb C.length cb none pb).mono ?_); rintro e w' ⟨rfl, hw'⟩; obtain rfl := hw'.symm; clear hw')
    | (go_at_call 9; (with_reducible refine (out_any _ gm (A.length + C.length) cm none pm).mono ?_); rintro e w' ⟨rfl, hw'⟩; obtain rfl := hw'.symm; clear hw'))
  obtain ⟨gx, hgx⟩ : ∃ g, Hid (w4.heap.size = g) := ⟨_, rfl⟩
  have i4 : gm + 4 ≤ gx := by have := hgx.out; omega
  refine (DA'.out w4 gx hgx).mono ?_
  rintro e w5 ⟨rfl, rx, b5, hz5⟩
  replace ra := ra.kept (b5.block _ (by omega))
  replace pa := pa.kept (b5.block _ (by omega))
  replace rb := rb.kept (b5.block _ (by omega))
  replace pb := pb.kept (b5.block _ (by omega))
  replace rm := rm.kept (b5.block _ (by omega))
  replace pm := pm.kept (b5.block _ (by omega))
  have B5 : Below g0 w w5 := B4.trans (b5.mono (by omega))
  clear B4 b5 hgx hz4 ma na mb nb mm nm
  go_wp2_with fail
  obtain ⟨gy, hgy⟩ : ∃ g, Hid (w5.heap.size = g) := ⟨_, rfl⟩
  have i5 : gx + 1 ≤ gy := by have := hgy.out; omega
  refine (DC'.out w5 gy hgy).mono ?_
  rintro e w6 ⟨rfl, ry, b6, hz6⟩
  replace ra := ra.kept (b6.block _ (by omega))
  replace pa := pa.kept (b6.block _ (by omega))
  replace rb := rb.kept (b6.block _ (by omega))
  replace pb := pb.kept (b6.block _ (by omega))
  replace rm := rm.kept (b6.block _ (by omega))
  replace pm := pm.kept (b6.block _ (by omega))
  replace rx := rx.kept (b6.block _ (by omega))
  have B6 : Below g0 w w6 := B5.trans (b6.mono (by omega))
  clear B5 b6 hgy hz5 DA' DC' NA' NC' NM'
  go_wp2_with (first
    | (go_at_call 11; (with_reducible refine (src_any _ ga A.length ca none pa).mono ?_); rintro e w' ⟨rfl, hw'⟩; obtain rfl := hw'.symm; clear hw')
    | (go_at_call 11; (with_reducible refine (src_any _ gb C.length cb none pb).mono ?_); rintro e w' ⟨rfl, hw'⟩; obtain rfl := hw'.symm; clear hw')
    | (go_at_call 11; (with_reducible refine (src_any _ gm (A.length + C.length) cm none pm).mono ?_); rintro e w' ⟨rfl, hw'⟩; obtain rfl := hw'.symm; clear hw')
    | (go_at_call 12; (with_reducible refine (equal_any A ga gx ca _ hA _ ?_ ?_).mono ?_); exact ra; exact rx; rintro e w' ⟨rfl, n8, rfl⟩)
    | (go_at_call 12; (with_reducible refine (equal_any C gb gy cb _ hC _ ?_ ?_).mono ?_); exact rb; exact ry; rintro e w' ⟨rfl, n9, rfl⟩))
  go_loopw [18] (fun i wr => ∃ k n : Nat, k ≤ A.length ∧ i = .int .i64 k ∧ wr = w6.drewN n) (fun i _ => A.length - (intOf i).toNat)
  case atStart => exact ⟨0, _, Nat.zero_le _, rfl, rfl⟩
  case round =>
    obtain ⟨k, n, hk, rfl, rfl⟩ := hrel
    by_cases hlt : k < A.length
    · have h1 : w6.cell? ⟨gm, k, none⟩ = some (.int .i32 (A.getD k 0)) := by
        rw [rm.cell (j := k) (by rw [List.length_append]; omega), getD_left A C hlt]
      have h2 := ra.cell hlt
      have g1 : (0 : Int) ≤ (k : Int) ∧ (k : Int) < (A.length : Int) + (C.length : Int) := by omega
      have g2 : (0 : Int) ≤ (k : Int) ∧ (k : Int) < (A.length : Int) := by omega
      go_wp2_with fail
      go_quiet (fail)
      go_wp2
      go_roundw
      case rel => exact ⟨k + 1, _, by omega, by go_num, rfl⟩
      case measure => simp [intOf]; omega
    · go_wp2
      go_loopw [19] (fun i wr => ∃ k n : Nat, k ≤ C.length ∧ i = .int .i64 k ∧ wr = w6.drewN n) (fun i _ => C.length - (intOf i).toNat)
      case atStart => exact ⟨0, _, Nat.zero_le _, rfl, rfl⟩
      case round =>
        obtain ⟨k', n', hk', rfl, rfl⟩ := hrel
        by_cases hlt' : k' < C.length
        · have h1 : w6.cell? ⟨gm, A.length + k', none⟩ = some (.int .i32 (C.getD k' 0)) := by
            rw [rm.cell (j := A.length + k') (by rw [List.length_append]; omega), getD_right A C k']
          have h2 := rb.cell hlt'
          have g1 : (0 : Int) ≤ (A.length : Int) + (k' : Int) ∧ (A.length : Int) + (k' : Int) < (A.length : Int) + (C.length : Int) := by omega
          have g2 : (0 : Int) ≤ (k' : Int) ∧ (k' : Int) < (C.length : Int) := by omega
          go_wp2_with fail
          go_quiet (fail)
          go_wp2
          go_roundw
          case rel => exact ⟨k' + 1, _, by omega, by go_num, rfl⟩
          case measure => simp [intOf]; omega
        · go_wp2
          go_ret
          exact ⟨rfl, by rw [hg0.out]; exact below_drewN B6 _⟩

set_option maxRecDepth 100000 in
set_option maxHeartbeats 4000000 in
theorem walk_false_ill (a b : ByteArray) (ha : a.size ≤ maxLen) (hb : b.size ≤ maxLen) (hw : well a = false) (w : World) :
    Calls Try.prog 3 #[.string a, .string b, .bool false] w fun e w' => e = .returned (.bool true) ∧ Below w.heap.size w w' := by
  have ha' := ha
  have hb' := hb
  unfold maxLen at ha' hb'
  have hsn := same23n
  have hsz : (a ++ b).size = a.size + b.size := ByteArray.size_append
  have HW : Hid (well a = false) := hw
  clear hw
  obtain ⟨g0, hg0⟩ : ∃ g, Hid (w.heap.size = g) := ⟨_, rfl⟩
  go_enter Try.func3, Try.ntmps3
  go_wp2_with (first
    | (go_at_call 5; refine (bytes_any _ _ _ ha hb _).mono ?_; rintro e w' ⟨⟨b0, rfl⟩, hw'⟩; obtain rfl := hw'.symm; clear hw')
    | (go_at_call 6; refine (builder_at _ g0 hg0).mono ?_; rintro e w1 ⟨rfl, B1, hz1⟩))
  all_goals first
    | (go_ret; exact ⟨rfl, Below.refl _ _⟩)
    | skip
  have sa : a.size ≤ 1048576 := by omega
  have sb : b.size ≤ 1048576 := by omega
  have sab : (a ++ b).size ≤ 1048576 := by omega
  have la := runes_len a
  have lb := runes_len b
  have lab := runes_len (a ++ b)
  obtain ⟨A, HA⟩ : ∃ L, Hid (runes a = L) := ⟨_, rfl⟩
  obtain ⟨C, HC⟩ : ∃ L, Hid (runes b = L) := ⟨_, rfl⟩
  have hA : A.length ≤ 1048576 := by rw [← HA.out]; omega
  have hC : C.length ≤ 1048576 := by rw [← HC.out]; omega
  have DA := decode_at' a sa
  have DC := decode_at' b sb
  have NA := fun q => new_at a q sa
  have NC := fun q => new_at b q sb
  have NM := fun q => new_at (a ++ b) q sab
  obtain ⟨M, HM⟩ : ∃ L, Hid (runes (a ++ b) = L) := ⟨_, rfl⟩
  have hM : M.length ≤ 1048576 := by rw [← HM.out]; omega
  have DM := decode_at' (a ++ b) sab
  rw [HM.out] at DM NM
  have DM' : Hid _ := DM
  clear DM HM
  rw [HA.out, HW.out] at DA
  rw [HA.out] at NA
  rw [HC.out] at DC NC
  have DA' : Hid _ := DA
  have DC' : Hid _ := DC
  have NA' : Hid _ := NA
  have NC' : Hid _ := NC
  have NM' : Hid _ := NM
  clear DA DC NA NC NM la lb lab HA HC HW
  obtain ⟨ga, hga⟩ : ∃ g, Hid (w1.heap.size = g) := ⟨_, rfl⟩
  have i1 : g0 + 1 ≤ ga := by have := hga.out; omega
  refine (NA'.out _ w1 ga hga).mono ?_
  rintro e w2 ⟨rfl, ra, ma, na, ⟨ca, pa⟩, b2, hz2⟩
  have B2 : Below g0 w w2 := B1.trans (b2.mono (by omega))
  clear B1 b2 hga hz1
  go_wp2_with fail
  obtain ⟨gb, hgb⟩ : ∃ g, Hid (w2.heap.size = g) := ⟨_, rfl⟩
  have i2 : ga + 4 ≤ gb := by have := hgb.out; omega
  refine (NC'.out _ w2 gb hgb).mono ?_
  rintro e w3 ⟨rfl, rb, mb, nb, ⟨cb, pb⟩, b3, hz3⟩
  replace ra := ra.kept (b3.block _ (by omega))
  replace ma := ma.kept (b3.block _ (by omega))
  replace na := na.kept (b3.block _ (by omega))
  replace pa := pa.kept (b3.block _ (by omega))
  have B3 : Below g0 w w3 := B2.trans (b3.mono (by omega))
  clear B2 b3 hgb hz2
  go_wp2_with fail
  obtain ⟨gm, hgm⟩ : ∃ g, Hid (w3.heap.size = g) := ⟨_, rfl⟩
  have i3 : gb + 4 ≤ gm := by have := hgm.out; omega
  refine (NM'.out _ w3 gm hgm).mono ?_
  rintro e w4 ⟨rfl, rm, mm, nm, ⟨cm, pm⟩, b4, hz4⟩
  replace ra := ra.kept (b4.block _ (by omega))
  replace ma := ma.kept (b4.block _ (by omega))
  replace na := na.kept (b4.block _ (by omega))
  replace pa := pa.kept (b4.block _ (by omega))
  replace rb := rb.kept (b4.block _ (by omega))
  replace mb := mb.kept (b4.block _ (by omega))
  replace nb := nb.kept (b4.block _ (by omega))
  replace pb := pb.kept (b4.block _ (by omega))
  have B4 : Below g0 w w4 := B3.trans (b4.mono (by omega))
  clear B3 b4 hgm hz3
  go_wp2_with (first
    | (go_at_call 8; (with_reducible refine (fresh_any _ ga A.length ca none pa ma na).mono ?_); rintro e w' ⟨rfl, hw'⟩; obtain rfl := hw'.symm; clear hw')
    | (go_at_call 8; (with_reducible refine (fresh_any _ gb C.length cb none pb mb nb).mono ?_); rintro e w' ⟨rfl, hw'⟩; obtain rfl := hw'.symm; clear hw')
    | (go_at_call 8; (with_reducible refine (fresh_any _ gm M.length cm none pm mm nm).mono ?_); rintro e w' ⟨rfl, hw'⟩; obtain rfl := hw'.symm; clear hw')
    | (go_at_call 9; (with_reducible refine (out_any _ ga A.length ca none pa).mono ?_); rintro e w' ⟨rfl, hw'⟩; obtain rfl := hw'.symm; clear hw')
    | (go_at_call 9; (with_reducible refine (out_any _ gb C.length cb none pb).mono ?_); rintro e w' ⟨rfl, hw'⟩; obtain rfl := hw'.symm; clear hw')
    | (go_at_call 9; (with_reducible refine (out_any _ gm M.length cm none pm).mono ?_); rintro e w' ⟨rfl, hw'⟩; obtain rfl := hw'.symm; clear hw'))
  obtain ⟨gx, hgx⟩ : ∃ g, Hid (w4.heap.size = g) := ⟨_, rfl⟩
  have i4 : gm + 4 ≤ gx := by have := hgx.out; omega
  refine (DA'.out w4 gx hgx).mono ?_
  rintro e w5 ⟨rfl, rx, b5, hz5⟩
  replace ra := ra.kept (b5.block _ (by omega))
  replace pa := pa.kept (b5.block _ (by omega))
  replace rb := rb.kept (b5.block _ (by omega))
  replace pb := pb.kept (b5.block _ (by omega))
  replace rm := rm.kept (b5.block _ (by omega))
  replace pm := pm.kept (b5.block _ (by omega))
  have B5 : Below g0 w w5 := B4.trans (b5.mono (by omega))
  clear B4 b5 hgx hz4 ma na mb nb mm nm
  go_wp2_with fail
  obtain ⟨gy, hgy⟩ : ∃ g, Hid (w5.heap.size = g) := ⟨_, rfl⟩
  have i5 : gx + 1 ≤ gy := by have := hgy.out; omega
  refine (DC'.out w5 gy hgy).mono ?_
  rintro e w6 ⟨rfl, ry, b6, hz6⟩
  replace ra := ra.kept (b6.block _ (by omega))
  replace pa := pa.kept (b6.block _ (by omega))
  replace rb := rb.kept (b6.block _ (by omega))
  replace pb := pb.kept (b6.block _ (by omega))
  replace rm := rm.kept (b6.block _ (by omega))
  replace pm := pm.kept (b6.block _ (by omega))
  replace rx := rx.kept (b6.block _ (by omega))
  have B6 : Below g0 w w6 := B5.trans (b6.mono (by omega))
  clear B5 b6 hgy hz5 DA' DC' NA' NC' NM'
  go_wp2_with (first
    | (go_at_call 11; (with_reducible refine (src_any _ ga A.length ca none pa).mono ?_); rintro e w' ⟨rfl, hw'⟩; obtain rfl := hw'.symm; clear hw')
    | (go_at_call 11; (with_reducible refine (src_any _ gb C.length cb none pb).mono ?_); rintro e w' ⟨rfl, hw'⟩; obtain rfl := hw'.symm; clear hw')
    | (go_at_call 11; (with_reducible refine (src_any _ gm M.length cm none pm).mono ?_); rintro e w' ⟨rfl, hw'⟩; obtain rfl := hw'.symm; clear hw')
    | (go_at_call 12; (with_reducible refine (equal_any A ga gx ca _ hA _ ?_ ?_).mono ?_); exact ra; exact rx; rintro e w' ⟨rfl, n8, rfl⟩)
    | (go_at_call 12; (with_reducible refine (equal_any C gb gy cb _ hC _ ?_ ?_).mono ?_); exact rb; exact ry; rintro e w' ⟨rfl, n9, rfl⟩))
  obtain ⟨gz, hgz⟩ : ∃ g, Hid (w6.heap.size = g) := ⟨_, rfl⟩
  have i6 : gy + 1 ≤ gz := by have := hgz.out; omega
  refine (DM'.out _ gz ?_).mono ?_
  · exact hgz
  rintro e w7 ⟨rfl, rz, b7, hz7⟩
  replace rm := rm.kept (b7.block _ (by omega))
  have B7 : Below g0 w w7 := (below_drewN B6 _).trans (b7.mono (by omega))
  clear B6 b7 hgz hz6
  go_wp2_with (go_at_call 12; (with_reducible refine (equal_any M gm gz cm _ hM _ ?_ ?_).mono ?_); exact rm; exact rz; rintro e w' ⟨rfl, n10, rfl⟩)
  go_ret
  exact ⟨rfl, by rw [hg0.out]; exact below_drewN B7 _⟩

theorem walk (a0 a1 : ByteArray) (a2 : Bool) (w0 : a0.size ≤ maxLen) (w1 : a1.size ≤ maxLen) (w : World) :
    Calls Try.prog 3 #[.string a0, .string a1, .bool a2] w fun e w' => e = .returned (.bool true) ∧ Below w.heap.size w w' := by
  cases hw : well a0
  · cases a2
    · exact walk_false_ill a0 a1 w0 w1 hw w
    · exact walk_true_ill a0 a1 w0 w1 hw w
  · cases a2
    · exact walk_false_well a0 a1 w0 w1 hw w
    · exact walk_true_well a0 a1 w0 w1 hw w

theorem own : ownKnob Try.prog.godebug = none := by kernel_rfl

set_option maxRecDepth 100000 in
theorem lifted (os : Os) (started : os.Started) (H : Type) (enc : TypeId × Value → H) :
    ReturnsInHanded {} Try.checked os 3 .any (Rows.fnNewECMAParserReadsCodePointsAndJoinsSpec.pre6 enc Try.prog Try.f3 Rows.fnNewECMAParserReadsCodePointsAndJoinsRow.domain false) (Rows.fnNewECMAParserReadsCodePointsAndJoinsSpec.post enc Try.prog Try.f3 false true false false) := by
  refine returnsInHanded_of_change (C := Try.checked) own started (by kernel_rfl) Try.func3
    (ChangeSpec.witness6 (enc := enc) (C := Try.checked) false ⟨#[], #[.string ByteArray.empty, .string ByteArray.empty, .bool false], []⟩ 8 (by kernel_rfl) (by kernel_rfl) (by kernel_rfl) (by kernel_rfl)) ?_
  intro W base args ds gs before hval0 hW hcnd _
  have hval : ∀ (j : Nat) t v, Try.f3.params[j]? = some t → args[j]? = some v → Value.okWide Try.prog W .any base t v := hval0
  have hW' := hW
  obtain ⟨p, q, hA0, hV, rfl, hfz, hnd⟩ := hW
  have hA : DataW.TrodAll enc Try.prog W 0 (fun _ => true) true Try.f3.params.toList args.toList ds p := hA0
  rw [Try.params3] at hA hval
  obtain ⟨v0, vs0, d0, ds0, p0, q0, hargs, rfl, rfl, h0, r0⟩ := trodAll_cons hA
  obtain ⟨v1, vs1, d1, ds1, p1, q1, rfl, rfl, rfl, h1, r1⟩ := trodAll_cons r0
  obtain ⟨v2, vs2, d2, ds2, p2, q2, rfl, rfl, rfl, h2, r2⟩ := trodAll_cons r1
  obtain ⟨rfl, rfl, rfl⟩ := trodAll_nil r2
  obtain rfl : args = #[v0, v1, v2] := by cases args; simp_all
  obtain ⟨rfl, rfl⟩ := trodVars_none hV
  obtain ⟨a0, rfl, rfl, rfl, w0⟩ := open_string Try.underlying9 (hval 0 9 v0 rfl rfl) h0
  obtain ⟨a1, rfl, rfl, rfl, w1⟩ := open_string Try.underlying9 (hval 1 9 v1 rfl rfl) h1
  obtain ⟨a2, rfl, rfl, rfl⟩ := open_bool Try.underlying4 (hval 2 4 v2 rfl rfl) h2
  clear hA0 hval0
  refine (walk a0 a1 a2 w0 w1 W).mono fun e W' ⟨he, bel⟩ => ?_
  subst he
  exact ⟨_, rfl, _, _, _, [], _, [], hW', trodAll_mk1 (shut_bool Try.underlying4 _), (trodAll_cons_mk (shut_string Try.underlying9 w0) (trodAll_cons_mk (shut_string Try.underlying9 w1) (trodAll_cons_mk (shut_bool Try.underlying4 _) trodAll_mk0))), rfl, bel.frame _, fun h => by cases h⟩

theorem over : Rows.fnNewECMAParserReadsCodePointsAndJoinsRow.holds Try.pinned (OpenSpec.ofChange Rows.fnNewECMAParserReadsCodePointsAndJoinsSpec) :=
  OpenClaim.holds_of_wide 3 Try.f3 rfl rfl rfl rfl rfl rfl rfl ⟨rfl, rfl, rfl, rfl, rfl⟩ rfl rfl rfl rfl rfl (by kernel_rfl) Try.func3 (by kernel_rfl)
    (of_decide_eq_true (by kernel_rfl)) (by unfold Func.isWrapper; first | (rw [if_pos (by decide +kernel)]; kernel_rfl) | (rw [if_neg (by decide +kernel)]; exact ⟨rfl, rfl⟩))
    (fun os started H enc _ => lifted os started H enc)

/-- ████ THE STATEMENT ████ -/
theorem proved : Rows.FnNewECMAParserReadsCodePointsAndJoinsSaid :=
  over
#print axioms proved
end Go.Proofs.Qxb6613280a.fnNewECMAParserReadsCodePointsAndJoins
