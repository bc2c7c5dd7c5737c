/-
  THE LAW 'FnInSomeGroupInsertAddsTwenty'.
-/
import Derived.Test.Qxb6613218aRow
import Derived.ProofKit
import Derived.OpenShut
import Derived.ShutString
import Derived.ChangeOld
import Derived.Below
import Derived.SliceStrings
namespace Go.Proofs.Qxb6613218a.fnInSomeGroupInsertAddsTwenty
open Go.ChangeShapes Go.WideShapes Go.ChangeAt Go.RowKit
open Go.ChangeMaps (open_string shut_string)

theorem info9 : (Try.prog.info? 9).map (fun i => (i.zero, i.size, i.bytes)) = some (some (.string ByteArray.empty), 1, 16) := by kernel_rfl

set_option maxHeartbeats 1000000 in
/-- The place lies outside the list, or a guard says no: true at once. -/
theorem walk_out (a0 : Option Addr) (len cap : Nat) (i : Int) (s : ByteArray) (w : World) (h : IsStrs w a0 len cap) (hm : len ≤ maxLen) (hs : s.size ≤ maxLen) (hout : i < 0 ∨ (len : Int) < i) :
    Calls Try.prog 7 #[.slice a0 len cap, .int .i64 i, .string s] w fun e w' => e = .returned (.bool true) ∧ Below w.heap.size w w' := by
  have H : Hid (IsStrs w a0 len cap) := h
  clear h
  have hs' := hs
  unfold maxLen at hs' hm
  rcases hout with hout | hout
  all_goals
    go_enter Try.func7, Try.ntmps7
    go_wp2_with (first
      | (go_at_call 17; refine (bytes17_any _ _ _ _ _ _ H.out hs).mono ?_; rintro e w' ⟨⟨b, rfl⟩, hw'⟩; obtain rfl := hw'.symm; clear hw')
      | (go_at_call 13; refine (within_any _ _ _ _ _ H.out (by omega)).mono ?_; rintro e w' ⟨⟨b, rfl⟩, hw'⟩; obtain rfl := hw'.symm; clear hw'))
    all_goals (go_ret; exact ⟨rfl, Below.refl _ _⟩)

set_option maxHeartbeats 2000000 in
/-- A list that is not nil. -/
theorem walk_some (x : Addr) (len cap m : Nat) (s : ByteArray) (w : World) (hlc : len ≤ cap) (hm : cap ≤ maxLen) (hc : ∀ i, i < len → ∃ s : ByteArray, w.cell? (x.add i) = some (.string s) ∧ s.size ≤ maxLen) (hs : s.size ≤ maxLen) (hml : m ≤ len) :
    Calls Try.prog 7 #[.slice (some x) len cap, .int .i64 m, .string s] w fun e w' => e = .returned (.bool true) ∧ Below w.heap.size w w' := by
  have hnil := fun (w : World) (a : Option Addr) (n c n' c' : Nat) => run_neq_slice_nil_any (P := Try.prog) w 29 9 a n c n' c' Try.underlying29
  obtain ⟨i0, hi, hz0, hz1, hz2⟩ := info_parts info9
  have H : Hid (IsStrs w (some x) len cap) := Or.inr ⟨x, rfl, hlc, hm, hc⟩
  have HC : Hid (∀ i, i < len → ∃ s : ByteArray, w.cell? (x.add i) = some (.string s) ∧ s.size ≤ maxLen) := hc
  clear hc
  have hs' := hs
  unfold maxLen at hs' hm
  go_enter Try.func7, Try.ntmps7
  go_wp2_with (first
    | (go_at_call 17; refine (bytes17_any _ _ _ _ _ _ H.out hs).mono ?_; rintro e w' ⟨⟨b, rfl⟩, hw'⟩; obtain rfl := hw'.symm; clear hw')
    | (go_at_call 13; refine (within_any _ _ _ _ _ H.out (by omega)).mono ?_; rintro e w' ⟨⟨b, rfl⟩, hw'⟩; obtain rfl := hw'.symm; clear hw')
    | (at_make; refine wpList_make_full _ rfl (.tmp 39) (.tmp 39) 29 rfl w.heap.size 9 i0 (.string ByteArray.empty) 1 Try.underlying29 hi hz0 hz1 .i64 .i64 _ _ len rfl rfl rfl rfl (by rw [hz2]; omega) (by unfold maxLen; omega) (Nat.le_refl _) ?_; intro w1 hown1 hgrow1; obtain ⟨w2, hcp, hrow2, hbel2⟩ := copy_step (cap := cap) HC.out ((Below.refl _ _).grown hgrow1 (Nat.le_refl _) (by simp)) (StrRow.made hown1) ((Below.refl _ _).grown hgrow1 (Nat.le_refl _) (by simp)) (Nat.le_refl _); clear hown1 hgrow1)
    | (at_make; refine wpList_make_full _ rfl (.tmp 47) (.tmp 47) 29 rfl w.heap.size 9 i0 (.string ByteArray.empty) 1 Try.underlying29 hi hz0 hz1 .i64 .i64 _ _ (len + 1) rfl rfl (by omega) (by omega) (by rw [hz2]; omega) (by unfold maxLen; omega) hbel2.size ?_; intro w3 hown3 hgrow3))
  all_goals first
    | (go_ret; exact ⟨rfl, Below.refl _ _⟩)
    | skip
  have hr1 : StrRow w3 w.heap.size len := hrow2.kept hgrow3
  have hr2 : StrRow w3 w2.heap.size (len + 1) := StrRow.made hown3
  have hb3 : Below w.heap.size w w3 := hbel2.grown hgrow3 hbel2.size (by simp)
  have hne : w.heap.size < w2.heap.size := hrow2.lt
  clear hown3 hgrow3 hcp hrow2 hbel2
  go_loopw [9] (fun j wr => ∃ k : Nat, k ≤ m ∧ j = .int .i64 k ∧ StrRow wr w.heap.size len ∧ StrRow wr w2.heap.size (len + 1) ∧ Below w.heap.size w wr) (fun j _ => m - (intOf j).toNat)
  case atStart => exact ⟨0, Nat.zero_le _, rfl, hr1, hr2, hb3⟩
  case round =>
    obtain ⟨k, hk, rfl, q1, q2, q3⟩ := hrel
    by_cases hlt : k < m
    · obtain ⟨t, ht⟩ := q1.cell (j := k) (by omega)
      obtain ⟨t', ht'⟩ := q2.cell (j := k) (by omega)
      have hf := q2.free k
      go_wp2
      go_roundw
      case rel => exact ⟨k + 1, by omega, by go_num, q1.other (by omega) _ _, q2.set _ _, q3.setCell (by simp; omega) _⟩
      case measure => simp [intOf]; omega
    · obtain ⟨t', ht'⟩ := q2.cell (j := m) (by omega)
      have hf := q2.free m
      go_wp2
      have r1 := q1.other (g' := w2.heap.size) (by omega) m (.string s)
      have r2 := q2.set m s
      have r3 : Below w.heap.size w (wr.setCell ⟨w2.heap.size, m, none⟩ (.string s)) := q3.setCell (by simp; omega) _
      clear q1 q2 q3 ht' hf
      go_loopw [10] (fun j wr => ∃ k : Nat, m ≤ k ∧ k ≤ len ∧ j = .int .i64 k ∧ StrRow wr w.heap.size len ∧ StrRow wr w2.heap.size (len + 1) ∧ Below w.heap.size w wr) (fun j _ => len - (intOf j).toNat)
      case atStart => exact ⟨m, Nat.le_refl _, hml, rfl, r1, r2, r3⟩
      case round =>
        obtain ⟨k', hk1, hk2, rfl, q1, q2, q3⟩ := hrel
        by_cases hlt : k' < len
        · obtain ⟨t, ht⟩ := q1.cell (j := k') (by omega)
          obtain ⟨t', ht'⟩ := q2.cell (j := k' + 1) (by omega)
          have hf := q2.free (k' + 1)
          go_wp2
          go_roundw
          case rel => exact ⟨k' + 1, by omega, by omega, by go_num, q1.other (by omega) _ _, q2.set _ _, q3.setCell (by simp; omega) _⟩
          case measure => simp [intOf]; omega
        · go_wp2_with (go_at_call 15; refine (points20 _ _ _ (by omega) _).mono ?_; rintro e w' ⟨rfl, hw'⟩; obtain rfl := hw'.symm; clear hw')
          go_ret
          exact ⟨by simp; omega, q3⟩

set_option maxHeartbeats 1000000 in
/-- The nil list. -/
theorem walk_nil (s : ByteArray) (w : World) (hs : s.size ≤ maxLen) :
    Calls Try.prog 7 #[.slice none 0 0, .int .i64 0, .string s] w fun e w' => e = .returned (.bool true) ∧ Below w.heap.size w w' := by
  have hnil := fun (w : World) (a : Option Addr) (n c n' c' : Nat) => run_neq_slice_nil_any (P := Try.prog) w 29 9 a n c n' c' Try.underlying29
  obtain ⟨i0, hi, hz0, hz1, hz2⟩ := info_parts info9
  have H : Hid (IsStrs w none 0 0) := Or.inl ⟨rfl, rfl, rfl⟩
  have hs' := hs
  unfold maxLen at hs'
  go_enter Try.func7, Try.ntmps7
  go_wp2_with (first
    | (go_at_call 17; refine (bytes17_any _ _ _ _ _ _ H.out hs).mono ?_; rintro e w' ⟨⟨b, rfl⟩, hw'⟩; obtain rfl := hw'.symm; clear hw')
    | (go_at_call 13; refine (within_any _ _ _ _ _ H.out (by omega)).mono ?_; rintro e w' ⟨⟨b, rfl⟩, hw'⟩; obtain rfl := hw'.symm; clear hw')
    | (at_make; refine wpList_make_full _ rfl (.tmp 47) (.tmp 47) 29 rfl w.heap.size 9 i0 (.string ByteArray.empty) 1 Try.underlying29 hi hz0 hz1 .i64 .i64 _ _ 1 rfl rfl (by omega) (by omega) (by rw [hz2]; omega) (by unfold maxLen; omega) (Nat.le_refl _) ?_; intro w3 hown3 hgrow3; obtain ⟨t', ht'⟩ := (StrRow.made hown3).cell (j := 0) (by omega); have hf := (StrRow.made hown3).free 0))
  all_goals first
    | (go_ret; exact ⟨rfl, Below.refl _ _⟩)
    | skip
  have hb3 : Below w.heap.size w w3 := (Below.refl _ _).grown hgrow3 (Nat.le_refl _) (by simp)
  clear hown3 hgrow3
  refine wp_loop_rounds 1 ?_
  rw [rounds_succ]
  go_wp2
  refine wp_loop_rounds 1 ?_
  rw [rounds_succ]
  go_wp2_with (go_at_call 15; refine (points20 _ _ _ (by omega) _).mono ?_; rintro e w' ⟨rfl, hw'⟩; obtain rfl := hw'.symm; clear hw')
  go_ret
  exact ⟨rfl, hb3.setCell (Nat.le_refl _) _⟩

theorem walk (a0 : Option Addr) (len cap : Nat) (i : Int) (s : ByteArray) (w : World) (h : IsStrs w a0 len cap) (hs : s.size ≤ maxLen) :
    Calls Try.prog 7 #[.slice a0 len cap, .int .i64 i, .string s] w fun e w' => e = .returned (.bool true) ∧ Below w.heap.size w w' := by
  have hlen : len ≤ maxLen := by
    rcases h with ⟨_, rfl, _⟩ | ⟨_, _, h1, h2, _⟩
    · exact Nat.zero_le _
    · exact Nat.le_trans h1 h2
  by_cases hin : 0 ≤ i ∧ i ≤ (len : Int)
  · obtain ⟨m, rfl⟩ := Int.eq_ofNat_of_zero_le hin.1
    rcases h with ⟨rfl, rfl, rfl⟩ | ⟨x, rfl, hlc, hm, hc⟩
    · obtain rfl : m = 0 := by omega
      exact walk_nil s w hs
    · exact walk_some x len cap m s w hlc hm hc hs (by omega)
  · exact walk_out a0 len cap i s w h hlen hs (by omega)

theorem own : ownKnob Try.prog.godebug = none := by kernel_rfl
theorem laidOut : laidOutB Try.prog = true := by kernel_rfl

set_option maxRecDepth 100000 in
theorem lifted (os : Os) (started : os.Started) (H : Type) (enc : TypeId × Value → H) :
    ReturnsInHanded {} Try.checked os 7 .any (Rows.fnInSomeGroupInsertAddsTwentySpec.pre6 enc Try.prog Try.f7 Rows.fnInSomeGroupInsertAddsTwentyRow.domain false) (Rows.fnInSomeGroupInsertAddsTwentySpec.post enc Try.prog Try.f7 false true false false) := by
  refine returnsInHanded_of_change (C := Try.checked) own started (by kernel_rfl) Try.func7
    (ChangeSpec.witness6 (enc := enc) (C := Try.checked) false ⟨#[], #[.slice none 0 0, .int .i64 0, .string ByteArray.empty], []⟩ 8 (by kernel_rfl) (by kernel_rfl) (by kernel_rfl) (by kernel_rfl)) ?_
  intro W base args ds gs before hval0 hW hcnd _
  have hval : ∀ (j : Nat) t v, Try.f7.params[j]? = some t → args[j]? = some v → Value.okWide Try.prog W .any base t v := hval0
  have hW' := hW
  obtain ⟨p, q, hA0, hV, rfl, hfz, hnd⟩ := hW
  have hA : DataW.TrodAll enc Try.prog W 0 (fun _ => true) true Try.f7.params.toList args.toList ds p := hA0
  rw [Try.params7] at hA hval
  obtain ⟨v0, vs0, d0, ds0, p0, q0, hargs, rfl, rfl, h0, r0⟩ := trodAll_cons hA
  obtain ⟨v1, vs1, d1, ds1, p1, q1, rfl, rfl, rfl, h1, r1⟩ := trodAll_cons r0
  obtain ⟨v2, vs2, d2, ds2, p2, q2, rfl, rfl, rfl, h2, r2⟩ := trodAll_cons r1
  obtain ⟨rfl, rfl, rfl⟩ := trodAll_nil r2
  obtain rfl : args = #[v0, v1, v2] := by cases args; simp_all
  obtain ⟨rfl, rfl⟩ := trodVars_none hV
  obtain ⟨a0, len0, cap0, rfl⟩ := okWide_slice Try.underlying29 (hval 0 29 v0 rfl rfl)
  have k0 := h0
  have lt0 : ∀ x ∈ p0, x.block < W.heap.size := by obtain ⟨m, hm⟩ := k0; exact DataW.trod_lt m _ _ _ hm
  have w0 : IsStrs W a0 len0 cap0 := by
    obtain ⟨fuel, hf⟩ := h0
    rcases open_strings Try.underlying29 Try.underlying9 (by kernel_rfl) hf with ⟨hcs, _⟩ | ⟨x, l, c, ss, hcs, _, hl, hm, hz, _, hcell, hsz⟩
    · simp [Value.cells] at hcs
      obtain ⟨rfl, rfl, rfl⟩ := hcs
      exact .inl ⟨rfl, rfl, rfl⟩
    · simp [Value.cells] at hcs
      obtain ⟨rfl, rfl, rfl⟩ := hcs
      have hz' : ss.length = cap0 := by simpa using hz
      refine .inr ⟨_, rfl, hl, hm, fun i hi => ⟨_, hcell i (by omega), ?_⟩⟩
      have hi' : i < ss.length := by omega
      rw [List.getD_eq_getElem?_getD, List.getElem?_eq_getElem hi']
      exact hsz _ (List.getElem_mem hi')
  obtain ⟨a1, rfl, rfl, rfl, w1⟩ := open_int Try.underlying3 (hval 1 3 v1 rfl rfl) h1
  obtain ⟨a2, rfl, rfl, rfl, w2⟩ := open_string Try.underlying9 (hval 2 9 v2 rfl rfl) h2
  clear hA0 hval0
  refine (walk a0 len0 cap0 a1 a2 W w0 w2).mono fun e W' ⟨he, bel⟩ => ?_
  subst he
  exact ⟨_, rfl, _, _, _, [], _, [], hW', trodAll_mk1 (shut_bool Try.underlying4 _), (trodAll_cons_mk (Below.trod laidOut (by kernel_rfl) (of_decide_eq_true (by kernel_rfl)) k0 bel lt0) (trodAll_cons_mk (shut_int Try.underlying3 w1) (trodAll_cons_mk (shut_string Try.underlying9 w2) trodAll_mk0))), rfl, bel.frame _, fun h => by cases h⟩

theorem over : Rows.fnInSomeGroupInsertAddsTwentyRow.holds Try.pinned (OpenSpec.ofChange Rows.fnInSomeGroupInsertAddsTwentySpec) :=
  OpenClaim.holds_of_wide 7 Try.f7 rfl rfl rfl rfl rfl rfl rfl ⟨rfl, rfl, rfl, rfl, rfl⟩ rfl rfl rfl rfl rfl (by kernel_rfl) Try.func7 (by kernel_rfl)
    (of_decide_eq_true (by kernel_rfl)) (by unfold Func.isWrapper; first | (rw [if_pos (by decide +kernel)]; kernel_rfl) | (rw [if_neg (by decide +kernel)]; exact ⟨rfl, rfl⟩))
    (fun os started H enc _ => lifted os started H enc)

/-- THE STATEMENT -/
theorem proved : Rows.FnInSomeGroupInsertAddsTwentySaid := over
#print axioms proved
end Go.Proofs.Qxb6613218a.fnInSomeGroupInsertAddsTwenty
