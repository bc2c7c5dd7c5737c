/-
  THE LAW 'FnCapabilitiesOutscoreGroupsAtAnyCut'.
-/
import Derived.Test.Qxb6613218aRow
import Derived.ProofKit
import Derived.OpenShut
import Derived.ShutString
import Derived.ChangeOld
import Derived.Below
import Derived.SliceStrings
import Derived.Deep.QuietTactic
import Derived.BigQuiet
namespace Go.Proofs.Qxb6613218a.fnCapabilitiesOutscoreGroupsAtAnyCut
open Go.ChangeShapes Go.WideShapes Go.ChangeAt Go.RowKit

theorem info9 : (Try.prog.info? 9).map (fun i => (i.zero, i.size, i.bytes)) = some (some (.string ByteArray.empty), 1, 16) := by kernel_rfl

set_option maxHeartbeats 1000000 in
/-- The place lies outside the list, or a guard says no: true at once. -/
theorem walk_out (a0 : Option Addr) (len cap : Nat) (i : Int) (w : World) (h : IsStrs w a0 len cap) (hm : len ≤ maxLen) (hout : i < 0 ∨ (len : Int) < i) :
    Calls Try.prog 5 #[.slice a0 len cap, .int .i64 i] w fun e w' => e = .returned (.bool true) ∧ Below w.heap.size w w' := by
  have H : Hid (IsStrs w a0 len cap) := h
  clear h
  unfold maxLen at hm
  rcases hout with hout | hout
  all_goals
    go_enter Try.func5, Try.ntmps5
    go_wp2_with (first
      | (go_at_call 12; refine (bytes12_any _ _ _ _ _ H.out).mono ?_; rintro e w' ⟨⟨b, rfl⟩, hw'⟩; obtain rfl := hw'.symm; clear hw')
      | (go_at_call 13; refine (within_any _ _ _ _ _ H.out (by omega)).mono ?_; rintro e w' ⟨⟨b, rfl⟩, hw'⟩; obtain rfl := hw'.symm; clear hw'))
    all_goals (go_ret; exact ⟨rfl, Below.refl _ _⟩)

set_option maxHeartbeats 2000000 in
/-- A list that is not nil. -/
theorem walk_some (x : Addr) (len cap m : Nat) (w : World) (hlc : len ≤ cap) (hm : cap ≤ maxLen) (hc : ∀ i, i < len → ∃ s : ByteArray, w.cell? (x.add i) = some (.string s) ∧ s.size ≤ maxLen) (hml : m ≤ len) :
    Calls Try.prog 5 #[.slice (some x) len cap, .int .i64 m] w fun e w' => e = .returned (.bool true) ∧ Below w.heap.size w w' := by
  have hnil := fun (w : World) (a : Option Addr) (n c n' c' : Nat) => run_neq_slice_nil_any (P := Try.prog) w 29 9 a n c n' c' Try.underlying29
  obtain ⟨i0, hi, hz0, hz1, hz2⟩ := info_parts info9
  have H : Hid (IsStrs w (some x) len cap) := Or.inr ⟨x, rfl, hlc, hm, hc⟩
  have HC : Hid (∀ i, i < len → ∃ s : ByteArray, w.cell? (x.add i) = some (.string s) ∧ s.size ≤ maxLen) := hc
  clear hc
  unfold maxLen at hm
  go_enter Try.func5, Try.ntmps5
  go_wp2_with (first
    | (go_at_call 12; refine (bytes12_any _ _ _ _ _ H.out).mono ?_; rintro e w' ⟨⟨b, rfl⟩, hw'⟩; obtain rfl := hw'.symm; clear hw')
    | (go_at_call 13; refine (within_any _ _ _ _ _ H.out (by omega)).mono ?_; rintro e w' ⟨⟨b, rfl⟩, hw'⟩; obtain rfl := hw'.symm; clear hw')
    | (at_make; refine wpList_make_full _ rfl (.tmp 29) (.tmp 29) 29 rfl w.heap.size 9 i0 (.string ByteArray.empty) 1 Try.underlying29 hi hz0 hz1 .i64 .i64 _ _ len rfl rfl rfl rfl (by rw [hz2]; omega) (by unfold maxLen; omega) (Nat.le_refl _) ?_; intro w1 hown1 hgrow1; obtain ⟨w2, hcp, hrow2, hbel2⟩ := copy_step (cap := cap) HC.out ((Below.refl _ _).grown hgrow1 (Nat.le_refl _) (by simp)) (StrRow.made hown1) ((Below.refl _ _).grown hgrow1 (Nat.le_refl _) (by simp)) (Nat.le_refl _); clear hown1 hgrow1)
    | (go_at_call 14; refine (points25 _ _ _ (by omega) _).mono ?_; rintro e w' ⟨rfl, hw'⟩; obtain rfl := hw'.symm; clear hw')
    | (go_at_call 15; refine (points20 _ _ _ (by omega) _).mono ?_; rintro e w' ⟨rfl, hw'⟩; obtain rfl := hw'.symm; clear hw'))
  all_goals first
    | (go_ret; exact ⟨rfl, Below.refl _ _⟩)
    | skip
  go_quiet ((go_at_call 14; exact Calls.quiet_of_same (points25 _ _ _ (by omega) _)))
  all_goals go_wp2
  all_goals
    generalize hw4 : w2.drewN _ = w4
    have hb4 : Below w.heap.size w w4 := by rw [← hw4]; exact below_drewN hbel2 _
    clear hw4 hbel2
    go_quiet ((go_at_call 15; refine Calls.quiet_of_same (points20 _ _ _ ?_ _); omega))
    all_goals go_wp2
  all_goals (go_ret; exact ⟨by first | rfl | (simp; omega), below_drewN hb4 _⟩)

set_option maxHeartbeats 2000000 in
/-- The nil list. -/
theorem walk_nil (w : World) :
    Calls Try.prog 5 #[.slice none 0 0, .int .i64 0] w fun e w' => e = .returned (.bool true) ∧ Below w.heap.size w w' := by
  have hnil := fun (w : World) (a : Option Addr) (n c n' c' : Nat) => run_neq_slice_nil_any (P := Try.prog) w 29 9 a n c n' c' Try.underlying29
  have H : Hid (IsStrs w none 0 0) := Or.inl ⟨rfl, rfl, rfl⟩
  go_enter Try.func5, Try.ntmps5
  go_wp2_with (first
    | (go_at_call 12; refine (bytes12_any _ _ _ _ _ H.out).mono ?_; rintro e w' ⟨⟨b, rfl⟩, hw'⟩; obtain rfl := hw'.symm; clear hw')
    | (go_at_call 13; refine (within_any _ _ _ _ _ H.out (by omega)).mono ?_; rintro e w' ⟨⟨b, rfl⟩, hw'⟩; obtain rfl := hw'.symm; clear hw')
    | (go_at_call 14; refine (points25 _ _ _ (by omega) _).mono ?_; rintro e w' ⟨rfl, hw'⟩; obtain rfl := hw'.symm; clear hw')
    | (go_at_call 15; refine (points20 _ _ _ (by omega) _).mono ?_; rintro e w' ⟨rfl, hw'⟩; obtain rfl := hw'.symm; clear hw'))
  all_goals first
    | (go_ret; exact ⟨rfl, Below.refl _ _⟩)
    | skip
  go_quiet ((go_at_call 14; refine Calls.quiet_of_same (points25 _ _ _ ?_ _); omega))
  all_goals go_wp2
  all_goals
    generalize hw4 : w.drewN _ = w4
    have hb4 : Below w.heap.size w w4 := by rw [← hw4]; exact below_drewN (Below.refl _ _) _
    clear hw4
    go_quiet ((go_at_call 15; refine Calls.quiet_of_same (points20 _ _ _ ?_ _); omega))
    all_goals go_wp2
  all_goals (go_ret; exact ⟨rfl, below_drewN hb4 _⟩)

theorem walk (a0 : Option Addr) (len cap : Nat) (i : Int) (w : World) (h : IsStrs w a0 len cap) :
    Calls Try.prog 5 #[.slice a0 len cap, .int .i64 i] w fun e w' => e = .returned (.bool true) ∧ Below w.heap.size w w' := by
  have hlen : len ≤ maxLen := by
    rcases h with ⟨_, rfl, _⟩ | ⟨_, _, h1, h2, _⟩
    · exact Nat.zero_le _
    · exact Nat.le_trans h1 h2
  by_cases hin : 0 ≤ i ∧ i ≤ (len : Int)
  · obtain ⟨m, rfl⟩ := Int.eq_ofNat_of_zero_le hin.1
    rcases h with ⟨rfl, rfl, rfl⟩ | ⟨x, rfl, hlc, hm, hc⟩
    · obtain rfl : m = 0 := by omega
      exact walk_nil w
    · exact walk_some x len cap m w hlc hm hc (by omega)
  · exact walk_out a0 len cap i w h hlen (by omega)

theorem own : ownKnob Try.prog.godebug = none := by kernel_rfl
theorem laidOut : laidOutB Try.prog = true := by kernel_rfl

set_option maxRecDepth 100000 in
theorem lifted (os : Os) (started : os.Started) (H : Type) (enc : TypeId × Value → H) :
    ReturnsInHanded {} Try.checked os 5 .any (Rows.fnCapabilitiesOutscoreGroupsAtAnyCutSpec.pre6 enc Try.prog Try.f5 Rows.fnCapabilitiesOutscoreGroupsAtAnyCutRow.domain false) (Rows.fnCapabilitiesOutscoreGroupsAtAnyCutSpec.post enc Try.prog Try.f5 false true false false) := by
  refine returnsInHanded_of_change (C := Try.checked) own started (by kernel_rfl) Try.func5
    (ChangeSpec.witness6 (enc := enc) (C := Try.checked) false ⟨#[], #[.slice none 0 0, .int .i64 0], []⟩ 8 (by kernel_rfl) (by kernel_rfl) (by kernel_rfl) (by kernel_rfl)) ?_
  intro W base args ds gs before hval0 hW hcnd _
  have hval : ∀ (j : Nat) t v, Try.f5.params[j]? = some t → args[j]? = some v → Value.okWide Try.prog W .any base t v := hval0
  have hW' := hW
  obtain ⟨p, q, hA0, hV, rfl, hfz, hnd⟩ := hW
  have hA : DataW.TrodAll enc Try.prog W 0 (fun _ => true) true Try.f5.params.toList args.toList ds p := hA0
  rw [Try.params5] at hA hval
  obtain ⟨v0, vs0, d0, ds0, p0, q0, hargs, rfl, rfl, h0, r0⟩ := trodAll_cons hA
  obtain ⟨v1, vs1, d1, ds1, p1, q1, rfl, rfl, rfl, h1, r1⟩ := trodAll_cons r0
  obtain ⟨rfl, rfl, rfl⟩ := trodAll_nil r1
  obtain rfl : args = #[v0, v1] := by cases args; simp_all
  obtain ⟨rfl, rfl⟩ := trodVars_none hV
  obtain ⟨a0, len0, cap0, rfl⟩ := okWide_slice Try.underlying29 (hval 0 29 v0 rfl rfl)
  have k0 := h0
  have lt0 : ∀ x ∈ p0, x.block < W.heap.size := by obtain ⟨m, hm⟩ := k0; exact DataW.trod_lt m _ _ _ hm
  have w0 : IsStrs W a0 len0 cap0 := by
    obtain ⟨fuel, hf⟩ := h0
    rcases open_strings Try.underlying29 Try.underlying9 (by kernel_rfl) hf with ⟨hcs, _⟩ | ⟨x, l, c, ss, hcs, _, hl, hm, hz, _, hcell, hsz⟩
    · simp [Value.cells] at hcs
      obtain ⟨rfl, rfl, rfl⟩ := hcs
      exact .inl ⟨rfl, rfl, rfl⟩
    · simp [Value.cells] at hcs
      obtain ⟨rfl, rfl, rfl⟩ := hcs
      have hz' : ss.length = cap0 := by simpa using hz
      refine .inr ⟨_, rfl, hl, hm, fun i hi => ⟨_, hcell i (by omega), ?_⟩⟩
      have hi' : i < ss.length := by omega
      rw [List.getD_eq_getElem?_getD, List.getElem?_eq_getElem hi']
      exact hsz _ (List.getElem_mem hi')
  obtain ⟨a1, rfl, rfl, rfl, w1⟩ := open_int Try.underlying3 (hval 1 3 v1 rfl rfl) h1
  clear hA0 hval0
  refine (walk a0 len0 cap0 a1 W w0).mono fun e W' ⟨he, bel⟩ => ?_
  subst he
  exact ⟨_, rfl, _, _, _, [], _, [], hW', trodAll_mk1 (shut_bool Try.underlying4 _), (trodAll_cons_mk (Below.trod laidOut (by kernel_rfl) (of_decide_eq_true (by kernel_rfl)) k0 bel lt0) (trodAll_cons_mk (shut_int Try.underlying3 w1) trodAll_mk0)), rfl, bel.frame _, fun h => by cases h⟩

theorem over : Rows.fnCapabilitiesOutscoreGroupsAtAnyCutRow.holds Try.pinned (OpenSpec.ofChange Rows.fnCapabilitiesOutscoreGroupsAtAnyCutSpec) :=
  OpenClaim.holds_of_wide 5 Try.f5 rfl rfl rfl rfl rfl rfl rfl ⟨rfl, rfl, rfl, rfl, rfl⟩ rfl rfl rfl rfl rfl (by kernel_rfl) Try.func5 (by kernel_rfl)
    (of_decide_eq_true (by kernel_rfl)) (by unfold Func.isWrapper; first | (rw [if_pos (by decide +kernel)]; kernel_rfl) | (rw [if_neg (by decide +kernel)]; exact ⟨rfl, rfl⟩))
    (fun os started H enc _ => lifted os started H enc)

/-- THE STATEMENT -/
theorem proved : Rows.FnCapabilitiesOutscoreGroupsAtAnyCutSaid := over
#print axioms proved
end Go.Proofs.Qxb6613218a.fnCapabilitiesOutscoreGroupsAtAnyCut
