/-
  THE LAW 'FnVolumeTellsVolumesApart': the frame is the guide's shell; the walk is by the contracts of Qxb6613128aShow.
-/
import Derived.Test.Qxb6613128aShow
import Derived.WalkKit
import Derived.ProofKit
import Derived.OpenShut
import Derived.ShutString
namespace Go.Proofs.Qxb6613128a.fnVolumeTellsVolumesApart
open Go.ChangeShapes Go.WideShapes Go.ChangeAt Go.RowKit
open Go.ChangeMaps (open_string shut_string)
set_option linter.unusedVariables false      -- a walk need not use every 'w<i>' (that an integer argument fits its kind)

theorem own : ownKnob Try.prog.godebug = none := by kernel_rfl

/-! ### STEP 1: THE WALK: the Go text returns true. 'Grown w w'': the world has at most new blocks (Derived/RowKit3.lean). Part the cases AHEAD of 'go_enter' where a test parts the walk; take each callee by a contract of your own. -/
theorem bytes_any (a0 a1 a2 a6 a9 : ByteArray) (a3 a4 a5 a7 a8 a10 a11 : Int) (w0 : a0.size ≤ maxLen) (w1 : a1.size ≤ maxLen) (w2 : a2.size ≤ maxLen) (w6 : a6.size ≤ maxLen) (w9 : a9.size ≤ maxLen) (w : World) :
    Calls Try.prog 10 #[.string a0, .string a1, .string a2, .int .u64 a3, .int .u64 a4, .int .u64 a5, .string a6, .int .i64 a7, .int .u64 a8, .string a9, .int .u64 a10, .int .u64 a11] w fun e w' => (∃ b : Bool, e = .returned (.bool b)) ∧ w' = w := by
  unfold maxLen at w0 w1 w2 w6 w9
  go_enter Try.func10, Try.ntmps10
  go_wp2
  all_goals (go_ret; exact ⟨⟨_, rfl⟩, rfl⟩)

theorem i64_bounds {x : Int} (h : (Lit.int .i64 x).wf = true) : -9223372036854775808 ≤ x ∧ x ≤ 9223372036854775807 := by
  simp only [Lit.wf, IntKind.min, IntKind.max, IntKind.signed, IntKind.bits, Bool.and_eq_true, decide_eq_true_eq, if_true] at h
  omega

set_option maxHeartbeats 1000000 in
theorem walk (a0 : ByteArray) (a1 : ByteArray) (a2 : ByteArray) (a3 : Int) (a4 : Int) (a5 : Int) (a6 : ByteArray) (a7 : Int) (a8 : Int) (a9 : ByteArray) (a10 : Int) (a11 : Int) (w0 : a0.size ≤ maxLen) (w1 : a1.size ≤ maxLen) (w2 : a2.size ≤ maxLen) (w3 : (Lit.int .u64 a3).wf = true) (w4 : (Lit.int .u64 a4).wf = true) (w5 : (Lit.int .u64 a5).wf = true) (w6 : a6.size ≤ maxLen) (w7 : (Lit.int .i64 a7).wf = true) (w8 : (Lit.int .u64 a8).wf = true) (w9 : a9.size ≤ maxLen) (w10 : (Lit.int .u64 a10).wf = true) (w11 : (Lit.int .u64 a11).wf = true) (w : World) :
    Calls Try.prog 5 #[.string a0, .string a1, .string a2, .int .u64 a3, .int .u64 a4, .int .u64 a5, .string a6, .int .i64 a7, .int .u64 a8, .string a9, .int .u64 a10, .int .u64 a11] w fun e w' => e = .returned (.bool true) ∧ Grown w w' := by
  obtain ⟨d0, d1⟩ := i64_bounds w7
  unfold maxLen at w0 w1 w2 w6 w9
  go_enter Try.func5, Try.ntmps5
  go_wp2_with (first
    | (go_at_call 10; refine (bytes_any _ _ _ _ _ _ _ _ _ _ _ _ (by unfold maxLen; omega) (by unfold maxLen; omega) (by unfold maxLen; omega) (by unfold maxLen; omega) (by unfold maxLen; omega) _).mono ?_; rintro e w' ⟨⟨b, rfl⟩, rfl⟩))
  all_goals first
    | (go_ret; exact ⟨rfl, Grown.refl _⟩)
    | (refine (show_any _ _ _ _ _ _ _ _ _ d0 d1 _).mono ?_; rintro e w1 ⟨rfl, hg1⟩; go_wp2_with fail; refine (show_any _ _ _ _ _ _ _ _ _ d0 d1 _).mono ?_; rintro e w2 ⟨rfl, hg2⟩; go_wp2; all_goals (go_ret; exact ⟨by first | rfl | simp [*], grown_trans hg1 hg2⟩))

/-! ### THE ROW's STEP: WRITTEN OUT: LEAVE IT -/
set_option maxRecDepth 100000 in
theorem lifted (os : Os) (started : os.Started) (H : Type) (enc : TypeId × Value → H) :
    ReturnsInHanded {} Try.checked os 5 .any (Rows.fnVolumeTellsVolumesApartSpec.pre6 enc Try.prog Try.f5 Rows.fnVolumeTellsVolumesApartRow.domain false) (Rows.fnVolumeTellsVolumesApartSpec.post enc Try.prog Try.f5 false true false false) := by
  refine returnsInHanded_of_change (C := Try.checked) own started (by kernel_rfl) Try.func5
    (ChangeSpec.witness6 (enc := enc) (C := Try.checked) false ⟨#[], #[.string ByteArray.empty, .string ByteArray.empty, .string ByteArray.empty, .int .u64 0, .int .u64 0, .int .u64 0, .string ByteArray.empty, .int .i64 0, .int .u64 0, .string ByteArray.empty, .int .u64 0, .int .u64 0], []⟩ 8 (by kernel_rfl) (by kernel_rfl) (by kernel_rfl) (by kernel_rfl)) ?_
  intro W base args ds gs before hval0 hW hcnd _
  have hval : ∀ (j : Nat) t v, Try.f5.params[j]? = some t → args[j]? = some v → Value.okWide Try.prog W .any base t v := hval0
  have hW' := hW
  obtain ⟨p, q, hA0, hV, rfl, hfz, hnd⟩ := hW
  have hA : DataW.TrodAll enc Try.prog W 0 (fun _ => true) true Try.f5.params.toList args.toList ds p := hA0
  rw [Try.params5] at hA hval
  obtain ⟨v0, vs0, d0, ds0, p0, q0, hargs, rfl, rfl, h0, r0⟩ := trodAll_cons hA
  obtain ⟨v1, vs1, d1, ds1, p1, q1, rfl, rfl, rfl, h1, r1⟩ := trodAll_cons r0
  obtain ⟨v2, vs2, d2, ds2, p2, q2, rfl, rfl, rfl, h2, r2⟩ := trodAll_cons r1
  obtain ⟨v3, vs3, d3, ds3, p3, q3, rfl, rfl, rfl, h3, r3⟩ := trodAll_cons r2
  obtain ⟨v4, vs4, d4, ds4, p4, q4, rfl, rfl, rfl, h4, r4⟩ := trodAll_cons r3
  obtain ⟨v5, vs5, d5, ds5, p5, q5, rfl, rfl, rfl, h5, r5⟩ := trodAll_cons r4
  obtain ⟨v6, vs6, d6, ds6, p6, q6, rfl, rfl, rfl, h6, r6⟩ := trodAll_cons r5
  obtain ⟨v7, vs7, d7, ds7, p7, q7, rfl, rfl, rfl, h7, r7⟩ := trodAll_cons r6
  obtain ⟨v8, vs8, d8, ds8, p8, q8, rfl, rfl, rfl, h8, r8⟩ := trodAll_cons r7
  obtain ⟨v9, vs9, d9, ds9, p9, q9, rfl, rfl, rfl, h9, r9⟩ := trodAll_cons r8
  obtain ⟨v10, vs10, d10, ds10, p10, q10, rfl, rfl, rfl, h10, r10⟩ := trodAll_cons r9
  obtain ⟨v11, vs11, d11, ds11, p11, q11, rfl, rfl, rfl, h11, r11⟩ := trodAll_cons r10
  obtain ⟨rfl, rfl, rfl⟩ := trodAll_nil r11
  obtain rfl : args = #[v0, v1, v2, v3, v4, v5, v6, v7, v8, v9, v10, v11] := by cases args; simp_all
  obtain ⟨rfl, rfl⟩ := trodVars_none hV
  obtain ⟨a0, rfl, rfl, rfl, w0⟩ := open_string Try.underlying9 (hval 0 9 v0 rfl rfl) h0
  obtain ⟨a1, rfl, rfl, rfl, w1⟩ := open_string Try.underlying9 (hval 1 9 v1 rfl rfl) h1
  obtain ⟨a2, rfl, rfl, rfl, w2⟩ := open_string Try.underlying9 (hval 2 9 v2 rfl rfl) h2
  obtain ⟨a3, rfl, rfl, rfl, w3⟩ := open_int Try.underlying25 (hval 3 25 v3 rfl rfl) h3
  obtain ⟨a4, rfl, rfl, rfl, w4⟩ := open_int Try.underlying25 (hval 4 25 v4 rfl rfl) h4
  obtain ⟨a5, rfl, rfl, rfl, w5⟩ := open_int Try.underlying25 (hval 5 25 v5 rfl rfl) h5
  obtain ⟨a6, rfl, rfl, rfl, w6⟩ := open_string Try.underlying9 (hval 6 9 v6 rfl rfl) h6
  obtain ⟨a7, rfl, rfl, rfl, w7⟩ := open_int Try.underlying2 (hval 7 2 v7 rfl rfl) h7
  obtain ⟨a8, rfl, rfl, rfl, w8⟩ := open_int Try.underlying25 (hval 8 25 v8 rfl rfl) h8
  obtain ⟨a9, rfl, rfl, rfl, w9⟩ := open_string Try.underlying9 (hval 9 9 v9 rfl rfl) h9
  obtain ⟨a10, rfl, rfl, rfl, w10⟩ := open_int Try.underlying25 (hval 10 25 v10 rfl rfl) h10
  obtain ⟨a11, rfl, rfl, rfl, w11⟩ := open_int Try.underlying25 (hval 11 25 v11 rfl rfl) h11
  clear hA0 hval0
  simp only [List.append_nil] at hW'
  refine (walk a0 a1 a2 a3 a4 a5 a6 a7 a8 a9 a10 a11 w0 w1 w2 w3 w4 w5 w6 w7 w8 w9 w10 w11 W).mono fun e W' ⟨he, hg⟩ => ?_
  subst he
  exact ⟨_, rfl, post_of_same (pa := []) (pv := []) hW' (fun _ _ _ => (trodAll_cons_mk (shut_bool Try.underlying4 _) trodAll_mk0)) (fun sp _ => (trodAll_cons_mk (shut_string Try.underlying9 w0) (trodAll_cons_mk (shut_string Try.underlying9 w1) (trodAll_cons_mk (shut_string Try.underlying9 w2) (trodAll_cons_mk (shut_int Try.underlying25 w3) (trodAll_cons_mk (shut_int Try.underlying25 w4) (trodAll_cons_mk (shut_int Try.underlying25 w5) (trodAll_cons_mk (shut_string Try.underlying9 w6) (trodAll_cons_mk (shut_int Try.underlying2 w7) (trodAll_cons_mk (shut_int Try.underlying25 w8) (trodAll_cons_mk (shut_string Try.underlying9 w9) (trodAll_cons_mk (shut_int Try.underlying25 w10) (trodAll_cons_mk (shut_int Try.underlying25 w11) trodAll_mk0))))))))))))) (fun _ _ => rfl) rfl
    (hg.frame _) hg.2.1 (ok_one (by kernel_rfl) rfl (okWide_bool_mk Try.underlying4 _))⟩

theorem over : Rows.fnVolumeTellsVolumesApartRow.holds Try.pinned (OpenSpec.ofChange Rows.fnVolumeTellsVolumesApartSpec) :=
  OpenClaim.holds_of_wide 5 Try.f5 rfl rfl rfl rfl rfl rfl rfl ⟨rfl, rfl, rfl, rfl, rfl⟩ rfl rfl rfl rfl rfl (by kernel_rfl) Try.func5 (by kernel_rfl)
    (of_decide_eq_true (by kernel_rfl)) (by unfold Func.isWrapper; first | (rw [if_pos (by decide +kernel)]; kernel_rfl) | (rw [if_neg (by decide +kernel)]; exact ⟨rfl, rfl⟩))
    (fun os started H enc _ => lifted os started H enc)

/-- ████ THE STATEMENT ████ -/
theorem proved : Rows.FnVolumeTellsVolumesApartSaid :=
  over
#print axioms proved
end Go.Proofs.Qxb6613128a.fnVolumeTellsVolumesApart
