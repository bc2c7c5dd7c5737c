/-
  THE CONTRACTS of package time's functions on the road of the two laws over 'Volume', at the zero time and at what 'Add' makes of it.
-/
import Derived.Test.Qxb6613128aRows
import Derived.WalkKit
import Derived.WalkSpells
import Derived.Laws.Pointers
import Derived.Laws.BitsAllLaws
import Derived.RowKit3
import Derived.Handy
namespace Go.Proofs.Qxb6613128a
open Go.RowKit

/-! ### Plain numbers -/
theorem nat_mask30 (x : Nat) : x &&& 1073741823 = x % 1073741824 := Nat.and_two_pow_sub_one_eq_mod x 30
theorem and_nsec (W : Int) (h0 : 0 ≤ W) (h1 : W < 1000000000) : bits .and .u64 W 1073741823 = W := by
  obtain ⟨n, rfl⟩ := Int.eq_ofNat_of_zero_le h0
  have := u64_and_nat n 1073741823 (by omega) (by omega)
  rw [nat_mask30] at this
  rw [show (1073741823 : Int) = ((1073741823 : Nat) : Int) from rfl, this]
  omega
theorem and_mono (W : Int) (h0 : 0 ≤ W) (h1 : W < 1000000000) : bits .and .u64 W 9223372036854775808 = 0 := by
  obtain ⟨n, rfl⟩ := Int.eq_ofNat_of_zero_le h0
  have := u64_and_nat n 9223372036854775808 (by omega) (by omega)
  rw [show (9223372036854775808 : Int) = ((9223372036854775808 : Nat) : Int) from rfl, this]
  have h : n &&& 9223372036854775808 = n / 9223372036854775808 % 2 * 9223372036854775808 := nat_bit 63 n
  rw [h]
  omega

theorem nsec_any (b o : Nat) (W : Int) (h0 : 0 ≤ W) (h1 : W < 1000000000) (w : World) (hc : w.cell? ⟨b, o, none⟩ = some (.int .u64 W)) :
    Calls Try.prog 16 #[.pointer (some ⟨b, o, none⟩)] w fun e w' => e = .returned (.int .i32 W) ∧ w' = w := by
  have e1 := and_nsec W h0 h1
  go_enter Try.func16, Try.ntmps16
  go_wp2
  go_ret
  exact ⟨rfl, rfl⟩

theorem sec_any (b o : Nat) (W S : Int) (h0 : 0 ≤ W) (h1 : W < 1000000000) (w : World) (hc : w.cell? ⟨b, o, none⟩ = some (.int .u64 W)) (hc1 : w.cell? ⟨b, o + 1, none⟩ = some (.int .i64 S)) :
    Calls Try.prog 20 #[.pointer (some ⟨b, o, none⟩)] w fun e w' => e = .returned (.int .i64 S) ∧ w' = w := by
  have e1 := and_mono W h0 h1
  go_enter Try.func20, Try.ntmps20
  go_wp2
  go_ret
  exact ⟨rfl, rfl⟩

theorem addSec_any (b o : Nat) (W d : Int) (h0 : 0 ≤ W) (h1 : W < 1000000000) (d0 : -9223372036854775808 ≤ d) (d1 : d ≤ 9223372036854775807) (w : World) (hc : w.cell? ⟨b, o, none⟩ = some (.int .u64 W)) (hc1 : w.cell? ⟨b, o + 1, none⟩ = some (.int .i64 0))
    (hf : w.frozen? ⟨b, o + 1, none⟩ = false) :
    Calls Try.prog 17 #[.pointer (some ⟨b, o, none⟩), .int .i64 d] w fun e w' => e = .returned (.tuple #[]) ∧ w' = w.setCell ⟨b, o + 1, none⟩ (.int .i64 d) := by
  have e1 := and_mono W h0 h1
  by_cases hd : 0 < d
  · go_enter Try.func17, Try.ntmps17
    go_wp2
    go_end0
    exact ⟨rfl, rfl⟩
  · go_enter Try.func17, Try.ntmps17
    go_wp2
    go_end0
    exact ⟨rfl, rfl⟩

theorem or_nsec (N : Int) (h0 : 0 ≤ N) (h1 : N < 1000000000) : bits .or .u64 0 N = N := by
  obtain ⟨n, rfl⟩ := Int.eq_ofNat_of_zero_le h0
  have := u64_or_nat 0 n (by omega) (by omega)
  simpa using this
theorem tdiv_pos (d : Int) (h : 0 ≤ d) : d.tdiv 1000000000 = d / 1000000000 := Int.tdiv_eq_ediv_of_nonneg h
theorem tmod_pos (d : Int) (h : 0 ≤ d) : d.tmod 1000000000 = d % 1000000000 := Int.tmod_eq_emod_of_nonneg h

theorem andNot_zero : bits .andNot .u64 0 1073741823 = 0 := u64_andNot_nat 0 1073741823 (by omega) (by omega)
theorem tdiv_neg (d : Int) (h : d < 0) (hm : d % 1000000000 ≠ 0) : d.tdiv 1000000000 = d / 1000000000 + 1 ∧ d.tmod 1000000000 = d % 1000000000 - 1000000000 := by
  have e : (-d).tdiv 1000000000 = (-d) / 1000000000 := Int.tdiv_eq_ediv_of_nonneg (by omega)
  have e' : (-d).tmod 1000000000 = (-d) % 1000000000 := Int.tmod_eq_emod_of_nonneg (by omega)
  rw [Int.neg_tdiv] at e
  rw [Int.neg_tmod] at e'
  omega
theorem tdiv_neg0 (d : Int) (h : d < 0) (hm : d % 1000000000 = 0) : d.tdiv 1000000000 = d / 1000000000 ∧ d.tmod 1000000000 = 0 := by
  have e : (-d).tdiv 1000000000 = (-d) / 1000000000 := Int.tdiv_eq_ediv_of_nonneg (by omega)
  have e' : (-d).tmod 1000000000 = (-d) % 1000000000 := Int.tmod_eq_emod_of_nonneg (by omega)
  rw [Int.neg_tdiv] at e
  rw [Int.neg_tmod] at e'
  omega

/-- 'time.Time{}.Add(d)'. -/
theorem add_zero (d : Int) (d0 : -9223372036854775808 ≤ d) (d1 : d ≤ 9223372036854775807) (w : World) :
    Calls Try.prog 12 #[.agg #[.int .u64 0, .int .i64 0, .pointer none], .int .i64 d] w fun e w' =>
      e = .returned (.agg #[.int .u64 (d % 1000000000), .int .i64 (d / 1000000000), .pointer none]) ∧ ∃ c1 c2 : Array Value, w' = (w.alloc (.cells c1 36)).alloc (.cells c2 36) := by
  have e0 := andNot_zero
  have e3 := or_nsec (d % 1000000000) (by omega) (by omega)
  have e4 := and_mono (d % 1000000000) (by omega) (by omega)
  by_cases hd : 0 ≤ d
  · have e1 := tdiv_pos d hd
    have e2 := tmod_pos d hd
    go_enter Try.func12, Try.ntmps12
    go_wp2_with (first | (go_at_call 16; refine (nsec_any _ _ 0 (by omega) (by omega) _ (by simp)).mono ?_; rintro e w' ⟨rfl, rfl⟩) | (go_at_call 17; refine (addSec_any _ _ (d % 1000000000) _ (by omega) (by omega) (by omega) (by omega) _ (by simp) (by simp) (by simp)).mono ?_; rintro e w' ⟨rfl, rfl⟩))
    exact bodyPost_ret (v := .agg #[.int .u64 (d % 1000000000), .int .i64 (d / 1000000000), .pointer none]) (by simp [results, Try.results12, go_sem]) rfl ⟨rfl, _, _, rfl⟩
  · by_cases hm : d % 1000000000 = 0
    · obtain ⟨e1, e2⟩ := tdiv_neg0 d (by omega) hm
      rw [hm] at e3 e4
      go_enter Try.func12, Try.ntmps12
      go_wp2_with (first | (go_at_call 16; refine (nsec_any _ _ 0 (by omega) (by omega) _ (by simp)).mono ?_; rintro e w' ⟨rfl, rfl⟩) | (go_at_call 17; refine (addSec_any _ _ 0 _ (by omega) (by omega) (by omega) (by omega) _ (by simp) (by simp) (by simp)).mono ?_; rintro e w' ⟨rfl, rfl⟩))
      exact bodyPost_ret (v := .agg #[.int .u64 0, .int .i64 (d / 1000000000), .pointer none]) (by simp [results, Try.results12, go_sem]) rfl ⟨by rw [hm], _, _, rfl⟩
    · obtain ⟨e1, e2⟩ := tdiv_neg d (by omega) hm
      have hh := Int.emod_lt_of_pos d (show (0 : Int) < 1000000000 by decide)
      have h2 := Int.emod_nonneg d (show (1000000000 : Int) ≠ 0 by decide)
      go_enter Try.func12, Try.ntmps12
      go_wp2_with (first | (go_at_call 16; refine (nsec_any _ _ 0 (by omega) (by omega) _ (by simp)).mono ?_; rintro e w' ⟨rfl, rfl⟩) | (go_at_call 17; refine (addSec_any _ _ (d % 1000000000) _ (by omega) (by omega) (by omega) (by omega) _ (by simp) (by simp) (by simp)).mono ?_; rintro e w' ⟨rfl, rfl⟩))
      exact bodyPost_ret (v := .agg #[.int .u64 (d % 1000000000), .int .i64 (d / 1000000000), .pointer none]) (by simp [results, Try.results12, go_sem]) rfl ⟨rfl, _, _, rfl⟩
end Go.Proofs.Qxb6613128a
