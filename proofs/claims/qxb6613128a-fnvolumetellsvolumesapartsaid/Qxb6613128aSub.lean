/-
  THE CONTRACTS of (time.Time).Equal at two equal times and of (time.Time).Sub of 'time.Time{}.Add(d)' and the zero time.
-/
import Derived.Test.Qxb6613128aTime
import Derived.Deep.RegionHeld3
namespace Go.Proofs.Qxb6613128a
open Go.RowKit

theorem and_self (W : Int) (h0 : 0 ≤ W) (h1 : W < 1000000000) : bits .and .u64 W W = W := by
  obtain ⟨n, rfl⟩ := Int.eq_ofNat_of_zero_le h0
  have := u64_and_nat n n (by omega) (by omega)
  simpa using this
theorem and_right0 (W : Int) (h0 : 0 ≤ W) (h1 : W < 1000000000) : bits .and .u64 W 0 = 0 := by
  obtain ⟨n, rfl⟩ := Int.eq_ofNat_of_zero_le h0
  have := u64_and_nat n 0 (by omega) (by omega)
  simpa using this

theorem equal_same (W S : Int) (h0 : 0 ≤ W) (h1 : W < 1000000000) (w : World) :
    Calls Try.prog 21 #[.agg #[.int .u64 W, .int .i64 S, .pointer none], .agg #[.int .u64 W, .int .i64 S, .pointer none]] w fun e w' =>
      e = .returned (.bool true) ∧ ∃ c1 c2 : Array Value, w' = (w.alloc (.cells c1 36)).alloc (.cells c2 36) := by
  have e1 := and_mono W h0 h1
  have e2 := and_self W h0 h1
  go_enter Try.func21, Try.ntmps21
  go_wp2_with (first | (go_at_call 16; refine (nsec_any _ _ W h0 h1 _ (by simp)).mono ?_; rintro e w' ⟨rfl, rfl⟩) | (go_at_call 20; refine (sec_any _ _ W S h0 h1 _ (by simp) (by simp)).mono ?_; rintro e w' ⟨rfl, rfl⟩))
  go_ret
  exact ⟨rfl, _, _, rfl⟩

theorem sub_zero (d N S : Int) (d0 : -9223372036854775808 ≤ d) (d1 : d ≤ 9223372036854775807) (hN : Hid (d % 1000000000 = N)) (hS : Hid (d / 1000000000 = S)) (w : World) :
    Calls Try.prog 14 #[.agg #[.int .u64 N, .int .i64 S, .pointer none], .agg #[.int .u64 0, .int .i64 0, .pointer none]] w fun e w' =>
      e = .returned (.int .i64 d) ∧ Grown w w' ∧ Below w.heap.size w w' := by
  have hn0 : 0 ≤ N := by have := hN.out; omega
  have hn1 : N < 1000000000 := by have := hN.out; omega
  have hs0 : -9223372037 ≤ S := by have := hS.out; omega
  have hs1 : S ≤ 9223372036 := by have := hS.out; omega
  have e1 := and_right0 N hn0 hn1
  have e2 := and_mono 0 (by omega) (by omega)
  have e3 : wrap64 (wrap64 (S * 1000000000) + N) = d := by have := hN.out; have := hS.out; unfold wrap64; omega
  go_enter Try.func14, Try.ntmps14
  go_wp2_with (first
    | (go_at_call_of 16 (some (⟨w.heap.size, 0, none⟩ : Addr)); refine (nsec_any _ _ N hn0 hn1 _ (by simp)).mono ?_; rintro e w' ⟨rfl, rfl⟩)
    | (go_at_call 16; refine (nsec_any _ _ 0 (by omega) (by omega) _ (by simp)).mono ?_; rintro e w' ⟨rfl, rfl⟩)
    | (go_at_call_of 20 (some (⟨w.heap.size, 0, none⟩ : Addr)); refine (sec_any _ _ N S hn0 hn1 _ (by simp) (by simp)).mono ?_; rintro e w' ⟨rfl, rfl⟩)
    | (go_at_call 20; refine (sec_any _ _ 0 0 (by omega) (by omega) _ (by simp) (by simp)).mono ?_; rintro e w' ⟨rfl, rfl⟩))
  rw [e3]
  have a1 := add_zero d d0 d1
  rw [hN.out, hS.out] at a1
  go_region_held3 (fun w' => w'.cell? ⟨w.heap.size, 0, none⟩ = some (.int .u64 N) ∧ w'.cell? ⟨w.heap.size, 1, none⟩ = some (.int .i64 S) ∧ w'.cell? ⟨w.heap.size, 2, none⟩ = some (.pointer none) ∧ w'.cell? ⟨w.heap.size + 1, 0, none⟩ = some (.int .u64 0) ∧ w'.cell? ⟨w.heap.size + 1, 1, none⟩ = some (.int .i64 0) ∧ w'.cell? ⟨w.heap.size + 1, 2, none⟩ = some (.pointer none)) (simp [go_sem, World.cell?_alloc_past])
    (first
      | (go_at_call 12; refine (a1 _).mono ?_; rintro e w' ⟨rfl, o1, o2, rfl⟩)
      | (go_at_call 21; refine (equal_same N S hn0 hn1 _).mono ?_; rintro e w' ⟨rfl, o1, o2, rfl⟩))
  go_wp2
  go_ret
  exact ⟨rfl, by go_grown, by go_grown⟩

/-- (zfs.Dataset).Volume. -/
theorem volume_any (n p t m : ByteArray) (u a r s N S : Int) (w : World) :
    Calls Try.prog 13 #[.agg #[.string n, .string p, .string t, .int .u64 u, .int .u64 a, .int .u64 r, .string m, .int .u64 N, .int .i64 S, .pointer none, .int .u64 s]] w fun e w' =>
      e = .returned (.agg #[.string n, .string p, .int .u64 s, .int .u64 u, .int .u64 N, .int .i64 S, .pointer none]) ∧ ∃ c1 c2 : Array Value, w' = (w.alloc (.cells c1 40)).alloc (.cells c2 42) := by
  go_enter Try.func13, Try.ntmps13
  go_wp2
  exact bodyPost_ret (v := .agg #[.string n, .string p, .int .u64 s, .int .u64 u, .int .u64 N, .int .i64 S, .pointer none]) (by simp [results, Try.results13, go_sem]) rfl ⟨rfl, _, _, rfl⟩
end Go.Proofs.Qxb6613128a
