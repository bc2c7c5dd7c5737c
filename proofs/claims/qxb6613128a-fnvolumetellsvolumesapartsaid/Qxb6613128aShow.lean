/-
  THE CONTRACT of zfs.ZZDatasetVolume: name, pool, size, used and the creation time's nanoseconds, as they were handed in.
-/
import Derived.Test.Qxb6613128aSub
namespace Go.Proofs.Qxb6613128a
open Go.RowKit

theorem bcell {W w1 : World} (hb : Below W.heap.size W w1) : (∀ b o, b < W.heap.size → w1.cell? ⟨b, o, none⟩ = W.cell? ⟨b, o, none⟩) :=
  fun b o h => hb.cell (p := ⟨b, o, none⟩) h

theorem grown_trans {a b c : World} (h : Grown a b) (k : Grown b c) : Grown a c :=
  ⟨World.keptBut_trans h.1 k.1, fun x => (k.2.1 x).trans (h.2.1 x), Nat.le_trans h.2.2 k.2.2⟩

set_option maxHeartbeats 1000000 in
theorem show_any (n p t m : ByteArray) (u a r s d : Int) (d0 : -9223372036854775808 ≤ d) (d1 : d ≤ 9223372036854775807) (w : World) :
    Calls Try.prog 9 #[.string n, .string p, .string t, .int .u64 u, .int .u64 a, .int .u64 r, .string m, .int .i64 d, .int .u64 s] w fun e w' =>
      e = .returned (.tuple #[.string n, .string p, .int .u64 s, .int .u64 u, .int .i64 d]) ∧ Grown w w' := by
  obtain ⟨N, hN⟩ : ∃ N, d % 1000000000 = N := ⟨_, rfl⟩
  obtain ⟨S, hS⟩ : ∃ S, d / 1000000000 = S := ⟨_, rfl⟩
  have HN : Hid (d % 1000000000 = N) := hN
  have HS : Hid (d / 1000000000 = S) := hS
  have a1 := add_zero d d0 d1
  rw [hN, hS] at a1
  clear hN hS
  have H1 : Hid _ := a1
  clear a1
  go_enter Try.func9, Try.ntmps9
  go_wp2_with (first
    | (go_at_call 12; refine (H1.out _).mono ?_; rintro e w' ⟨rfl, o1, o2, rfl⟩)
    | (go_at_call 13; refine (volume_any _ _ _ _ _ _ _ _ _ _ _).mono ?_; rintro e w' ⟨rfl, o3, o4, rfl⟩))
  go_region_held3 (fun w' => w'.cell? ⟨w.heap.size + 5, 0, none⟩ = some (.string n) ∧ w'.cell? ⟨w.heap.size + 5, 1, none⟩ = some (.string p) ∧ w'.cell? ⟨w.heap.size + 5, 2, none⟩ = some (.int .u64 s) ∧ w'.cell? ⟨w.heap.size + 5, 3, none⟩ = some (.int .u64 u) ∧ w'.cell? ⟨w.heap.size + 5, 4, none⟩ = some (.int .u64 N) ∧ w'.cell? ⟨w.heap.size + 5, 5, none⟩ = some (.int .i64 S) ∧ w'.cell? ⟨w.heap.size + 5, 6, none⟩ = some (.pointer none)) (simp [*, go_sem])
    ((go_at_call 14; refine (sub_zero d N S d0 d1 HN HS _).mono ?_; rintro e w' ⟨rfl, hg, hb⟩; have hbc := bcell hb))
  go_wp2
  refine bodyPost_ret (v := .tuple #[.string n, .string p, .int .u64 s, .int .u64 u, .int .i64 d]) (by simp [results, Try.results9, go_sem]) rfl ⟨rfl, ?_⟩
  refine grown_trans ?_ hg
  go_grown
end Go.Proofs.Qxb6613128a
