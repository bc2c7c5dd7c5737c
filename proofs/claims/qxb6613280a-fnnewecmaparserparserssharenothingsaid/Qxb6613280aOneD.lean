/-
  THE WALKS of zzDecodeOne, a kind of lead bytes and an outcome at a time. (Written by a small program of the prover's own.)
-/
import Derived.Test.Qxb6613280aOne
namespace Go.Proofs.Qxb6613280a
open Go.RowKit Go.Lib

set_option maxRecDepth 100000 in
set_option maxHeartbeats 1000000 in
theorem F4_0 (s : ByteArray) (i : Nat) (h : i < s.size) (hs : s.size ≤ 1048576) (h1 : 244 ≤ (s[i].toNat : Int)) (h2 : (s[i].toNat : Int) ≤ 244) (i1 : inB s (i + 1) 128 143 = false) (w : World) :
    Calls Try.prog 25 #[.string s, .int .i64 i] w fun e w' => e = .returned (.tuple #[.int .i32 0, .int .i64 0]) ∧ ∃ n, w' = w.drewN n := by
  have c1 : Hid _ := in_at1 s i 128 143 false i1 (by omega)
  clear i1
  go_enter Try.func25, Try.ntmps25
  go_wp2_with (first
    | (go_at_call 27; with_reducible refine (c1.out _).mono ?_; rintro e w' ⟨rfl, hw'⟩; obtain rfl := hw'.symm; clear hw'))
  go_ret2
  exact ⟨rfl, 0, rfl⟩

set_option maxRecDepth 100000 in
set_option maxHeartbeats 1000000 in
theorem F4_1 (s : ByteArray) (i : Nat) (h : i < s.size) (hs : s.size ≤ 1048576) (h1 : 244 ≤ (s[i].toNat : Int)) (h2 : (s[i].toNat : Int) ≤ 244) (i1 : inB s (i + 1) 128 143 = true) (i2 : inB s (i + 2) 128 191 = false) (w : World) :
    Calls Try.prog 25 #[.string s, .int .i64 i] w fun e w' => e = .returned (.tuple #[.int .i32 0, .int .i64 0]) ∧ ∃ n, w' = w.drewN n := by
  have c1 : Hid _ := in_at1 s i 128 143 true i1 (by omega)
  have c2 : Hid _ := in_at2 s i 128 191 false i2 (by omega)
  clear i1 i2
  go_enter Try.func25, Try.ntmps25
  go_wp2_with (first
    | (go_at_call 27; with_reducible refine (c1.out _).mono ?_; rintro e w' ⟨rfl, hw'⟩; obtain rfl := hw'.symm; clear hw')
    | (go_at_call 27; with_reducible refine (c2.out _).mono ?_; rintro e w' ⟨rfl, hw'⟩; obtain rfl := hw'.symm; clear hw'))
  go_ret2
  exact ⟨rfl, 0, rfl⟩

set_option maxRecDepth 100000 in
set_option maxHeartbeats 1000000 in
theorem F4_2 (s : ByteArray) (i : Nat) (h : i < s.size) (hs : s.size ≤ 1048576) (h1 : 244 ≤ (s[i].toNat : Int)) (h2 : (s[i].toNat : Int) ≤ 244) (i1 : inB s (i + 1) 128 143 = true) (i2 : inB s (i + 2) 128 191 = true) (i3 : inB s (i + 3) 128 191 = false) (w : World) :
    Calls Try.prog 25 #[.string s, .int .i64 i] w fun e w' => e = .returned (.tuple #[.int .i32 0, .int .i64 0]) ∧ ∃ n, w' = w.drewN n := by
  have c1 : Hid _ := in_at1 s i 128 143 true i1 (by omega)
  have c2 : Hid _ := in_at2 s i 128 191 true i2 (by omega)
  have c3 : Hid _ := in_at3 s i 128 191 false i3 (by omega)
  clear i1 i2 i3
  go_enter Try.func25, Try.ntmps25
  go_wp2_with (first
    | (go_at_call 27; with_reducible refine (c1.out _).mono ?_; rintro e w' ⟨rfl, hw'⟩; obtain rfl := hw'.symm; clear hw')
    | (go_at_call 27; with_reducible refine (c2.out _).mono ?_; rintro e w' ⟨rfl, hw'⟩; obtain rfl := hw'.symm; clear hw')
    | (go_at_call 27; with_reducible refine (c3.out _).mono ?_; rintro e w' ⟨rfl, hw'⟩; obtain rfl := hw'.symm; clear hw'))
  go_ret2
  exact ⟨rfl, 0, rfl⟩

set_option maxRecDepth 100000 in
set_option maxHeartbeats 1000000 in
theorem F4_3 (s : ByteArray) (i : Nat) (h : i < s.size) (hs : s.size ≤ 1048576) (h1 : 244 ≤ (s[i].toNat : Int)) (h2 : (s[i].toNat : Int) ≤ 244) (i1 : inB s (i + 1) 128 143 = true) (i2 : inB s (i + 2) 128 191 = true) (i3 : inB s (i + 3) 128 191 = true) (j1 : i + 1 < s.size) (j2 : i + 2 < s.size) (j3 : i + 3 < s.size) (w : World) :
    Calls Try.prog 25 #[.string s, .int .i64 i] w fun e w' => e = .returned (.tuple #[.int .i32 ((s[i].toNat : Int) % 8 * 262144 + (s[i + 1].toNat : Int) % 64 * 4096 + (s[i + 2].toNat : Int) % 64 * 64 + (s[i + 3].toNat : Int) % 64), .int .i64 4]) ∧ ∃ n, w' = w.drewN n := by
  have c1 : Hid _ := in_at1 s i 128 143 true i1 (by omega)
  have c2 : Hid _ := in_at2 s i 128 191 true i2 (by omega)
  have c3 : Hid _ := in_at3 s i 128 191 true i3 (by omega)
  have g1 : (0 : Int) ≤ (i : Int) + 1 ∧ (i : Int) + 1 < (s.size : Int) := by omega
  have g2 : (0 : Int) ≤ (i : Int) + 2 ∧ (i : Int) + 2 < (s.size : Int) := by omega
  have g3 : (0 : Int) ≤ (i : Int) + 3 ∧ (i : Int) + 3 < (s.size : Int) := by omega
  obtain ⟨_, l1, u1⟩ := inB_true i1
  obtain ⟨_, l2, u2⟩ := inB_true i2
  obtain ⟨_, l3, u3⟩ := inB_true i3
  clear i1 i2 i3
  go_enter Try.func25, Try.ntmps25
  go_wp2_with (first
    | (go_at_call 27; with_reducible refine (c1.out _).mono ?_; rintro e w' ⟨rfl, hw'⟩; obtain rfl := hw'.symm; clear hw')
    | (go_at_call 27; with_reducible refine (c2.out _).mono ?_; rintro e w' ⟨rfl, hw'⟩; obtain rfl := hw'.symm; clear hw')
    | (go_at_call 27; with_reducible refine (c3.out _).mono ?_; rintro e w' ⟨rfl, hw'⟩; obtain rfl := hw'.symm; clear hw'))
  go_quiet (fail)
  go_wp2
  go_ret2
  exact ⟨rfl, _, rfl⟩

theorem F4_any (s : ByteArray) (i : Nat) (h : i < s.size) (hs : s.size ≤ 1048576) (h1 : 244 ≤ (s[i].toNat : Int)) (h2 : (s[i].toNat : Int) ≤ 244) (w : World) :
    Calls Try.prog 25 #[.string s, .int .i64 i] w fun e w' => e = .returned (.tuple #[.int .i32 (one s i).1, .int .i64 (one s i).2]) ∧ ∃ n, w' = w.drewN n := by
  have g0 := get!_eq s i h
  have hsl : Utf8.decode s i = slowN (s.size - i) (s.get! i).toNat (s.get! (i + 1)).toNat (s.get! (i + 2)).toNat (s.get! (i + 3)).toNat 4 128 143 := by
    rw [decode_at]
    exact (slow_F4 _ _ _ _ _ (by omega) (UInt8.toNat_lt _) (UInt8.toNat_lt _) (UInt8.toNat_lt _) (by rw [g0]; omega)).symm
  cases i1 : inB s (i + 1) 128 143 with
  | false =>
    have hn : ¬ (1 < s.size - i ∧ 128 ≤ (s.get! (i + 1)).toNat ∧ (s.get! (i + 1)).toNat ≤ 143) := fun hc => by
      have := (inB_nat (s := s) (i := i) (k := 1) (lo := 128) (hi := 143)).2 hc
      rw [show (((128 : Nat) : Int)) = 128 from rfl, show (((143 : Nat) : Int)) = 143 from rfl, i1] at this
      cases this
    rw [one_ill s i h (by omega) (by rw [hsl]; exact slow_bad1 _ _ _ _ _ _ _ _ (by omega) hn)]
    exact F4_0 s i h hs h1 h2 i1 w
  | true =>
    have p1 : 1 < s.size - i ∧ 128 ≤ (s.get! (i + 1)).toNat ∧ (s.get! (i + 1)).toNat ≤ 143 := (inB_nat (s := s) (i := i) (k := 1) (lo := 128) (hi := 143)).1 i1
    cases i2 : inB s (i + 2) 128 191 with
    | false =>
      have hn : ¬ (2 < s.size - i ∧ 128 ≤ (s.get! (i + 2)).toNat ∧ (s.get! (i + 2)).toNat ≤ 191) := fun hc => by
        have := (inB_nat (s := s) (i := i) (k := 2) (lo := 128) (hi := 191)).2 hc
        rw [show (((128 : Nat) : Int)) = 128 from rfl, show (((191 : Nat) : Int)) = 191 from rfl, i2] at this
        cases this
      rw [one_ill s i h (by omega) (by rw [hsl]; exact slow_bad2 _ _ _ _ _ _ _ _ (by omega) hn)]
      exact F4_1 s i h hs h1 h2 i1 i2 w
    | true =>
      have p2 : 2 < s.size - i ∧ 128 ≤ (s.get! (i + 2)).toNat ∧ (s.get! (i + 2)).toNat ≤ 191 := (inB_nat (s := s) (i := i) (k := 2) (lo := 128) (hi := 191)).1 i2
      cases i3 : inB s (i + 3) 128 191 with
      | false =>
        have hn : ¬ (3 < s.size - i ∧ 128 ≤ (s.get! (i + 3)).toNat ∧ (s.get! (i + 3)).toNat ≤ 191) := fun hc => by
          have := (inB_nat (s := s) (i := i) (k := 3) (lo := 128) (hi := 191)).2 hc
          rw [show (((128 : Nat) : Int)) = 128 from rfl, show (((191 : Nat) : Int)) = 191 from rfl, i3] at this
          cases this
        rw [one_ill s i h (by omega) (by rw [hsl]; exact slow_bad3 _ _ _ _ _ _ _ _ (by omega) hn)]
        exact F4_2 s i h hs h1 h2 i1 i2 i3 w
      | true =>
        have p3 : 3 < s.size - i ∧ 128 ≤ (s.get! (i + 3)).toNat ∧ (s.get! (i + 3)).toNat ≤ 191 := (inB_nat (s := s) (i := i) (k := 3) (lo := 128) (hi := 191)).1 i3
        have hd := slow_ok4 (s.size - i) (s.get! i).toNat (s.get! (i + 1)).toNat (s.get! (i + 2)).toNat (s.get! (i + 3)).toNat 128 143 p1 p2 p3
        rw [one_ok s i _ 4 (by omega) (hsl.trans hd), g0, get!_eq s (i + 1) (by omega), get!_eq s (i + 2) (by omega), get!_eq s (i + 3) (by omega)]
        have := F4_3 s i h hs h1 h2 i1 i2 i3 (by omega) (by omega) (by omega) w
        exact this
end Go.Proofs.Qxb6613280a
