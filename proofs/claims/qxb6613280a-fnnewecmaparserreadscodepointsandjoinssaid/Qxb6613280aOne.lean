/-
  THE WALK of the law's own decoder of one sequence, zzDecodeOne.
-/
import Derived.Test.Qxb6613280aRows
import Derived.Test.Qxb6613280aPlain
import Derived.WalkKit
import Derived.WalkSpells
import Derived.WalkLawsBesides
import Derived.Handy
import Derived.BigQuiet
import Derived.Deep.QuietTactic
import Derived.Deep.RegionWith
namespace Go.Proofs.Qxb6613280a
open Go.RowKit Go.Lib

theorem get!_eq (s : ByteArray) (i : Nat) (h : i < s.size) : s.get! i = s[i] := by
  show s.data[i]! = s.data[i]
  exact getElem!_pos _ _ _

/-- zzIn. -/
def inB (s : ByteArray) (j : Nat) (lo hi : Int) : Bool := decide (j < s.size ∧ lo ≤ ((s.get! j).toNat : Int) ∧ ((s.get! j).toNat : Int) ≤ hi)

theorem inB_true {s : ByteArray} {j : Nat} {lo hi : Int} (h : inB s j lo hi = true) : ∃ h : j < s.size, lo ≤ (s[j].toNat : Int) ∧ (s[j].toNat : Int) ≤ hi := by
  simp only [inB, decide_eq_true_eq] at h
  refine ⟨h.1, ?_⟩
  rw [← get!_eq s j h.1]
  exact h.2

theorem in_any (s : ByteArray) (J lo hi : Int) (j : Nat) (hJ : Hid (J = (j : Int))) (_hj : j ≤ 2000000) (w : World) :
    Calls Try.prog 27 #[.string s, .int .i64 J, .int .u8 lo, .int .u8 hi] w fun e w' => e = .returned (.bool (inB s j lo hi)) ∧ w' = w := by
  have hJ' := hJ.out
  subst hJ'
  clear hJ
  by_cases h : j < s.size
  · have e : inB s j lo hi = (decide (lo ≤ (s[j].toNat : Int)) && decide ((s[j].toNat : Int) ≤ hi)) := by
      simp [inB, h, get!_eq s j h]
    have HE := Hid.out (p := inB s j lo hi = _) e
    rw [HE]
    clear HE e
    by_cases h1 : lo ≤ (s[j].toNat : Int)
    · go_enter Try.func27, Try.ntmps27
      go_wp2
      go_ret
      exact ⟨by simp [h1], rfl⟩
    · go_enter Try.func27, Try.ntmps27
      go_wp2
      go_ret
      exact ⟨by simp; omega, rfl⟩
  · have e : inB s j lo hi = false := by simp [inB, h]
    rw [e]
    clear e
    go_enter Try.func27, Try.ntmps27
    go_wp2
    go_ret
    exact ⟨rfl, rfl⟩

theorem in_at1 (s : ByteArray) (i : Nat) (lo hi : Int) (b : Bool) (h : inB s (i + 1) lo hi = b) (hs : i ≤ 1048576) :
    ∀ w, Calls Try.prog 27 #[.string s, .int .i64 ((i : Int) + 1), .int .u8 lo, .int .u8 hi] w fun e w' => e = .returned (.bool b) ∧ w' = w := by
  intro w
  have := in_any s ((i : Int) + 1) lo hi (i + 1) (show _ = _ by omega) (by omega) w
  rwa [h] at this
theorem in_at2 (s : ByteArray) (i : Nat) (lo hi : Int) (b : Bool) (h : inB s (i + 2) lo hi = b) (hs : i ≤ 1048576) :
    ∀ w, Calls Try.prog 27 #[.string s, .int .i64 ((i : Int) + 2), .int .u8 lo, .int .u8 hi] w fun e w' => e = .returned (.bool b) ∧ w' = w := by
  intro w
  have := in_any s ((i : Int) + 2) lo hi (i + 2) (show _ = _ by omega) (by omega) w
  rwa [h] at this
theorem in_at3 (s : ByteArray) (i : Nat) (lo hi : Int) (b : Bool) (h : inB s (i + 3) lo hi = b) (hs : i ≤ 1048576) :
    ∀ w, Calls Try.prog 27 #[.string s, .int .i64 ((i : Int) + 3), .int .u8 lo, .int .u8 hi] w fun e w' => e = .returned (.bool b) ∧ w' = w := by
  intro w
  have := in_any s ((i : Int) + 3) lo hi (i + 3) (show _ = _ by omega) (by omega) w
  rwa [h] at this

/-- What zzDecodeOne gives. -/
def one (s : ByteArray) (i : Nat) : Int × Int := if ill s i then (0, 0) else (((Utf8.decode s i).1 : Int), ((Utf8.decode s i).2 : Int))

theorem one_ill (s : ByteArray) (i : Nat) (h : i < s.size) (hb : 128 ≤ (s[i].toNat : Int)) (hd : Utf8.decode s i = (65533, 1)) : one s i = (0, 0) := by
  have : ill s i = true := by
    simp only [ill, decide_eq_true_eq, hd, get!_eq s i h]
    exact ⟨trivial, by omega⟩
  simp [one, this]
theorem one_ok (s : ByteArray) (i r k : Nat) (hk : k ≠ 1) (hd : Utf8.decode s i = (r, k)) : one s i = ((r : Int), (k : Int)) := by
  have : ill s i = false := by simp [ill, hd, hk]
  simp [one, this, hd]
theorem one_low (s : ByteArray) (i : Nat) (h : i < s.size) (hb : (s[i].toNat : Int) < 128) : one s i = ((s[i].toNat : Int), 1) := by
  have hd : Utf8.decode s i = (s[i].toNat, 1) := by
    rw [decode_at, get!_eq s i h]
    simp only [decodeN]
    rw [if_pos (by omega)]
  have : ill s i = false := by
    simp only [ill, decide_eq_false_iff_not, hd, get!_eq s i h]
    omega
  simp [one, this, hd]

theorem slow_bad1 (n b0 b1 b2 b3 sz lo hi : Nat) (hsz : 2 ≤ sz) (h : ¬ (1 < n ∧ lo ≤ b1 ∧ b1 ≤ hi)) : slowN n b0 b1 b2 b3 sz lo hi = (65533, 1) := by
  unfold slowN
  split
  · rfl
  · rw [if_pos (by omega)]
theorem slow_bad2 (n b0 b1 b2 b3 sz lo hi : Nat) (hsz : 3 ≤ sz) (h : ¬ (2 < n ∧ 128 ≤ b2 ∧ b2 ≤ 191)) : slowN n b0 b1 b2 b3 sz lo hi = (65533, 1) := by
  unfold slowN
  split
  · rfl
  · split
    · rfl
    · rw [if_neg (by omega), if_pos (by omega)]
theorem slow_bad3 (n b0 b1 b2 b3 sz lo hi : Nat) (hsz : 4 ≤ sz) (h : ¬ (3 < n ∧ 128 ≤ b3 ∧ b3 ≤ 191)) : slowN n b0 b1 b2 b3 sz lo hi = (65533, 1) := by
  unfold slowN
  split
  · rfl
  · split
    · rfl
    · rw [if_neg (by omega)]
      split
      · rfl
      · rw [if_neg (by omega), if_pos (by omega)]
theorem slow_ok2 (n b0 b1 b2 b3 lo hi : Nat) (h1 : 1 < n ∧ lo ≤ b1 ∧ b1 ≤ hi) : slowN n b0 b1 b2 b3 2 lo hi = (b0 % 32 * 64 + b1 % 64, 2) := by
  unfold slowN
  rw [if_neg (by omega), if_neg (by omega), if_pos (by omega)]
theorem slow_ok3 (n b0 b1 b2 b3 lo hi : Nat) (h1 : 1 < n ∧ lo ≤ b1 ∧ b1 ≤ hi) (h2 : 2 < n ∧ 128 ≤ b2 ∧ b2 ≤ 191) : slowN n b0 b1 b2 b3 3 lo hi = (b0 % 16 * 4096 + b1 % 64 * 64 + b2 % 64, 3) := by
  unfold slowN
  rw [if_neg (by omega), if_neg (by omega), if_neg (by omega), if_neg (by omega), if_pos (by omega)]
theorem slow_ok4 (n b0 b1 b2 b3 lo hi : Nat) (h1 : 1 < n ∧ lo ≤ b1 ∧ b1 ≤ hi) (h2 : 2 < n ∧ 128 ≤ b2 ∧ b2 ≤ 191) (h3 : 3 < n ∧ 128 ≤ b3 ∧ b3 ≤ 191) : slowN n b0 b1 b2 b3 4 lo hi = (b0 % 8 * 262144 + b1 % 64 * 4096 + b2 % 64 * 64 + b3 % 64, 4) := by
  unfold slowN
  rw [if_neg (by omega), if_neg (by omega), if_neg (by omega), if_neg (by omega), if_neg (by omega), if_neg (by omega)]

theorem inB_nat {s : ByteArray} {i k : Nat} {lo hi : Nat} : inB s (i + k) (lo : Int) (hi : Int) = true ↔ (k < s.size - i ∧ lo ≤ (s.get! (i + k)).toNat ∧ (s.get! (i + k)).toNat ≤ hi) := by
  simp only [inB, decide_eq_true_eq]
  omega
end Go.Proofs.Qxb6613280a
