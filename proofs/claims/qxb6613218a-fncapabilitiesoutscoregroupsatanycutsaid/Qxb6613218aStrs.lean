/-
  THE CONTRACTS of the small functions on the roads of the three laws over lists of strings: the length guards (they give some bool and turn nothing) and the two scores (25 and 20 an element).
-/
import Derived.Test.Qxb6613218aRows
import Derived.WalkKit
import Derived.WalkSpells
import Derived.WalkLawsBesides
import Derived.Handy
namespace Go.Proofs.Qxb6613218a
open Go.RowKit

/-- WHAT A WALK IS TOLD OF A SLICE OF STRINGS: it is nil; or its elements lie behind its address, each a string that fits. -/
def IsStrs (w : World) (a : Option Addr) (len cap : Nat) : Prop :=
  (a = none ∧ len = 0 ∧ cap = 0) ∨
  ∃ x, a = some x ∧ len ≤ cap ∧ cap ≤ maxLen ∧ ∀ i, i < len → ∃ s : ByteArray, w.cell? (x.add i) = some (.string s) ∧ s.size ≤ maxLen

theorem addr_add (b off i : Nat) : (⟨b, off, none⟩ : Addr).add i = ⟨b, off + i, none⟩ := by
  by_cases h : i = 0 <;> simp [Addr.add, h]

/-- The call gives some bool. (A definition, so that the walk leaves it standing.) -/
def SomeBool (e : Ending) : Prop := ∃ b : Bool, e = .returned (.bool b)
theorem someBool_mk (b : Bool) : SomeBool (.returned (.bool b)) := ⟨b, rfl⟩

/-- The two ways into which a walk parts: no element; or a plain address with the elements' cells behind it. -/
theorem IsStrs.cases {w : World} {a : Option Addr} {len cap : Nat} (h : IsStrs w a len cap) :
    len = 0 ∨ ∃ b off, a = some ⟨b, off, none⟩ ∧ 0 < len ∧ len ≤ cap ∧ cap ≤ maxLen ∧ ∀ i, i < len → ∃ s : ByteArray, w.cell? ⟨b, off + i, none⟩ = some (.string s) ∧ s.size ≤ maxLen := by
  rcases h with ⟨_, h, _⟩ | ⟨x, rfl, hl, hm, hc⟩
  · exact .inl h
  · by_cases h0 : len = 0
    · exact .inl h0
    · right
      obtain ⟨b, off, spot⟩ := x
      obtain ⟨s, hs, _⟩ := hc 0 (by omega)
      have hspot : spot = none := by simpa [Addr.add] using World.cell?_spot hs
      subst hspot
      refine ⟨b, off, rfl, by omega, hl, hm, fun i hi => ?_⟩
      obtain ⟨s, h1, h2⟩ := hc i hi
      exact ⟨s, by rwa [addr_add] at h1, h2⟩

theorem points25 (a : Option Addr) (n cap : Nat) (hn : n ≤ 5000) (w : World) :
    Calls Try.prog 14 #[.slice a n cap] w fun e w' => e = .returned (.int .i64 (25 * (n : Int))) ∧ w' = w := by
  go_enter Try.func14, Try.ntmps14
  go_wp2
  go_ret
  exact ⟨rfl, rfl⟩

theorem points20 (a : Option Addr) (n cap : Nat) (hn : n ≤ 5000) (w : World) :
    Calls Try.prog 15 #[.slice a n cap] w fun e w' => e = .returned (.int .i64 (20 * (n : Int))) ∧ w' = w := by
  go_enter Try.func15, Try.ntmps15
  go_wp2
  go_ret
  exact ⟨rfl, rfl⟩

theorem within_any (a : Option Addr) (len cap : Nat) (x : Int) (w : World) (h : IsStrs w a len cap) (hl : len ≤ 4096) :
    Calls Try.prog 13 #[.slice a len cap, .int .i64 x] w fun e w' => SomeBool e ∧ w' = w := by
  rcases h.cases with rfl | ⟨b, off, rfl, hp, hlc, hm, hc⟩
  · go_enter Try.func13, Try.ntmps13
    go_wp2
    · go_ret
      exact ⟨someBool_mk _, rfl⟩
    · go_rounds 1
      go_ret
      exact ⟨someBool_mk _, rfl⟩
  · clear h
    unfold maxLen at hm
    go_enter Try.func13, Try.ntmps13
    go_wp2
    · go_ret
      exact ⟨someBool_mk _, rfl⟩
    · go_loop [5, 6] (fun t i => ∃ (k : Nat) (z : Int), k ≤ len ∧ i = .int .i64 k ∧ t = .int .i64 z) (fun _ i => len - (intOf i).toNat)
      case atStart => exact ⟨0, _, Nat.zero_le _, rfl, rfl⟩
      case round =>
        obtain ⟨k, z, hk, rfl, rfl⟩ := hrel
        by_cases hlt : k < len
        · obtain ⟨s, hs, hsz⟩ := hc k hlt
          unfold maxLen at hsz
          clear hc
          go_wp2
          · go_ret
            exact ⟨someBool_mk _, rfl⟩
          · go_round
            case rel => exact ⟨k + 1, _, by omega, by go_num, rfl⟩
            case measure => simp [intOf]; omega
        · clear hc
          go_wp2
          go_ret
          exact ⟨someBool_mk _, rfl⟩

theorem bytes16_any (a : Option Addr) (len cap : Nat) (i : Int) (t : ByteArray) (w : World) (h : IsStrs w a len cap) (ht : t.size ≤ maxLen) :
    Calls Try.prog 16 #[.slice a len cap, .int .i64 i, .string t] w fun e w' => SomeBool e ∧ w' = w := by
  unfold maxLen at ht
  rcases h.cases with rfl | ⟨b, off, rfl, hp, hlc, hm, hc⟩
  · go_enter Try.func16, Try.ntmps16
    go_wp2
    go_rounds 1
    all_goals (go_ret; exact ⟨someBool_mk _, rfl⟩)
  · clear h
    unfold maxLen at hm
    go_enter Try.func16, Try.ntmps16
    go_wp2_with fail
    all_goals first
      | (go_ret; exact ⟨someBool_mk _, rfl⟩)
      | skip
    go_loop [7, 8] (fun t i => ∃ (k : Nat) (z : Int), k ≤ len ∧ i = .int .i64 k ∧ t = .int .i64 z) (fun _ i => len - (intOf i).toNat)
    case atStart => exact ⟨0, _, Nat.zero_le _, rfl, rfl⟩
    case round =>
      obtain ⟨k, z, hk, rfl, rfl⟩ := hrel
      by_cases hlt : k < len
      · obtain ⟨s, hs, hsz⟩ := hc k hlt
        unfold maxLen at hsz
        clear hc
        go_wp2
        all_goals first
          | (go_ret; exact ⟨someBool_mk _, rfl⟩)
          | (go_round; (case rel => exact ⟨k + 1, _, by omega, by go_num, rfl⟩); (case measure => simp [intOf]; omega))
      · clear hc
        go_wp2
        all_goals (go_ret; exact ⟨someBool_mk _, rfl⟩)

theorem bytes17_any (a : Option Addr) (len cap : Nat) (i : Int) (t : ByteArray) (w : World) (h : IsStrs w a len cap) (ht : t.size ≤ maxLen) :
    Calls Try.prog 17 #[.slice a len cap, .int .i64 i, .string t] w fun e w' => SomeBool e ∧ w' = w := by
  unfold maxLen at ht
  rcases h.cases with rfl | ⟨b, off, rfl, hp, hlc, hm, hc⟩
  · go_enter Try.func17, Try.ntmps17
    go_wp2
    go_rounds 1
    all_goals (go_ret; exact ⟨someBool_mk _, rfl⟩)
  · clear h
    unfold maxLen at hm
    go_enter Try.func17, Try.ntmps17
    go_wp2_with fail
    all_goals first
      | (go_ret; exact ⟨someBool_mk _, rfl⟩)
      | skip
    go_loop [7, 8] (fun t i => ∃ (k : Nat) (z : Int), k ≤ len ∧ i = .int .i64 k ∧ t = .int .i64 z) (fun _ i => len - (intOf i).toNat)
    case atStart => exact ⟨0, _, Nat.zero_le _, rfl, rfl⟩
    case round =>
      obtain ⟨k, z, hk, rfl, rfl⟩ := hrel
      by_cases hlt : k < len
      · obtain ⟨s, hs, hsz⟩ := hc k hlt
        unfold maxLen at hsz
        clear hc
        go_wp2
        all_goals first
          | (go_ret; exact ⟨someBool_mk _, rfl⟩)
          | (go_round; (case rel => exact ⟨k + 1, _, by omega, by go_num, rfl⟩); (case measure => simp [intOf]; omega))
      · clear hc
        go_wp2
        all_goals (go_ret; exact ⟨someBool_mk _, rfl⟩)

theorem bytes12_any (a : Option Addr) (len cap : Nat) (i : Int) (w : World) (h : IsStrs w a len cap) :
    Calls Try.prog 12 #[.slice a len cap, .int .i64 i] w fun e w' => SomeBool e ∧ w' = w := by
  rcases h.cases with rfl | ⟨b, off, rfl, hp, hlc, hm, hc⟩
  · go_enter Try.func12, Try.ntmps12
    go_wp2
    go_rounds 1
    all_goals (go_ret; exact ⟨someBool_mk _, rfl⟩)
  · clear h
    unfold maxLen at hm
    go_enter Try.func12, Try.ntmps12
    go_wp2_with fail
    all_goals first
      | (go_ret; exact ⟨someBool_mk _, rfl⟩)
      | skip
    go_loop [5, 6] (fun t i => ∃ (k : Nat) (z : Int), k ≤ len ∧ i = .int .i64 k ∧ t = .int .i64 z) (fun _ i => len - (intOf i).toNat)
    case atStart => exact ⟨0, _, Nat.zero_le _, rfl, rfl⟩
    case round =>
      obtain ⟨k, z, hk, rfl, rfl⟩ := hrel
      by_cases hlt : k < len
      · obtain ⟨s, hs, hsz⟩ := hc k hlt
        unfold maxLen at hsz
        clear hc
        go_wp2
        all_goals first
          | (go_ret; exact ⟨someBool_mk _, rfl⟩)
          | (go_round; (case rel => exact ⟨k + 1, _, by omega, by go_num, rfl⟩); (case measure => simp [intOf]; omega))
      · clear hc
        go_wp2
        all_goals (go_ret; exact ⟨someBool_mk _, rfl⟩)
end Go.Proofs.Qxb6613218a
