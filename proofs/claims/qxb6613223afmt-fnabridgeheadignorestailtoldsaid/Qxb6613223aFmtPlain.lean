/-
  THE PLAIN LAYER: where Abridge cuts, over the model's own decoder; no Go in sight.
-/
import Derived.Lib.TrimU
import Derived.Lib.ItoaNum
namespace Go.Proofs.Qxb6613223aFmt
open Go.Lib

/-- The last place, at most 256, where a character begins (from place pos on; 'cut': the last one met so far), by at most so many characters. -/
def cutF (s : ByteArray) : Nat → Nat → Nat → Nat
  | 0, _, cut => cut
  | f + 1, pos, cut => if pos < s.size then (if 256 < pos then cut else cutF s f (pos + (Utf8.decode s pos).2) pos) else cut

def cutOf (s : ByteArray) : Nat := cutF s 300 0 0

theorem decodeN_le4 (n b0 b1 b2 b3 : Nat) : (decodeN n b0 b1 b2 b3).2 ≤ 4 := by
  unfold decodeN
  repeat' split
  all_goals simp
theorem width_le4 (s : ByteArray) (i : Nat) : (Utf8.decode s i).2 ≤ 4 := by rw [decode_at]; exact decodeN_le4 _ _ _ _ _

theorem decodeN_big (n n' b0 b1 b2 b3 : Nat) (h : 4 ≤ n) (h' : 4 ≤ n') : decodeN n b0 b1 b2 b3 = decodeN n' b0 b1 b2 b3 := by
  have e1 : (1 < n) = (1 < n') := propext ⟨fun _ => by omega, fun _ => by omega⟩
  have e2 : (2 < n) = (2 < n') := propext ⟨fun _ => by omega, fun _ => by omega⟩
  have e3 : (3 < n) = (3 < n') := propext ⟨fun _ => by omega, fun _ => by omega⟩
  unfold decodeN
  simp only [e1, e2, e3]

theorem get!_append (t u : ByteArray) (i : Nat) (h : i < t.size) : (t ++ u).get! i = t.get! i := by
  have h1 : i < (t ++ u).size := by rw [ByteArray.size_append]; omega
  have e1 : (t ++ u).get! i = (t ++ u)[i] := by
    show (t ++ u).data[i]! = (t ++ u).data[i]
    exact getElem!_pos _ _ _
  have e2 : t.get! i = t[i] := by
    show t.data[i]! = t.data[i]
    exact getElem!_pos _ _ _
  rw [e1, e2, ByteArray.getElem_append_left h]

theorem decode_append (t u : ByteArray) (i : Nat) (h : i + 4 ≤ t.size) : Utf8.decode (t ++ u) i = Utf8.decode t i := by
  rw [decode_at, decode_at, get!_append t u i (by omega), get!_append t u (i + 1) (by omega), get!_append t u (i + 2) (by omega), get!_append t u (i + 3) (by omega)]
  exact decodeN_big _ _ _ _ _ _ (by rw [ByteArray.size_append]; omega) (by omega)

theorem cutF_append (t u : ByteArray) (ht : 260 ≤ t.size) : ∀ (f pos cut : Nat), cutF (t ++ u) f pos cut = cutF t f pos cut
  | 0, _, _ => rfl
  | f + 1, pos, cut => by
    have hs : (t ++ u).size = t.size + u.size := ByteArray.size_append
    unfold cutF
    by_cases h : 256 < pos
    · simp only [h, if_true, ite_self]
    · rw [if_pos (by omega), if_neg h, if_pos (by omega), if_neg h, decode_append t u pos (by omega), cutF_append t u ht f]

theorem cutOf_append (t u : ByteArray) (ht : 260 ≤ t.size) : cutOf (t ++ u) = cutOf t := cutF_append t u ht 300 0 0

theorem cutF_range (s : ByteArray) (hs : 256 < s.size) : ∀ (f pos cut : Nat), 257 ≤ pos + f → cut ≤ 256 → (pos ≤ 256 ∨ 253 ≤ cut) → 253 ≤ cutF s f pos cut ∧ cutF s f pos cut ≤ 256
  | 0, pos, cut, h1, h2, h3 => by unfold cutF; omega
  | f + 1, pos, cut, h1, h2, h3 => by
    unfold cutF
    split
    · split
      · omega
      · have := width_le4 s pos
        have := width_pos s pos
        exact cutF_range s hs f _ pos (by omega) (by omega) (by omega)
    · omega

theorem cutOf_range (s : ByteArray) (hs : 256 < s.size) : 253 ≤ cutOf s ∧ cutOf s ≤ 256 := cutF_range s hs 300 0 0 (by omega) (by omega) (by omega)

theorem cutF_end (s : ByteArray) (f pos cut : Nat) (h : ¬ pos < s.size ∨ 256 < pos) : cutF s f pos cut = cut := by
  cases f with
  | zero => rfl
  | succ f =>
    unfold cutF
    rcases h with h | h
    · rw [if_neg h]
    · rw [if_pos h, ite_self]
theorem cutF_step (s : ByteArray) (f pos cut : Nat) (h : pos < s.size) (h' : ¬ 256 < pos) : cutF s (f + 1) pos cut = cutF s f (pos + (Utf8.decode s pos).2) pos := by
  rw [cutF, if_pos h, if_neg h']

/-! ### the numeral, digit by digit from the end -/
theorem decDigits_snoc (u : Nat) (h : 10 ≤ u) : decDigits u = decDigits (u / 10) ++ [UInt8.ofNat (48 + u % 10)] := by
  rw [decDigits, dif_neg (by omega)]
theorem decDigits_one (u : Nat) (h : u < 10) : decDigits u = [UInt8.ofNat (48 + u)] := by
  rw [decDigits, dif_pos h]
/-- The digits of u, none for 0. -/
def digs (u : Nat) : List UInt8 := if u = 0 then [] else decDigits u
theorem digs_step (u : Nat) (h : 0 < u) : digs u = digs (u / 10) ++ [UInt8.ofNat (48 + u % 10)] := by
  unfold digs
  rw [if_neg (by omega)]
  by_cases h10 : u < 10
  · rw [if_pos (by omega), decDigits_one u h10, Nat.mod_eq_of_lt h10]; rfl
  · rw [if_neg (by omega), decDigits_snoc u (by omega)]
theorem digs_len (k u : Nat) (h : u < 10 ^ k) : (digs u).length ≤ k := by
  induction k generalizing u with
  | zero => have : u = 0 := by simpa using h
            subst this; simp [digs]
  | succ k ih =>
    by_cases h0 : u = 0
    · subst h0; simp [digs]
    · rw [digs_step u (by omega)]
      have := ih (u / 10) (by rw [Nat.pow_succ] at h; omega)
      simp; omega
theorem itoa_digs (n : Nat) (h : 0 < n) : itoa (n : Int) = digs n := by
  unfold itoa digs
  rw [if_neg (by omega), if_neg (by omega)]; rfl
end Go.Proofs.Qxb6613223aFmt
