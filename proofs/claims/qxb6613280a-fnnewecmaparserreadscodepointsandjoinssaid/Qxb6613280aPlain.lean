/-
  THE PLAIN LAYER: the code points of a string over the model's own decoder; where the string is well formed they join; no Go in sight.
-/
import Derived.Lib.TrimU
import Derived.Lib.RuneCountTail
import GoSem.Conv.StringToRunes
namespace Go.Proofs.Qxb6613280a
open Go.Lib

/-- The code points of s from place i on, at most f of them. -/
def runesF (s : ByteArray) : Nat → Nat → List Int
  | 0, _ => []
  | f + 1, i => if i < s.size then ((Utf8.decode s i).1 : Int) :: runesF s f (i + (Utf8.decode s i).2) else []
/-- The code points of s. -/
def runes (s : ByteArray) : List Int := runesF s s.size 0

theorem runesFrom_eq (s : ByteArray) : ∀ (f i : Nat) (acc : Array Value), Conv.runesFrom s f i acc = acc ++ ((runesF s f i).map (Value.int .i32)).toArray
  | 0, _, acc => by simp [Conv.runesFrom, runesF]
  | f + 1, i, acc => by
    unfold Conv.runesFrom runesF
    split
    · show Conv.runesFrom s f (i + (Utf8.decode s i).2) (acc.push (Value.int .i32 (Int.ofNat (Utf8.decode s i).1))) = _
      rw [runesFrom_eq s f]; simp
    · simp
theorem runesFrom_runes (s : ByteArray) : Conv.runesFrom s s.size 0 #[] = ((runes s).map (Value.int .i32)).toArray := by rw [runesFrom_eq]; simp [runes]

theorem runesF_len (s : ByteArray) : ∀ (f i : Nat), (runesF s f i).length ≤ f
  | 0, _ => by simp [runesF]
  | f + 1, i => by
    unfold runesF
    split
    · have := runesF_len s f (i + (Utf8.decode s i).2); simp; omega
    · simp
theorem runes_len (s : ByteArray) : (runes s).length ≤ s.size := runesF_len s s.size 0

theorem decodeN_le4 (n b0 b1 b2 b3 : Nat) : (decodeN n b0 b1 b2 b3).2 ≤ 4 := by
  unfold decodeN
  repeat' split
  all_goals simp
theorem width_le4 (s : ByteArray) (i : Nat) : (Utf8.decode s i).2 ≤ 4 := by rw [decode_at]; exact decodeN_le4 _ _ _ _ _
theorem decodeN_width_le (n b0 b1 b2 b3 : Nat) (hn : 1 ≤ n) : (decodeN n b0 b1 b2 b3).2 ≤ n := by
  unfold decodeN
  repeat' split
  all_goals (simp only; omega)
theorem width_le (s : ByteArray) (i : Nat) (h : i < s.size) : i + (Utf8.decode s i).2 ≤ s.size := by
  have := decodeN_width_le (s.size - i) (s.get! i).toNat (s.get! (i + 1)).toNat (s.get! (i + 2)).toNat (s.get! (i + 3)).toNat (by omega)
  rw [decode_at]; omega

/-- More fuel gives no more. -/
theorem runesF_fuel (s : ByteArray) : ∀ (f f' i : Nat), s.size ≤ i + f → s.size ≤ i + f' → runesF s f i = runesF s f' i
  | 0, 0, _, _, _ => rfl
  | 0, f' + 1, i, h, _ => by unfold runesF; rw [if_neg (by omega)]
  | f + 1, 0, i, _, h => by unfold runesF; rw [if_neg (by omega)]
  | f + 1, f' + 1, i, h, h' => by
    unfold runesF
    split
    · have := width_pos s i
      rw [runesF_fuel s f f' (i + (Utf8.decode s i).2) (by omega) (by omega)]
    · rfl

/-- No well-formed sequence begins at place i. -/
def ill (s : ByteArray) (i : Nat) : Bool := decide ((Utf8.decode s i).2 = 1 ∧ 128 ≤ (s.get! i).toNat)

theorem decodeN_ill (n b0 b1 b2 b3 : Nat) (h : (decodeN n b0 b1 b2 b3).2 = 1) (h0 : 128 ≤ b0) : decodeN n b0 b1 b2 b3 = (65533, 1) := by
  unfold decodeN at h ⊢
  rw [if_neg (by omega)] at h ⊢
  split at h
  · split at h
    · simp at h
    · rename_i h1 h2; rw [if_pos h1, if_neg h2]
  · rename_i h1
    rw [if_neg h1]
    split at h
    · split at h
      · simp at h
      · rename_i h2 h3; rw [if_pos h2, if_neg h3]
    · rename_i h2
      rw [if_neg h2]
      split at h
      · split at h
        · simp at h
        · rename_i h3 h4; rw [if_pos h3, if_neg h4]
      · rename_i h3; rw [if_neg h3]
theorem decode_ill (s : ByteArray) (i : Nat) (h : ill s i = true) : Utf8.decode s i = (65533, 1) := by
  simp only [ill, decide_eq_true_eq] at h
  rw [decode_at] at h ⊢
  exact decodeN_ill _ _ _ _ _ h.1 h.2

/-- A sequence that is not ill is read alike where more bytes follow. -/
theorem decodeN_more' (n n' b0 b1 b2 b3 c1 c2 c3 : Nat) (hnn : n ≤ n') (h1 : 1 < n → c1 = b1) (h2 : 2 < n → c2 = b2) (h3 : 3 < n → c3 = b3)
    (hw : b0 < 128 ∨ (decodeN n b0 b1 b2 b3).2 ≠ 1) : decodeN n' b0 c1 c2 c3 = decodeN n b0 b1 b2 b3 := by
  by_cases h0 : b0 < 128
  · simp [decodeN, h0]
  · have hw' := hw.resolve_left h0
    unfold decodeN at hw' ⊢
    rw [if_neg h0] at hw' ⊢
    rw [if_neg h0]
    by_cases a : b0 / 32 = 6 ∧ (1 < n ∧ b1 / 64 = 2)
    · obtain rfl := h1 a.2.1
      rw [if_pos a, if_pos (by omega)]
    · rw [if_neg a] at hw' ⊢
      by_cases b : b0 / 16 = 14 ∧ (1 < n ∧ b1 / 64 = 2) ∧ (2 < n ∧ b2 / 64 = 2)
      · obtain rfl := h1 b.2.1.1
        obtain rfl := h2 b.2.2.1
        rw [if_pos b, if_neg (by omega), if_pos (by omega)]
      · rw [if_neg b] at hw' ⊢
        by_cases c : b0 / 8 = 30 ∧ (1 < n ∧ b1 / 64 = 2) ∧ (2 < n ∧ b2 / 64 = 2) ∧ (3 < n ∧ b3 / 64 = 2)
        · obtain rfl := h1 c.2.1.1
          obtain rfl := h2 c.2.2.1.1
          obtain rfl := h3 c.2.2.2.1
          rw [if_pos c, if_neg (by omega), if_neg (by omega), if_pos (by omega)]
        · rw [if_neg c] at hw'
          simp at hw'

theorem get!_append (t u : ByteArray) (i : Nat) (h : i < t.size) : (t ++ u).get! i = t.get! i := by
  have h1 : i < (t ++ u).size := by rw [ByteArray.size_append]; omega
  have e1 : (t ++ u).get! i = (t ++ u)[i] := by
    show (t ++ u).data[i]! = (t ++ u).data[i]
    exact getElem!_pos _ _ _
  have e2 : t.get! i = t[i] := by
    show t.data[i]! = t.data[i]
    exact getElem!_pos _ _ _
  rw [e1, e2, ByteArray.getElem_append_left h]

theorem decode_append (a b : ByteArray) (i : Nat) (h : i < a.size) (hi : ill a i = false) : Utf8.decode (a ++ b) i = Utf8.decode a i := by
  have hs : (a ++ b).size = a.size + b.size := ByteArray.size_append
  simp only [ill, decide_eq_false_iff_not] at hi
  rw [decode_at a] at hi
  rw [decode_at, decode_at, get!_append a b i h]
  refine decodeN_more' _ _ _ _ _ _ _ _ _ (by omega) (fun h' => by rw [get!_append a b _ (by omega)]) (fun h' => by rw [get!_append a b _ (by omega)]) (fun h' => by rw [get!_append a b _ (by omega)]) ?_
  omega

/-- No ill place among the starts from i on. -/
def wellF (s : ByteArray) : Nat → Nat → Bool
  | 0, _ => true
  | f + 1, i => if i < s.size then (!ill s i && wellF s f (i + (Utf8.decode s i).2)) else true
def well (s : ByteArray) : Bool := wellF s s.size 0

theorem runesF_tail (a b : ByteArray) : ∀ (f j : Nat), runesF (a ++ b) f (a.size + j) = runesF b f j
  | 0, _ => rfl
  | f + 1, j => by
    have hs : (a ++ b).size = a.size + b.size := ByteArray.size_append
    have hd : Utf8.decode (a ++ b) (a.size + j) = Utf8.decode b j := by
      rw [← tail_decode]
      congr 1
      apply ByteArray.ext
      apply Array.toList_inj.1
      have hl : a.data.toList.length = a.size := by simp
      have hl' : b.data.toList.length = b.size := by simp
      rw [extract_data, hs]
      simp only [ByteArray.data_append, Array.toList_append]
      rw [List.drop_append_of_le_length (by omega), List.drop_of_length_le (by omega), List.nil_append, List.take_of_length_le (by omega)]
    unfold runesF
    by_cases h : j < b.size
    · rw [if_pos (by omega), if_pos h, hd, Nat.add_assoc, runesF_tail a b f]
    · rw [if_neg (by omega), if_neg h]

theorem runesF_join (a b : ByteArray) : ∀ (f i : Nat), a.size ≤ i + f → i ≤ a.size → wellF a f i = true → runesF (a ++ b) (f + b.size) i = runesF a f i ++ runesF b b.size 0
  | 0, i, h, hi, _ => by
    obtain rfl : i = a.size := by omega
    have := runesF_tail a b b.size 0
    simpa [runesF] using this
  | f + 1, i, h, hi, hw => by
    have hs : (a ++ b).size = a.size + b.size := ByteArray.size_append
    by_cases hlt : i < a.size
    · rw [wellF, if_pos hlt] at hw
      simp only [Bool.and_eq_true, Bool.not_eq_true'] at hw
      have hd := decode_append a b i hlt hw.1
      have hp := width_pos a i
      have hl := width_le a i hlt
      rw [show f + 1 + b.size = (f + b.size) + 1 by omega, runesF, if_pos (by omega), runesF, if_pos hlt, hd, runesF_join a b f _ (by omega) (by omega) hw.2]
      rfl
    · obtain rfl : i = a.size := by omega
      have e : runesF a (f + 1) a.size = [] := by rw [runesF, if_neg (by omega)]
      rw [e]
      have := runesF_tail a b (f + 1 + b.size) 0
      rw [show a.size + 0 = a.size from rfl] at this
      rw [this, List.nil_append]
      exact runesF_fuel b _ _ _ (by omega) (by omega)

theorem runes_join (a b : ByteArray) (h : well a = true) : runes (a ++ b) = runes a ++ runes b := by
  have hs : (a ++ b).size = a.size + b.size := ByteArray.size_append
  unfold runes
  rw [hs]
  exact runesF_join a b a.size 0 (by omega) (by omega) h
end Go.Proofs.Qxb6613280a
