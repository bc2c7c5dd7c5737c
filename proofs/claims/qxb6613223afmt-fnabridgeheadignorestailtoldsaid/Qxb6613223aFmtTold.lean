/-
  fmt's TEXT, TOLD; what Abridge gives under it; the law's walk.
-/
import Derived.Test.Qxb6613223aFmtHead
import Derived.Stop.JoinedTold
import Derived.Stop.Texts
import Derived.Stop.FmtTextKit
import Derived.Stop.FmtTextVerbs
import Derived.Lib.Strings
import Derived.Deep.RegionWith
namespace Go.Proofs.Qxb6613223aFmt
open Go.RowKit Go.Extern.Stop Go.Stop Go.Extern

/-- The tail as bytes. -/
def tailL (n : Nat) : List UInt8 := [46, 46, 46, 32, 40] ++ (digs n ++ [32, 98, 121, 116, 101, 115, 41])
theorem tailOf_list (n : Nat) : (tailOf n).data.toList = tailL n := by
  simp [tailOf, tailL]
theorem tailL_len (n : Nat) : (tailL n).length = (digs n).length + 12 := by simp [tailL]

-- what the one format of the text parses to
theorem t_parse : (FmtText.parse [37, 115, 46, 46, 46, 32, 40, 37, 100, 32, 98, 121, 116, 101, 115, 41]).map FmtText.glue = some [.verb {} 115, .lit [46, 46, 46, 32, 40], .verb {} 100, .lit [32, 98, 121, 116, 101, 115, 41]] := by rfl

theorem i64_wf (n : Nat) (h : n ≤ 1048576) : (Lit.int .i64 (n : Int)).wf = true := by
  simp only [Lit.wf, IntKind.min, IntKind.max, IntKind.signed, IntKind.bits, Bool.and_eq_true, decide_eq_true_eq, if_true]
  omega

theorem t_text (h : List UInt8) (n : Nat) (hs : h.length < 2 ^ 64) (h0 : 0 < n) (hn : n ≤ 1048576) : FmtText.text "fmt.Sprintf" (reading h n) = some (h ++ tailL n) := by
  have hw := i64_wf n hn
  have hi := FmtText.operand_int_at (sh := shape3) (k := .i64) rfl rfl (n : Int) hw
  have hh := FmtText.operand_str_at (sh := shape9) rfl rfl h hs
  have e : n % 18446744073709551616 = ((n : Int) % 18446744073709551616).toNat := by omega
  rw [reading, e, FmtText.text_sprintf_glued t_parse (FmtText.operands_cons hh (FmtText.operands_cons hi FmtText.operands_nil))]
  simp [FmtText.render, FmtText.printArg_d _ _ hw, FmtText.printArg_s_str, tailL, itoa_digs n h0]

/-- What Abridge gives for a long text. -/
def abr (s : ByteArray) : ByteArray := ⟨(s.data.toList.take (cutOf s) ++ tailL s.size).toArray⟩

theorem ident_told (F : Interp) (s : ByteArray) (w : World) (hF : F.told.answers w.tape) (hs : s.size ≤ 1048576) (h : 256 < s.size) :
    Calls Tryf.prog 5 #[.string s] w fun e w' => e = .returned (.string (abr s)) ∧ Below w.heap.size w w' := by
  refine (ident_long F.told s w hF hs h).mono fun e w' ⟨he, hb⟩ => ⟨?_, hb⟩
  subst he
  have hr := cutOf_range s h
  have hd := digs_len 7 s.size (by omega)
  have hl := tailL_len s.size
  have ht := told_string F (t_text (s.data.toList.take (cutOf s)) s.size (by simp; omega) (by omega) hs) (by simp; omega)
  have e1 : FmtStop.textOf (F.told "fmt.Sprintf" (reading (s.data.toList.take (cutOf s)) s.size) 0) = abr s := by
    apply ByteArray.ext
    apply Array.toList_inj.1
    rw [Kit.textOf_list, ht]
    simp [abr]
  rw [e1]

theorem abr_size (s : ByteArray) (h : 256 < s.size) : (abr s).size = cutOf s + (tailOf s.size).size := by
  have hr := cutOf_range s h
  have hl : s.data.toList.length = s.size := by simp
  have ht : (tailOf s.size).size = (tailL s.size).length := by rw [← tailOf_list]; simp
  show (s.data.toList.take (cutOf s) ++ tailL s.size).toArray.size = _
  rw [ht]
  simp
  omega
theorem abr_tail (s : ByteArray) (h : 256 < s.size) : (abr s).extract (cutOf s) (abr s).size = tailOf s.size := by
  have hr := cutOf_range s h
  have hl : s.data.toList.length = s.size := by simp
  apply ByteArray.ext
  apply Array.toList_inj.1
  rw [Lib.extract_data, abr_size s h, tailOf_list]
  have ht : (tailOf s.size).size = (tailL s.size).length := by rw [← tailOf_list]; simp
  have e : (s.data.toList.take (cutOf s)).length = cutOf s := by rw [List.length_take]; omega
  show ((s.data.toList.take (cutOf s) ++ tailL s.size).drop (cutOf s)).take (cutOf s + (tailOf s.size).size - cutOf s) = _
  rw [List.drop_append_of_le_length (by omega), List.drop_of_length_le (by omega), List.nil_append, List.take_of_length_le (by omega)]
theorem abr_head (s : ByteArray) (h : 256 < s.size) : (abr s).extract 0 (cutOf s) = s.extract 0 (cutOf s) := by
  have hr := cutOf_range s h
  have hl : s.data.toList.length = s.size := by simp
  apply ByteArray.ext
  apply Array.toList_inj.1
  rw [Lib.extract_data, Lib.extract_data]
  have e : (s.data.toList.take (cutOf s)).length = cutOf s := by rw [List.length_take]; omega
  show ((s.data.toList.take (cutOf s) ++ tailL s.size).drop 0).take (cutOf s - 0) = _
  simp only [List.drop_zero, Nat.sub_zero]
  rw [List.take_append_of_le_length (by omega), List.take_take, Nat.min_self]

theorem head_told (s : ByteArray) (w : World) (hs : s.size ≤ 1048576) (h : 256 < s.size) :
    Calls Tryf.prog 6 #[.string (abr s), .int .i64 s.size] w fun e w' => e = .returned (.tuple #[.string (s.extract 0 (cutOf s)), .bool true]) ∧ Below w.heap.size w w' := by
  have hr := cutOf_range s h
  have := head_any (abr s) s.size (cutOf s) (by omega) hs hr.2 (abr_size s h) (abr_tail s h) w
  rwa [abr_head s h] at this

/-- The call gives some bool. (A definition, so that the walk leaves it standing.) -/
def SomeBool (e : Ending) : Prop := ∃ b : Bool, e = .returned (.bool b)
theorem bytes_any (t u : ByteArray) (ht : t.size ≤ maxLen) (hu : u.size ≤ maxLen) (w : World) :
    Calls Tryf.prog 4 #[.string t, .string u] w fun e w' => SomeBool e ∧ w' = w := by
  unfold maxLen at ht hu
  go_enter Tryf.func4, Tryf.ntmps4
  go_wp2
  all_goals (go_ret; exact ⟨⟨_, rfl⟩, rfl⟩)

set_option maxHeartbeats 1000000 in
theorem law_short (t u : ByteArray) (w : World) (h : t.size + u.size ≤ 256) :
    Calls Tryf.prog 3 #[.string t, .string u] w fun e w' => e = .returned (.bool true) ∧ Below w.heap.size w w' := by
  go_enter Tryf.func3, Tryf.ntmps3
  go_wp2_with (first
    | (go_at_call 4; refine (bytes_any _ _ (by unfold maxLen; omega) (by unfold maxLen; omega) _).mono ?_; rintro e w' ⟨⟨b, rfl⟩, hw'⟩; obtain rfl := hw'.symm; clear hw')
    | (go_at_call 5; refine (ident_short _ _ (by rw [ByteArray.size_append]; omega)).mono ?_; rintro e w' ⟨rfl, hw'⟩; obtain rfl := hw'.symm; clear hw'))
  all_goals (go_ret; exact ⟨by first | rfl | simp, Below.refl _ _⟩)

/-- The head under a name: its size, and that it is a head of the text. -/
theorem head_name (s : ByteArray) (h : 256 < s.size) : ∃ hd : ByteArray, Hid (hd = s.extract 0 (cutOf s)) ∧ 253 ≤ hd.size ∧ hd.size ≤ 256 ∧ Hid (s.extract 0 hd.size = hd) := by
  have hr := cutOf_range s h
  have e : (s.extract 0 (cutOf s)).size = cutOf s := by rw [ByteArray.size_extract]; omega
  exact ⟨_, rfl, by omega, by omega, show _ = _ by rw [e]⟩

theorem extract_append_head (t u : ByteArray) (k : Nat) (h : k ≤ t.size) : (t ++ u).extract 0 k = t.extract 0 k := by
  have hl : t.data.toList.length = t.size := by simp
  apply ByteArray.ext
  apply Array.toList_inj.1
  rw [Lib.extract_data, Lib.extract_data]
  simp only [List.drop_zero, Nat.sub_zero, ByteArray.data_append, Array.toList_append]
  rw [List.take_append_of_le_length (by omega)]

theorem no_way {hd S : ByteArray} (HE : Hid (S.extract 0 hd.size = hd)) (h1 : 253 ≤ hd.size) (h2 : hd.size ≤ 256)
    (h : ((hd.size : Int) < 253 ∨ 256 < (hd.size : Int)) ∨ (!hd.toList == (S.extract 0 hd.size).toList) = true) : False := by
  rcases h with h | h
  · omega
  · rw [HE.out] at h
    simp at h

set_option maxRecDepth 100000 in
set_option maxHeartbeats 2000000 in
theorem law_long (F : Interp) (t u : ByteArray) (w : World) (hF : F.told.answers w.tape) (ht : t.size ≤ maxLen) (hu : u.size ≤ maxLen) (h : 256 < t.size + u.size) :
    Calls Tryf.prog 3 #[.string t, .string u] w fun e w' => e = .returned (.bool true) ∧ Below w.heap.size w w' := by
  have ht' := ht
  have hu' := hu
  unfold maxLen at ht' hu'
  have hz : (t ++ u).size = t.size + u.size := ByteArray.size_append
  obtain ⟨hd, HD, hd1, hd2, hex⟩ := head_name (t ++ u) (by omega)
  go_enter Tryf.func3, Tryf.ntmps3
  go_wp2_with (go_at_call 4; refine (bytes_any _ _ ht hu _).mono ?_; rintro e w' ⟨⟨b, rfl⟩, hw'⟩; obtain rfl := hw'.symm; clear hw')
  all_goals first
    | (go_ret; exact ⟨rfl, Below.refl _ _⟩)
    | skip
  refine (ident_told F (t ++ u) _ hF (by omega) (by omega)).mono ?_
  rintro e w1 ⟨rfl, hb1⟩
  go_wp2_with fail
  have hh := head_told (t ++ u) w1 (by omega) (by omega)
  rw [hz, Int.natCast_add, ← HD.out] at hh
  refine hh.mono ?_
  clear hh
  rintro e w2 ⟨rfl, hb2⟩
  have hb12 : Below w.heap.size w w2 := hb1.trans (hb2.mono hb1.size)
  by_cases h260 : t.size < 260
  · go_wp2
    · exact (no_way hex hd1 hd2 (by assumption)).elim
    · go_ret
      exact ⟨rfl, hb12⟩
  · go_wp2_with fail
    · exact (no_way hex hd1 hd2 (by assumption)).elim
    refine (ident_told F t _ (by rw [hb12.tape]; exact hF) (by omega) (by omega)).mono ?_
    rintro e w3 ⟨rfl, hb3⟩
    have hb13 : Below w.heap.size w w3 := hb12.trans (hb3.mono hb12.size)
    go_wp2_with fail
    have hh := head_told t w3 (by omega) (by omega)
    have eh : t.extract 0 (cutOf t) = hd := by
      have hr := cutOf_range t (by omega)
      rw [HD.out, cutOf_append t u (by omega), extract_append_head t u _ (by omega)]
    rw [eh] at hh
    clear eh
    refine hh.mono ?_
    clear hh
    rintro e w4 ⟨rfl, hb4⟩
    have hb14 : Below w.heap.size w w4 := hb13.trans (hb4.mono hb13.size)
    go_wp2
    go_ret
    exact ⟨rfl, hb14⟩
end Go.Proofs.Qxb6613223aFmt
