/-
  zzDecodeOne at every byte; THE WALK of zzDecode: the string's code points, and whether it is well formed.
-/
import Derived.Test.Qxb6613280aOneA
import Derived.Test.Qxb6613280aOneB
import Derived.Test.Qxb6613280aOneC
import Derived.Test.Qxb6613280aOneD
namespace Go.Proofs.Qxb6613280a
open Go.RowKit Go.Lib

set_option maxRecDepth 100000 in
theorem low_any (s : ByteArray) (i : Nat) (h : i < s.size) (_hs : s.size ≤ 1048576) (h1 : (s[i].toNat : Int) < 128) (w : World) :
    Calls Try.prog 25 #[.string s, .int .i64 i] w fun e w' => e = .returned (.tuple #[.int .i32 (s[i].toNat : Int), .int .i64 1]) ∧ ∃ n, w' = w.drewN n := by
  go_enter Try.func25, Try.ntmps25
  go_wp2
  go_ret2
  exact ⟨rfl, 0, rfl⟩
set_option maxRecDepth 100000 in
set_option maxHeartbeats 1000000 in
theorem bad_any (s : ByteArray) (i : Nat) (h : i < s.size) (_hs : s.size ≤ 1048576) (h1 : 128 ≤ (s[i].toNat : Int) ∧ (s[i].toNat : Int) < 194 ∨ 244 < (s[i].toNat : Int)) (w : World) :
    Calls Try.prog 25 #[.string s, .int .i64 i] w fun e w' => e = .returned (.tuple #[.int .i32 0, .int .i64 0]) ∧ ∃ n, w' = w.drewN n := by
  rcases h1 with ⟨h1, h2⟩ | h1
  all_goals
    go_enter Try.func25, Try.ntmps25
    go_wp2
    go_ret2
    exact ⟨rfl, 0, rfl⟩

theorem one_any (s : ByteArray) (i : Nat) (h : i < s.size) (hs : s.size ≤ 1048576) (w : World) :
    Calls Try.prog 25 #[.string s, .int .i64 i] w fun e w' => e = .returned (.tuple #[.int .i32 (one s i).1, .int .i64 (one s i).2]) ∧ ∃ n, w' = w.drewN n := by
  have hb : (s[i].toNat : Int) < 256 := by have := UInt8.toNat_lt s[i]; omega
  by_cases a0 : (s[i].toNat : Int) < 128
  · rw [one_low s i h a0]; exact low_any s i h hs a0 w
  by_cases a1 : (s[i].toNat : Int) < 194 ∨ 244 < (s[i].toNat : Int)
  · have hd : Utf8.decode s i = (65533, 1) := by
      rw [decode_at, get!_eq s i h]
      refine bad_eq _ _ _ _ _ (by omega) ?_
      unfold firstT
      repeat' split
      all_goals omega
    rw [one_ill s i h (by omega) hd]
    exact bad_any s i h hs (by omega) w
  by_cases a2 : (s[i].toNat : Int) ≤ 223
  · exact C2_any s i h hs (by omega) (by omega) w
  by_cases a3 : (s[i].toNat : Int) ≤ 224
  · exact E0_any s i h hs (by omega) (by omega) w
  by_cases a4 : (s[i].toNat : Int) ≤ 236
  · exact E1_any s i h hs (by omega) (by omega) w
  by_cases a5 : (s[i].toNat : Int) ≤ 237
  · exact ED_any s i h hs (by omega) (by omega) w
  by_cases a6 : (s[i].toNat : Int) ≤ 239
  · exact E2_any s i h hs (by omega) (by omega) w
  by_cases a7 : (s[i].toNat : Int) ≤ 240
  · exact F0_any s i h hs (by omega) (by omega) w
  by_cases a8 : (s[i].toNat : Int) ≤ 243
  · exact F1_any s i h hs (by omega) (by omega) w
  · exact F4_any s i h hs (by omega) (by omega) w

/-- The two ways, for the walk of zzDecode. -/
theorem one_bad (s : ByteArray) (i : Nat) (h : i < s.size) (hs : s.size ≤ 1048576) (hi : ill s i = true) :
    ∀ w, Calls Try.prog 25 #[.string s, .int .i64 i] w fun e w' => e = .returned (.tuple #[.int .i32 0, .int .i64 0]) ∧ ∃ n, w' = w.drewN n := by
  intro w
  have := one_any s i h hs w
  simpa [one, hi] using this
theorem one_good (s : ByteArray) (i r k : Nat) (h : i < s.size) (hs : s.size ≤ 1048576) (hi : ill s i = false) (hr : Hid (Utf8.decode s i = (r, k))) :
    ∀ w, Calls Try.prog 25 #[.string s, .int .i64 i] w fun e w' => e = .returned (.tuple #[.int .i32 (r : Int), .int .i64 (k : Int)]) ∧ ∃ n, w' = w.drewN n := by
  intro w
  have := one_any s i h hs w
  simpa [one, hi, hr.out] using this

theorem Try.info21 : (Try.prog.info? 21).map (fun i => (i.zero, i.size, i.bytes)) = some (some (.int .i32 0), 1, 4) := by kernel_rfl

/-! ### what one round does to the two plain functions -/
theorem runesF_step (s : ByteArray) (f pos r k : Nat) (h : pos < s.size) (hr : Utf8.decode s pos = (r, k)) (done : List Int) :
    done ++ runesF s (f + 1) pos = (done ++ [(r : Int)]) ++ runesF s f (pos + k) := by
  rw [runesF, if_pos h, hr]; simp
theorem wellF_good (s : ByteArray) (f pos r k : Nat) (h : pos < s.size) (hr : Utf8.decode s pos = (r, k)) (hi : ill s pos = false) (b : Bool) :
    (b && wellF s (f + 1) pos) = (b && wellF s f (pos + k)) := by
  rw [wellF, if_pos h, hr, hi]; simp
theorem wellF_bad (s : ByteArray) (f pos : Nat) (h : pos < s.size) (hi : ill s pos = true) (b c : Bool) :
    (b && wellF s (f + 1) pos) = (false && c) := by
  rw [wellF, if_pos h, hi]; simp
theorem runesF_end (s : ByteArray) (f pos : Nat) (h : ¬ pos < s.size) : runesF s f pos = [] := by
  cases f with
  | zero => rfl
  | succ f => rw [runesF, if_neg h]
theorem wellF_end (s : ByteArray) (f pos : Nat) (h : ¬ pos < s.size) : wellF s f pos = true := by
  cases f with
  | zero => rfl
  | succ f => rw [wellF, if_neg h]

set_option maxRecDepth 100000 in
set_option maxHeartbeats 2000000 in
theorem decode_any (s : ByteArray) (hs : s.size ≤ 1048576) (w : World) :
    Calls Try.prog 10 #[.string s] w fun e w' => e = .returned (.tuple #[.slice (some ⟨w.heap.size, 0, none⟩) (runes s).length s.size, .bool (well s)]) ∧
      w'.ownsRow w.heap.size 21 1 (.slice (some ⟨w.heap.size, 0, none⟩) (runes s).length s.size) (runes s).length ((runes s).map (Value.int .i32)) ∧ Below w.heap.size w w' ∧ w.heap.size < w'.heap.size := by
  obtain ⟨i0, hi, hz0, hz1, hz2⟩ := info_parts Try.info21
  go_enter Try.func10, Try.ntmps10
  go_wp2_with (at_make; refine wpList_make_own _ rfl _ _ 29 rfl w.heap.size 21 i0 (.int .i32 0) 1 Try.underlying29 hi hz0 hz1 _ _ _ s.size rfl rfl (by omega) (by rw [hz2]; omega) (by unfold maxLen; omega) (Nat.le_refl _) ?_; intro w1 hown1 hgrow1)
  have hb1 : Below w.heap.size w w1 := (Below.refl _ _).grown hgrow1 (Nat.le_refl _) (by simp)
  have hlt1 : w.heap.size < w1.heap.size := (hown1.lt w.heap.size rfl).2
  clear hgrow1
  go_loopw [4, 5, 6] (fun v b i wr => ∃ (pos fuel : Nat) (done : List Int) (wl : Bool), v = .slice (some ⟨w.heap.size, 0, none⟩) done.length s.size ∧ b = .bool wl ∧ i = .int .i64 pos ∧
      wr.ownsRow w.heap.size 21 1 (.slice (some ⟨w.heap.size, 0, none⟩) done.length s.size) done.length (done.map (Value.int .i32)) ∧ Hid (done ++ runesF s fuel pos = runes s) ∧ Hid ((wl && wellF s fuel pos) = well s) ∧
      s.size ≤ pos + fuel ∧ pos ≤ s.size ∧ done.length ≤ pos ∧ Below w.heap.size w wr ∧ w.heap.size < wr.heap.size) (fun _ _ i _ => s.size - (intOf i).toNat)
  case atStart => exact ⟨0, s.size, [], true, rfl, rfl, rfl, hown1, rfl, by simp [Hid, well], by omega, by omega, by simp, hb1, hlt1⟩
  case round =>
    obtain ⟨pos, fuel, done, wl, rfl, rfl, rfl, hown, HR, HW, hpf, hps, hdl, hbel, hlt⟩ := hrel
    by_cases hp : pos < s.size
    · obtain ⟨f', rfl⟩ : ∃ f', fuel = f' + 1 := ⟨fuel - 1, by omega⟩
      cases hil : ill s pos with
      | true =>
        have hd := decode_ill s pos hil
        have R1 : Hid ((done ++ [(65533 : Int)]) ++ runesF s f' (pos + 1) = runes s) := (runesF_step s f' pos 65533 1 hp hd done).symm.trans HR.out
        have W1 : Hid ((false && wellF s f' (pos + 1)) = well s) := (wellF_bad s f' pos hp hil wl _).symm.trans HW.out
        have cb : Hid _ := one_bad s pos hp hs hil
        clear hd HR HW hil
        go_wp2_with (first
          | (go_at_call 25; (with_reducible refine (cb.out _).mono ?_); rintro e w2 ⟨rfl, n2, hw2⟩; have hown2 : w2.ownsRow w.heap.size 21 1 (.slice (some ⟨w.heap.size, 0, none⟩) done.length s.size) done.length (done.map (Value.int .i32)) := (by rw [hw2]; exact hown); have hb2 : Below w.heap.size w w2 := (by rw [hw2]; exact below_drewN hbel n2); have hlt2 : w.heap.size < w2.heap.size := (by rw [hw2]; exact hlt); clear hw2)
          | (at_builtin; refine wpList_append_fits _ rfl (.tmp 24) (.tmp 25) 29 rfl w.heap.size 21 i0 1 Try.underlying29 hi hz1 w.heap.size done.length s.size _ rfl (hown2.alloc _) ⟨w2.heap.size, 0, none⟩ 1 1 [.int .i32 65533] rfl rfl (cell_one_new _ _ _) (by intro u hu; simp at hu; subst hu; rfl) (by omega) ?_; intro w3 hown3 hgrow3))
        have hb3 : Below w.heap.size w w3 := (hb2.alloc (by omega) _).grown hgrow3 (by simp; omega) (by simp)
        have hlt3 : w.heap.size < w3.heap.size := (hown3.lt w.heap.size rfl).2
        clear hgrow3
        go_roundw
        case rel => exact ⟨pos + 1, f', done ++ [(65533 : Int)], false, by simp, rfl, by go_num, by simpa using hown3, R1, W1, by omega, by omega, by simp; omega, hb3, hlt3⟩
        case measure => simp [intOf]; omega
      | false =>
        obtain ⟨r, k, hd⟩ : ∃ r k, Utf8.decode s pos = (r, k) := ⟨_, _, rfl⟩
        have R1 : Hid ((done ++ [(r : Int)]) ++ runesF s f' (pos + k) = runes s) := (runesF_step s f' pos r k hp hd done).symm.trans HR.out
        have W1 : Hid ((wl && wellF s f' (pos + k)) = well s) := (wellF_good s f' pos r k hp hd hil wl).symm.trans HW.out
        have cb : Hid _ := one_good s pos r k hp hs hil hd
        have hk1 : 1 ≤ k := by have := width_pos s pos; rw [hd] at this; exact this
        have hk2 : pos + k ≤ s.size := by have := width_le s pos hp; rw [hd] at this; exact this
        have hk0 : ((k : Int) == 0) = false := by simp; omega
        clear hd HR HW hil
        go_wp2_with (first
          | (go_at_call 25; (with_reducible refine (cb.out _).mono ?_); rintro e w2 ⟨rfl, n2, hw2⟩; have hown2 : w2.ownsRow w.heap.size 21 1 (.slice (some ⟨w.heap.size, 0, none⟩) done.length s.size) done.length (done.map (Value.int .i32)) := (by rw [hw2]; exact hown); have hb2 : Below w.heap.size w w2 := (by rw [hw2]; exact below_drewN hbel n2); have hlt2 : w.heap.size < w2.heap.size := (by rw [hw2]; exact hlt); clear hw2)
          | (at_builtin; refine wpList_append_fits _ rfl (.tmp 29) (.tmp 31) 29 rfl w.heap.size 21 i0 1 Try.underlying29 hi hz1 w.heap.size done.length s.size _ rfl (hown2.alloc _) ⟨w2.heap.size, 0, none⟩ 1 1 [.int .i32 (r : Int)] rfl rfl (cell_one_new _ _ _) (by intro u hu; simp at hu; subst hu; rfl) (by omega) ?_; intro w3 hown3 hgrow3))
        have hb3 : Below w.heap.size w w3 := (hb2.alloc (by omega) _).grown hgrow3 (by simp; omega) (by simp)
        have hlt3 : w.heap.size < w3.heap.size := (hown3.lt w.heap.size rfl).2
        clear hgrow3
        go_roundw
        case rel => exact ⟨pos + k, f', done ++ [(r : Int)], wl, by simp, rfl, by go_num, by simpa using hown3, R1, W1, by omega, by omega, by simp; omega, hb3, hlt3⟩
        case measure => simp [intOf]; omega
    · have hr : done = runes s := by have := HR.out; rw [runesF_end s fuel pos hp, List.append_nil] at this; exact this
      have hw : wl = well s := by have := HW.out; rw [wellF_end s fuel pos hp, Bool.and_true] at this; exact this
      go_wp2
      go_ret2
      subst hr
      subst hw
      exact ⟨rfl, hown, hbel, hlt⟩
end Go.Proofs.Qxb6613280a
