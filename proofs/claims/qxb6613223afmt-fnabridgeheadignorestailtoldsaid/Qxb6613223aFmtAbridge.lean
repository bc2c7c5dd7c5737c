/-
  THE WALK of yamltext.Abridge at the identity: a short text as it is; of a long one what fmt gives for its one format, its head and its length.
-/
import Derived.Test.Qxb6613223aFmtFacts
import Derived.Test.Qxb6613223aFmtPlain
import Derived.WalkKit
import Derived.WalkSpells
import Derived.WalkLawsBesides
import Derived.Lib.OthersKept
import Derived.Handy
namespace Go.Proofs.Qxb6613223aFmt
open Go.RowKit Go.Extern.Stop Go.Stop Go.Extern
attribute [local go_sem] call10 fmt_guard fmt2 fmt2r op3_100 op9_115

/-- WHAT fmt IS ASKED. -/
def reading (h : List UInt8) (n : Nat) : List (List UInt8) :=
  [[37, 115, 46, 46, 46, 32, 40, 37, 100, 32, 98, 121, 116, 101, 115, 41], shape9, FmtStop.pack h, shape3, digits 8 (n % 18446744073709551616)]

theorem iterPos_of {w : World} {k : Nat} {s : ByteArray} {p : Nat} (h : w.heap[k]? = some (.stringIter s p)) : w.iterPos k = p := by simp [World.iterPos, h]

theorem abridge_short (s : ByteArray) (w : World) (h : s.size ≤ 256) :
    Calls Tryf.prog 7 #[.string s, .func (.func 8) #[] #[]] w fun e w' => e = .returned (.string s) ∧ w' = w := by
  go_enter Tryf.func7, Tryf.ntmps7
  go_wp2
  go_ret
  exact ⟨rfl, rfl⟩

set_option maxHeartbeats 1000000 in
theorem abridge_long (F : Interp) (s : ByteArray) (w : World) (hF : F.answers w.tape) (hs : s.size ≤ 1048576) (h : 256 < s.size) :
    Calls Tryf.prog 7 #[.string s, .func (.func 8) #[] #[]] w fun e w' => e = .returned (.string (FmtStop.textOf (F "fmt.Sprintf" (reading (s.data.toList.take (cutOf s)) s.size) 0))) ∧ Below w.heap.size w w' := by
  have hcr : cutOf s ≤ 256 := (cutOf_range s h).2
  go_enter Tryf.func7, Tryf.ntmps7
  go_wp2
  go_loopw [5] (fun c wr => ∃ (pos fuel cut : Nat), wr.heap[w.heap.size]? = some (.stringIter s pos) ∧ c = .int .i64 cut ∧ Hid (cutF s fuel pos cut = cutOf s) ∧ 257 ≤ pos + fuel ∧ pos ≤ 300 ∧ Below w.heap.size w wr) (fun _ wr => s.size - wr.iterPos w.heap.size)
  case atStart => exact ⟨0, 300, 0, World.iter_heap w s 0, rfl, rfl, by omega, by omega, (Below.refl _ _).alloc (Nat.le_refl _) _⟩
  case round =>
    obtain ⟨pos, fuel, cut, hit, rfl, HC, hpf, hp300, hbw⟩ := hrel
    have hpos0 := iterPos_of hit
    by_cases hp : pos < s.size
    · have hnx : ∀ ty, (Instr.next (.pointer (some ⟨w.heap.size, 0, none⟩)) true ty).run Tryf.prog wr = _ := fun ty => Lib.run_next_any_at wr w.heap.size s pos ty hit hp
      by_cases h256 : 256 < pos
      · have HE : Hid (cut = cutOf s) := (cutF_end s fuel pos cut (.inr h256)).symm.trans HC.out
        have hcb : cut ≤ 256 := by have := HE.out; omega
        have hFr := answers_open (show F.answers (wr.iterAt w.heap.size s (pos + (Utf8.decode s pos).2)).tape from by show F.answers wr.tape; rw [hbw.tape]; exact hF)
        have hb1 := Lib.below_iterAt hbw (k := w.heap.size) (Nat.le_refl _) s (pos + (Utf8.decode s pos).2)
        go_wp2
        go_ret
        refine ⟨?_, ?_⟩
        · rw [← HE.out]; rfl
        · have hz := hb1.size; go_grown
      · go_wp2
        have hwd := Lib.width_pos s pos
        have hw4 := width_le4 s pos
        go_roundw
        case rel =>
          obtain ⟨f', rfl⟩ : ∃ f', fuel = f' + 1 := ⟨fuel - 1, by omega⟩
          refine ⟨pos + (Utf8.decode s pos).2, f', pos, Lib.iterAt_heap wr w.heap.size s pos _ hit, rfl, ?_, by omega, by omega, Lib.below_iterAt hbw (Nat.le_refl _) s _⟩
          exact (cutF_step s f' pos cut hp h256).symm.trans HC.out
        case measure =>
          rw [hpos0, iterPos_of (Lib.iterAt_heap wr w.heap.size s pos _ hit)]
          omega
    · have hnx : ∀ ty, (Instr.next (.pointer (some ⟨w.heap.size, 0, none⟩)) true ty).run Tryf.prog wr = _ := fun ty => Lib.run_next_end_at wr w.heap.size s pos ty hit hp
      have HE : Hid (cut = cutOf s) := (cutF_end s fuel pos cut (.inl hp)).symm.trans HC.out
      have hcb : cut ≤ 256 := by have := HE.out; omega
      have hFr := answers_open (show F.answers wr.tape from by rw [hbw.tape]; exact hF)
      go_wp2
      go_ret
      refine ⟨?_, ?_⟩
      · rw [← HE.out]; rfl
      · have hz := hbw.size; go_grown

theorem ident_short (s : ByteArray) (w : World) (h : s.size ≤ 256) :
    Calls Tryf.prog 5 #[.string s] w fun e w' => e = .returned (.string s) ∧ w' = w := by
  go_enter Tryf.func5, Tryf.ntmps5
  go_wp2_with (go_at_call 7; refine (abridge_short _ _ h).mono ?_; rintro e w' ⟨rfl, rfl⟩)
  go_ret
  exact ⟨rfl, rfl⟩

theorem ident_long (F : Interp) (s : ByteArray) (w : World) (hF : F.answers w.tape) (hs : s.size ≤ 1048576) (h : 256 < s.size) :
    Calls Tryf.prog 5 #[.string s] w fun e w' => e = .returned (.string (FmtStop.textOf (F "fmt.Sprintf" (reading (s.data.toList.take (cutOf s)) s.size) 0))) ∧ Below w.heap.size w w' := by
  go_enter Tryf.func5, Tryf.ntmps5
  go_wp2_with (go_at_call 7; refine (abridge_long F _ _ hF hs h).mono ?_; rintro e w' ⟨rfl, hb⟩)
  go_ret
  exact ⟨rfl, hb⟩
end Go.Proofs.Qxb6613223aFmt
