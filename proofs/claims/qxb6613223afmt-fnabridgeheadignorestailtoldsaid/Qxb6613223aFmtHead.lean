/-
  THE WALK of the law's own abrHead: of a text that ends in the tail, what stands ahead of it.
-/
import Derived.Test.Qxb6613223aFmtItoa
namespace Go.Proofs.Qxb6613223aFmt
open Go.RowKit Go.Extern.Stop Go.Stop Go.Extern

/-- The tail, as the law's own text puts it together. -/
def tailOf (n : Nat) : ByteArray := ⟨#[46, 46, 46, 32, 40]⟩ ++ ⟨(digs n).toArray⟩ ++ ⟨#[32, 98, 121, 116, 101, 115, 41]⟩

set_option maxHeartbeats 1000000 in
theorem head_any (a : ByteArray) (n k : Nat) (h0 : 0 < n) (h1 : n ≤ 1048576) (hk : k ≤ 256) (hsz : a.size = k + (tailOf n).size) (htl : a.extract k a.size = tailOf n) (w : World) :
    Calls Tryf.prog 6 #[.string a, .int .i64 n] w fun e w' => e = .returned (.tuple #[.string (a.extract 0 k), .bool true]) ∧ Below w.heap.size w w' := by
  have hd := digs_len 7 n (by omega)
  have hts : (tailOf n).size = (digs n).length + 12 := by
    simp only [tailOf, ByteArray.size_append]
    show 5 + (digs n).toArray.size + 7 = _
    simp; omega
  have hz : k + ((digs n).length + 12) = a.size := by rw [hsz, hts]
  have HT : Hid (a.extract k a.size = tailOf n) := htl
  clear htl hsz hts
  go_enter Tryf.func6, Tryf.ntmps6
  go_wp2_with (go_at_call 9; refine (itoa_any n h0 h1 _).mono ?_; rintro e w1 ⟨rfl, hb⟩)
  all_goals have ek : a.size - (5 + (digs n).length + 7) = k := by omega
  · exfalso
    have h : (a.size : Int) < 5 + ((digs n).length : Int) + 7 ∨ (!(a.extract (a.size - (5 + (digs n).length + 7)) a.size).toList == ({ data := #[46, 46, 46, 32, 40] } ++ { data := (digs n).toArray } ++ { data := #[32, 98, 121, 116, 101, 115, 41] } : ByteArray).toList) = true := by assumption
    rcases h with h | h
    · omega
    · rw [ek, HT.out] at h
      simp [tailOf] at h
  · go_ret2
    refine ⟨?_, hb⟩
    show Ending.returned (.tuple #[.string (a.extract 0 (a.size - (5 + (digs n).length + 7))), .bool true]) = _
    rw [ek]
end Go.Proofs.Qxb6613223aFmt
