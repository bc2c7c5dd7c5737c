/-
  THE WALK of zzFresh at a parser that was just made.
-/
import Derived.Test.Qxb6613280aState
namespace Go.Proofs.Qxb6613280a
open Go.RowKit Go.Lib

set_option maxRecDepth 100000 in
set_option maxHeartbeats 2000000 in
theorem fresh_any (w : World) (g n cap : Nat) (q : Option Addr) (h : PHead w g n cap q) (m1 : PMap w (g + 1)) (m2 : PMap w (g + 2)) :
    Calls Try.prog 8 #[.pointer (some ⟨g + 3, 0, none⟩)] w fun e w' => e = .returned (.bool true) ∧ w' = w := by
  have h1 := h.cell 1
  have h3 := h.cell 3
  have h4 := h.cell 4
  have h5 := h.cell 5
  have h6 := h.cell 6
  have h7 := h.cell 7
  have h8 := h.cell 8
  have h9 := h.cell 9
  have h10 := h.cell 10
  simp at h1 h3 h4 h5 h6 h7 h8 h9 h10
  have hm1 := fun (w : World) (r : Option Nat) => run_eql_map_nil (P := Try.prog) w 35 9 4 r Try.underlying35
  have hm2 := fun (w : World) (r : Option Nat) => run_eql_map_nil (P := Try.prog) w 46 9 75 r Try.underlying46
  have l1 := len35 m1
  have l2 := len46 m2
  clear h m1 m2
  go_enter Try.func8, Try.ntmps8
  go_wp2
  go_ret
  exact ⟨rfl, rfl⟩
end Go.Proofs.Qxb6613280a
