/- The contract of the stack's At below the depth: it hands back the address of that frame and changes nothing. -/
import Derived.Test.YtgmlgkfhmdiknaaStkBase
import Derived.BigQuiet
import Derived.Deep.QuietTactic
namespace Go.Proofs.Ytgmlgkfhmdiknaa
open Go.RowKit

set_option maxHeartbeats 400000 in
theorem at_w (s g b m N : Nat) (w : World) (hN : N ≤ 8192) (hm : m / 8 < N)
    (c0 : w.cell? ⟨s, 0, none⟩ = some (.slice (some ⟨g, 0, none⟩) N N))
    (cg : w.cell? ⟨g, m / 8, none⟩ = some (.pointer (some ⟨b, 0, none⟩))) :
    Calls Try.prog 17 #[.pointer (some ⟨s, 0, none⟩), .int .i64 m] w fun e w' => e = .returned (.pointer (some ⟨b, m % 8 * 10, none⟩)) ∧ w = w' := by
  go_enter Try.func17, Try.ntmps17
  go_wp2_with fail
  go_ret
  exact ⟨rfl, rfl⟩

theorem at_any (base s N k sp g m : Nat) (B : Nat → Nat) (F : Nat → Frm) (w : World) (h : Stk base w s N k sp g B F) (hm : m < 8 * k + sp) :
    Calls Try.prog 17 #[.pointer (some ⟨s, 0, none⟩), .int .i64 m] w fun e w' => e = .returned (.pointer (some ⟨B (m / 8), m % 8 * 10, none⟩)) ∧ w = w' := by
  have h1 := h.hsp
  have h2 := h.hk
  exact at_w s g (B (m / 8)) m N w h.hN (by omega) h.c0 (h.cg (by omega))
end Go.Proofs.Ytgmlgkfhmdiknaa
