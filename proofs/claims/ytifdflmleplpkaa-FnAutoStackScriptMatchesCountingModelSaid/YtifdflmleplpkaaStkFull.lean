/- The contract of the stack's IsFull while a segment is still free behind the current one's number: false; the order it draws aside, nothing changes. -/
import Derived.Test.YtifdflmleplpkaaStkBase
import Derived.BigQuiet
import Derived.Deep.QuietTactic
namespace Go.Proofs.Ytifdflmleplpkaa
open Go.RowKit

theorem full_w (s k g N : Nat) (w : World) (hk : k < N) (hN : N ≤ 8192) (c0 : w.cell? ⟨s, 0, none⟩ = some (.slice (some ⟨g, 0, none⟩) N N)) (c1 : w.cell? ⟨s, 1, none⟩ = some (.int .u16 k)) :
    Calls Try.prog 14 #[.pointer (some ⟨s, 0, none⟩)] w fun e w' => e = .returned (.bool false) ∧ ∃ n, w.drewN n = w' := by
  have hq : ((k : Int) == (N : Int)) = false := by simp; omega
  go_enter Try.func14, Try.ntmps14
  go_wp2_with fail
  go_quiet (fail)
  go_wp2_with fail
  go_ret
  exact ⟨rfl, _, rfl⟩

theorem full_any (base s N k sp g : Nat) (B : Nat → Nat) (F : Nat → Frm) (w : World) (h : Stk base w s N k sp g B F) :
    Calls Try.prog 14 #[.pointer (some ⟨s, 0, none⟩)] w fun e w' => e = .returned (.bool false) ∧ Stk base w' s N k sp g B F ∧ Keeps base w w' := by
  refine (full_w s k g N w h.hk h.hN h.c0 h.c1).mono ?_
  rintro e w' ⟨rfl, m, rfl⟩
  exact ⟨rfl, h.heap rfl, (Keeps.refl base w).alike rfl rfl rfl rfl⟩
end Go.Proofs.Ytifdflmleplpkaa
