/- The contract of the stack's IsEmpty: true exactly at depth zero; nothing changes. -/
import Derived.Test.YtifdflmleplpkaaStkBase
import Derived.BigQuiet
import Derived.Deep.QuietTactic
namespace Go.Proofs.Ytifdflmleplpkaa
open Go.RowKit

theorem empty_yes_w (s : Nat) (w : World) (c1 : w.cell? ⟨s, 1, none⟩ = some (.int .u16 0)) (c2 : w.cell? ⟨s, 2, none⟩ = some (.int .u8 0)) :
    Calls Try.prog 12 #[.pointer (some ⟨s, 0, none⟩)] w fun e w' => e = .returned (.bool true) ∧ w = w' := by
  go_enter Try.func12, Try.ntmps12
  go_wp2_with fail
  go_ret
  exact ⟨rfl, rfl⟩
theorem empty_sp_w (s q : Nat) (w : World) (c1 : w.cell? ⟨s, 1, none⟩ = some (.int .u16 0)) (c2 : w.cell? ⟨s, 2, none⟩ = some (.int .u8 ((q : Int) + 1))) :
    Calls Try.prog 12 #[.pointer (some ⟨s, 0, none⟩)] w fun e w' => e = .returned (.bool false) ∧ w = w' := by
  have hq : ((q : Int) + 1 == 0) = false := by simp; omega
  go_enter Try.func12, Try.ntmps12
  go_wp2_with fail
  go_ret
  exact ⟨rfl, rfl⟩
theorem empty_k_w (s q : Nat) (w : World) (c1 : w.cell? ⟨s, 1, none⟩ = some (.int .u16 ((q : Int) + 1))) :
    Calls Try.prog 12 #[.pointer (some ⟨s, 0, none⟩)] w fun e w' => e = .returned (.bool false) ∧ w = w' := by
  have hq : ((q : Int) + 1 == 0) = false := by simp; omega
  go_enter Try.func12, Try.ntmps12
  go_wp2_with fail
  go_ret
  exact ⟨rfl, rfl⟩

theorem empty_any (base s N k sp g : Nat) (B : Nat → Nat) (F : Nat → Frm) (w : World) (h : Stk base w s N k sp g B F) :
    Calls Try.prog 12 #[.pointer (some ⟨s, 0, none⟩)] w fun e w' => e = .returned (.bool (decide (8 * k + sp = 0))) ∧ w = w' := by
  cases k with
  | succ i =>
    rw [decide_eq_false (by omega)]
    exact empty_k_w s i w h.c1
  | zero =>
    cases sp with
    | zero => exact empty_yes_w s w h.c1 h.c2
    | succ q =>
      rw [decide_eq_false (by omega)]
      exact empty_sp_w s q w h.c1 h.c2
end Go.Proofs.Ytifdflmleplpkaa
