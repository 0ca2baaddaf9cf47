/- The contract of the stack's Sp: the depth; nothing changes. -/
import Derived.Test.YtifdflmleplpkaaStkBase
import Derived.BigQuiet
import Derived.Deep.QuietTactic
namespace Go.Proofs.Ytifdflmleplpkaa
open Go.RowKit

theorem sp_w (s k sp : Nat) (w : World) (hk : k ≤ 8192) (hsp : sp ≤ 8) (c1 : w.cell? ⟨s, 1, none⟩ = some (.int .u16 k)) (c2 : w.cell? ⟨s, 2, none⟩ = some (.int .u8 sp)) :
    Calls Try.prog 13 #[.pointer (some ⟨s, 0, none⟩)] w fun e w' => e = .returned (.int .i64 ((sp : Int) + k * 8)) ∧ ∃ n, w.drewN n = w' := by
  go_enter Try.func13, Try.ntmps13
  go_wp2_with fail
  go_quiet (fail)
  go_wp2_with fail
  go_ret
  exact ⟨rfl, _, rfl⟩

theorem sp_any (base s N k sp g : Nat) (B : Nat → Nat) (F : Nat → Frm) (w : World) (h : Stk base w s N k sp g B F) (n : Nat) (hn : n = 8 * k + sp) :
    Calls Try.prog 13 #[.pointer (some ⟨s, 0, none⟩)] w fun e w' => e = .returned (.int .i64 n) ∧ Stk base w' s N k sp g B F ∧ Keeps base w w' := by
  have h1 := h.hk
  have h2 := h.hN
  refine (sp_w s k sp w (by omega) h.hsp h.c1 h.c2).mono ?_
  rintro e w' ⟨rfl, m, rfl⟩
  refine ⟨?_, h.heap rfl, (Keeps.refl base w).alike rfl rfl rfl rfl⟩
  rw [show ((sp : Int) + k * 8) = (n : Int) by omega]
end Go.Proofs.Ytifdflmleplpkaa
