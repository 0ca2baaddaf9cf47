/- The contract of the stack's FreeAll: nothing else has changed behind it. -/
import Derived.Test.YtifdflmleplpkaaStkClear
namespace Go.Proofs.Ytifdflmleplpkaa
open Go.RowKit

set_option maxHeartbeats 400000 in
theorem freeall_any (base s N k sp g : Nat) (B : Nat → Nat) (F : Nat → Frm) (w : World) (h : Stk base w s N k sp g B F) :
    Calls Try.prog 16 #[.pointer (some ⟨s, 0, none⟩)] w fun e w' => e = .returned (.tuple #[]) ∧ Keeps base w w' := by
  have h2 := h.hk
  have h3 := h.hN
  have hsg : ¬ s = g := h.sg
  have hgs : ¬ g = s := fun e => h.sg e.symm
  have H := Hid_mk h
  clear h
  go_enter Try.func16, Try.ntmps16
  go_wp2_with fail
  go_loopg [2] (k + 1) (fun gk i wr => ∃ j : Nat, j + gk = k + 1 ∧ i = .int .u16 j ∧ Swept base w s N k sp g B wr 0)
  case atStart => exact ⟨0, by omega, rfl, Swept.start H.out (by omega)⟩
  case round =>
    obtain ⟨j, hj, rfl, hw⟩ := hrel
    have c0 := hw.c0
    have c1 := hw.c1
    by_cases hlt : j ≤ k
    · obtain ⟨v, cv⟩ := hw.cg (j := j) (by omega)
      have fv := hw.fg j
      have HH := Hid_mk (And.intro hj hw)
      clear hj hw
      go_wp2_with (go_at_call 20; refine (freeseg_any _ _).mono ?_; rintro e w' ⟨rfl, rfl⟩)
      go_roundg (gk - 1)
      case rel => exact ⟨j + 1, by have := HH.out.1; omega, by go_num, HH.out.2.drop H.out (Nat.zero_le _)⟩
      case measure => have := HH.out.1; omega
    · have HH := Hid_mk hw
      clear hj hw
      go_wp2_with fail
      go_end0
      exact ⟨rfl, HH.out.kp⟩
end Go.Proofs.Ytifdflmleplpkaa
