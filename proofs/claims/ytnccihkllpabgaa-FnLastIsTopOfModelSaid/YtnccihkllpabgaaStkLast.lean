/- The contract of the stack's Last: it hands back the top frame, or nil of the empty stack, and changes nothing. -/
import Derived.Test.YtnccihkllpabgaaStkBase
import Derived.BigQuiet
import Derived.Deep.QuietTactic
namespace Go.Proofs.Ytnccihkllpabgaa
open Go.RowKit

set_option maxHeartbeats 400000 in
theorem last_in_w (s g b k q N : Nat) (w : World) (hq : q < 8) (hkN : k < N)
    (c0 : w.cell? ⟨s, 0, none⟩ = some (.slice (some ⟨g, 0, none⟩) N N)) (c1 : w.cell? ⟨s, 1, none⟩ = some (.int .u16 k)) (c2 : w.cell? ⟨s, 2, none⟩ = some (.int .u8 ((q : Int) + 1)))
    (cg : w.cell? ⟨g, k, none⟩ = some (.pointer (some ⟨b, 0, none⟩))) :
    Calls Try.prog 34 #[.pointer (some ⟨s, 0, none⟩)] w fun e w' => e = .returned (.pointer (some ⟨b, q * 10, none⟩)) ∧ ∃ n, w.drewN n = w' := by
  go_enter Try.func34, Try.ntmps34
  go_wp2_with fail
  go_quiet (fail)
  go_wp2_with fail
  go_ret
  exact ⟨rfl, _, rfl⟩

set_option maxHeartbeats 400000 in
theorem last_over_w (s g b i N b2 : Nat) (w : World) (hkN : i + 1 < N) (hN : N ≤ 8192)
    (c0 : w.cell? ⟨s, 0, none⟩ = some (.slice (some ⟨g, 0, none⟩) N N)) (c1 : w.cell? ⟨s, 1, none⟩ = some (.int .u16 ((i : Int) + 1))) (c2 : w.cell? ⟨s, 2, none⟩ = some (.int .u8 0))
    (cg : w.cell? ⟨g, i, none⟩ = some (.pointer (some ⟨b, 0, none⟩))) (cy : w.cell? ⟨g, i + 1, none⟩ = some (.pointer (some ⟨b2, 0, none⟩))) :
    Calls Try.prog 34 #[.pointer (some ⟨s, 0, none⟩)] w fun e w' => e = .returned (.pointer (some ⟨b, 70, none⟩)) ∧ ∃ n, w.drewN n = w' := by
  go_enter Try.func34, Try.ntmps34
  go_wp2_with fail
  go_quiet (fail)
  go_wp2_with fail
  go_quiet (fail)
  go_wp2_with fail
  go_ret
  exact ⟨rfl, _, rfl⟩

theorem last_nil_w (s g b N : Nat) (w : World) (hkN : 0 < N)
    (c0 : w.cell? ⟨s, 0, none⟩ = some (.slice (some ⟨g, 0, none⟩) N N)) (c1 : w.cell? ⟨s, 1, none⟩ = some (.int .u16 0)) (c2 : w.cell? ⟨s, 2, none⟩ = some (.int .u8 0))
    (cg : w.cell? ⟨g, 0, none⟩ = some (.pointer (some ⟨b, 0, none⟩))) :
    Calls Try.prog 34 #[.pointer (some ⟨s, 0, none⟩)] w fun e w' => e = .returned (.pointer none) ∧ ∃ n, w.drewN n = w' := by
  go_enter Try.func34, Try.ntmps34
  go_wp2_with fail
  go_quiet (fail)
  go_wp2_with fail
  go_ret
  exact ⟨rfl, _, rfl⟩

/-- What Last of a stack that is not empty hands back; the world is the same but for draws. -/
def LastPost (w : World) (k sp : Nat) (B : Nat → Nat) (e : Ending) (w' : World) : Prop :=
  ∃ i j, e = .returned (.pointer (some ⟨B i, j * 10, none⟩)) ∧ 8 * i + j + 1 = 8 * k + sp ∧ i ≤ k ∧ j < 8 ∧ ∃ n, w.drewN n = w'

theorem last_any (base s N k sp g : Nat) (B : Nat → Nat) (F : Nat → Frm) (w : World) (h : Stk base w s N k sp g B F) (hpos : 0 < 8 * k + sp) :
    Calls Try.prog 34 #[.pointer (some ⟨s, 0, none⟩)] w (LastPost w k sp B) := by
  cases sp with
  | succ q =>
    have := h.hsp
    refine (last_in_w s g (B k) k q N w (by omega) h.hk h.c0 h.c1 h.c2 (h.cg (Nat.le_refl _))).mono ?_
    rintro e w' ⟨rfl, n, rfl⟩
    exact ⟨k, q, rfl, by omega, Nat.le_refl _, by omega, n, rfl⟩
  | zero =>
    cases k with
    | zero => omega
    | succ i =>
      refine (last_over_w s g (B i) i N (B (i + 1)) w h.hk h.hN h.c0 h.c1 h.c2 (h.cg (by omega)) (h.cg (Nat.le_refl _))).mono ?_
      rintro e w' ⟨rfl, n, rfl⟩
      exact ⟨i, 7, rfl, by omega, by omega, by omega, n, rfl⟩

theorem last_nil (base s N g : Nat) (B : Nat → Nat) (F : Nat → Frm) (w : World) (h : Stk base w s N 0 0 g B F) :
    Calls Try.prog 34 #[.pointer (some ⟨s, 0, none⟩)] w fun e w' => e = .returned (.pointer none) ∧ ∃ n, w.drewN n = w' :=
  last_nil_w s g (B 0) N w h.hk h.c0 h.c1 h.c2 (h.cg (Nat.le_refl _))
end Go.Proofs.Ytnccihkllpabgaa
