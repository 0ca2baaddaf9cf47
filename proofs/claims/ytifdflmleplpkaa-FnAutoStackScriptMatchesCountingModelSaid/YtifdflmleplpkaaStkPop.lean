/- The contracts of the stack's Pop: what it hands back and what it leaves, for every stack. -/
import Derived.Test.YtifdflmleplpkaaStkBase
import Derived.BigQuiet
import Derived.Deep.QuietTactic
namespace Go.Proofs.Ytifdflmleplpkaa
open Go.RowKit

set_option maxHeartbeats 400000 in
theorem pop_in_w (s g b k q N : Nat) (w : World) (hq : q < 8) (hkN : k < N)
    (c0 : w.cell? ⟨s, 0, none⟩ = some (.slice (some ⟨g, 0, none⟩) N N)) (c1 : w.cell? ⟨s, 1, none⟩ = some (.int .u16 k)) (c2 : w.cell? ⟨s, 2, none⟩ = some (.int .u8 ((q : Int) + 1)))
    (cg : w.cell? ⟨g, k, none⟩ = some (.pointer (some ⟨b, 0, none⟩))) (f2 : w.frozen? ⟨s, 2, none⟩ = false) :
    Calls Try.prog 15 #[.pointer (some ⟨s, 0, none⟩)] w fun e w' => e = .returned (.pointer (some ⟨b, q * 10, none⟩)) ∧ ∃ n n', ((w.drewN n).setCell ⟨s, 2, none⟩ (.int .u8 (q : Int))).drewN n' = w' := by
  go_enter Try.func15, Try.ntmps15
  go_wp2_with fail
  go_quiet (fail)
  go_wp2_with fail
  go_quiet (fail)
  go_wp2_with fail
  go_ret
  exact ⟨rfl, _, _, rfl⟩

set_option maxHeartbeats 400000 in
theorem pop_over_w (s g b i N b2 : Nat) (w : World) (hkN : i + 1 < N) (hN : N ≤ 8192) (sc : Array Value) (hs : w.heap[s]? = some (.cells sc 46 (0, 0))) (gc : Array Value) (hg : w.heap[g]? = some (.cells gc 48 (0, 0)))
    (c0 : w.cell? ⟨s, 0, none⟩ = some (.slice (some ⟨g, 0, none⟩) N N)) (c1 : w.cell? ⟨s, 1, none⟩ = some (.int .u16 ((i : Int) + 1))) (c2 : w.cell? ⟨s, 2, none⟩ = some (.int .u8 0))
    (cg : w.cell? ⟨g, i, none⟩ = some (.pointer (some ⟨b, 0, none⟩))) (cy : w.cell? ⟨g, i + 1, none⟩ = some (.pointer (some ⟨b2, 0, none⟩))) :
    Calls Try.prog 15 #[.pointer (some ⟨s, 0, none⟩)] w fun e w' => e = .returned (.pointer (some ⟨b, 70, none⟩)) ∧ ∃ n1 n2 n3, (((edge (w.drewN n1) s g i).drewN n2).setCell ⟨s, 2, none⟩ (.int .u8 7)).drewN n3 = w' := by
  have hgs : ¬ g = s := by
    intro e
    rw [e, hs] at hg
    simp at hg
  have hsg : ¬ s = g := fun e => hgs e.symm
  have f1 : w.frozen? ⟨s, 1, none⟩ = false := frozen_of_row _ _ _ _ _ hs
  have f2 : w.frozen? ⟨s, 2, none⟩ = false := frozen_of_row _ _ _ _ _ hs
  have fy : w.frozen? ⟨g, i + 1, none⟩ = false := frozen_of_row _ _ _ _ _ hg
  have hsz : 2 < sc.size := by
    rw [cell_of_row _ _ _ _ _ _ hs] at c2
    exact (Array.getElem?_eq_some_iff.1 c2).1
  have HS := Hid_mk (And.intro hs hsz)
  clear hs hg hsz
  go_enter Try.func15, Try.ntmps15
  go_wp2_with fail
  go_quiet (fail)
  go_wp2_with (go_at_call 20; go_in)
  go_end0
  go_wp2_with fail
  go_region
  all_goals go_wp2_with fail
  all_goals go_quiet (fail)
  rename_i n1 n2
  generalize hW : World.drewN (World.setCell _ _ _) _ = W
  have hh : W.heap[s]? = some (.cells ((sc.setIfInBounds 1 (.int .u16 (i : Int))).setIfInBounds 2 (.int .u8 8)) 46 (0, 0)) := by
    rw [← hW]
    refine heap_setCell_same _ _ _ _ _ _ (heap_setCell_same _ _ _ _ _ _ ?_)
    rw [heap_setCell_other _ _ _ _ hsg]
    exact HS.out.1
  have k2 : W.cell? ⟨s, 2, none⟩ = some (.int .u8 8) := by
    rw [cell_of_row _ _ _ _ _ _ hh, Array.getElem?_setIfInBounds, if_pos rfl, if_pos (by have := HS.out.2; simpa using this)]
  have kf : W.frozen? ⟨s, 2, none⟩ = false := frozen_of_row _ _ _ _ _ hh
  have HW := Hid_mk hW
  clear hW hh c0 c1 c2 cg cy f1 f2 fy
  all_goals go_wp2_with fail
  all_goals go_quiet (fail)
  all_goals go_wp2_with fail
  all_goals go_ret
  all_goals exact ⟨rfl, _, _, _, by rw [← HW.out]; rfl⟩

theorem pop_nil_w (s g b N : Nat) (w : World) (hkN : 0 < N)
    (c0 : w.cell? ⟨s, 0, none⟩ = some (.slice (some ⟨g, 0, none⟩) N N)) (c1 : w.cell? ⟨s, 1, none⟩ = some (.int .u16 0)) (c2 : w.cell? ⟨s, 2, none⟩ = some (.int .u8 0))
    (cg : w.cell? ⟨g, 0, none⟩ = some (.pointer (some ⟨b, 0, none⟩))) :
    Calls Try.prog 15 #[.pointer (some ⟨s, 0, none⟩)] w fun e w' => e = .returned (.pointer none) ∧ ∃ n, w.drewN n = w' := by
  go_enter Try.func15, Try.ntmps15
  go_wp2_with fail
  go_quiet (fail)
  go_wp2_with fail
  go_ret
  exact ⟨rfl, _, rfl⟩

/-- Pop of a stack that is not empty. -/
theorem pop_any (base s N k sp g : Nat) (B : Nat → Nat) (F : Nat → Frm) (w : World) (h : Stk base w s N k sp g B F) (hpos : 0 < 8 * k + sp) :
    Calls Try.prog 15 #[.pointer (some ⟨s, 0, none⟩)] w (PopPost base w s N k sp g B F) := by
  cases sp with
  | succ q =>
    have := h.hsp
    refine (pop_in_w s g (B k) k q N w (by omega) h.hk h.c0 h.c1 h.c2 (h.cg (Nat.le_refl _)) (h.fs 2)).mono ?_
    rintro e w' ⟨rfl, n, n', rfl⟩
    exact pop_fin_in h n n'
  | zero =>
    cases k with
    | zero => omega
    | succ i =>
      obtain ⟨P, p1, _⟩ := h.hg
      refine (pop_over_w s g (B i) i N (B (i + 1)) w h.hk h.hN _ h.hs P p1 h.c0 h.c1 h.c2 (h.cg (by omega)) (h.cg (Nat.le_refl _))).mono ?_
      rintro e w' ⟨rfl, n1, n2, n3, rfl⟩
      exact pop_fin_over h n1 n2 n3

/-- Pop of the empty stack. -/
theorem pop_nil (base s N g : Nat) (B : Nat → Nat) (F : Nat → Frm) (w : World) (h : Stk base w s N 0 0 g B F) :
    Calls Try.prog 15 #[.pointer (some ⟨s, 0, none⟩)] w fun e w' => e = .returned (.pointer none) ∧ Stk base w' s N 0 0 g B F ∧ Keeps base w w' := by
  refine (pop_nil_w s g (B 0) N w h.hk h.c0 h.c1 h.c2 (h.cg (Nat.le_refl _))).mono ?_
  rintro e w' ⟨rfl, n, rfl⟩
  exact ⟨rfl, h.heap rfl, (Keeps.refl base w).alike rfl rfl rfl rfl⟩
end Go.Proofs.Ytifdflmleplpkaa
