/- The contract of the stack's Push, where there is room in the segment in use and where a new segment is made: for every stack below its capacity. -/
import Derived.Test.YtifdflmleplpkaaStkBase
import Derived.WalkKit
import Derived.BigQuiet
import Derived.Deep.QuietTactic
namespace Go.Proofs.Ytifdflmleplpkaa
open Go.RowKit

def RoomPost (w : World) (s b k sp : Nat) (i0 pc ba nr : Int) (e : Ending) (w' : World) : Prop :=
  e = .returned (.tuple #[]) ∧
      ∃ n, ((stf ((w.alloc (.cells #[.int .i64 i0, .pointer none, .pointer none, .int .i64 pc, .int .i64 ba, .int .i64 0, .int .i64 0, .int .i64 0, .int .i64 nr, .int .i64 0] 38)).drewN n) b (sp * 10) (.int .i64 i0) (.pointer none) (.pointer none) (.int .i64 pc) (.int .i64 ba) (.int .i64 0) (.int .i64 0) (.int .i64 0) (.int .i64 nr) (.int .i64 0) (.int .i64 ((sp : Int) + 8 * (k : Int)))).setCell ⟨s, 2, none⟩ (.int .u8 ((sp : Int) + 1))).drew = w'

set_option maxHeartbeats 400000 in
theorem push_room_w (s g b k sp N : Nat) (i0 pc ba nr : Int) (x0 x1 x2 x3 x4 x5 x6 x7 x8 x9 : Value) (w : World) (hsp : sp < 8) (hkN : k < N) (hN : N ≤ 8192)
    (hs : s < w.heap.size) (hg : g < w.heap.size) (hb : b < w.heap.size) (n2 : ¬ s = b)
    (c0 : w.cell? ⟨s, 0, none⟩ = some (.slice (some ⟨g, 0, none⟩) N N)) (c1 : w.cell? ⟨s, 1, none⟩ = some (.int .u16 k)) (c2 : w.cell? ⟨s, 2, none⟩ = some (.int .u8 sp))
    (cg : w.cell? ⟨g, k, none⟩ = some (.pointer (some ⟨b, 0, none⟩))) (f2 : w.frozen? ⟨s, 2, none⟩ = false)
    (d0 : w.cell? ⟨b, sp * 10, none⟩ = some x0) (e0 : w.frozen? ⟨b, sp * 10, none⟩ = false) (d1 : w.cell? ⟨b, sp * 10 + 1, none⟩ = some x1) (e1 : w.frozen? ⟨b, sp * 10 + 1, none⟩ = false) (d2 : w.cell? ⟨b, sp * 10 + 2, none⟩ = some x2) (e2 : w.frozen? ⟨b, sp * 10 + 2, none⟩ = false) (d3 : w.cell? ⟨b, sp * 10 + 3, none⟩ = some x3) (e3 : w.frozen? ⟨b, sp * 10 + 3, none⟩ = false) (d4 : w.cell? ⟨b, sp * 10 + 4, none⟩ = some x4) (e4 : w.frozen? ⟨b, sp * 10 + 4, none⟩ = false) (d5 : w.cell? ⟨b, sp * 10 + 5, none⟩ = some x5) (e5 : w.frozen? ⟨b, sp * 10 + 5, none⟩ = false) (d6 : w.cell? ⟨b, sp * 10 + 6, none⟩ = some x6) (e6 : w.frozen? ⟨b, sp * 10 + 6, none⟩ = false) (d7 : w.cell? ⟨b, sp * 10 + 7, none⟩ = some x7) (e7 : w.frozen? ⟨b, sp * 10 + 7, none⟩ = false) (d8 : w.cell? ⟨b, sp * 10 + 8, none⟩ = some x8) (e8 : w.frozen? ⟨b, sp * 10 + 8, none⟩ = false) (d9 : w.cell? ⟨b, sp * 10 + 9, none⟩ = some x9) (e9 : w.frozen? ⟨b, sp * 10 + 9, none⟩ = false) :
    Calls Try.prog 18 #[.pointer (some ⟨s, 0, none⟩), .agg #[.int .i64 i0, .pointer none, .pointer none, .int .i64 pc, .int .i64 ba, .int .i64 0, .int .i64 0, .int .i64 0, .int .i64 nr, .int .i64 0]] w (RoomPost w s b k sp i0 pc ba nr) := by
  go_enter Try.func18, Try.ntmps18
  go_wp2_with fail
  go_quiet (fail)
  go_wp2_with fail
  go_region
  all_goals go_wp2_with fail
  all_goals go_region
  all_goals go_wp2_with fail
  all_goals go_end0
  all_goals exact ⟨rfl, _, rfl⟩

theorem push_room (base s N k sp g : Nat) (B : Nat → Nat) (F : Nat → Frm) (i0 pc ba nr : Int) (w : World) (h : Stk base w s N k sp g B F) (hlt : sp < 8) :
    Calls Try.prog 18 #[.pointer (some ⟨s, 0, none⟩), .agg #[.int .i64 i0, .pointer none, .pointer none, .int .i64 pc, .int .i64 ba, .int .i64 0, .int .i64 0, .int .i64 0, .int .i64 nr, .int .i64 0]] w fun e w' => e = .returned (.tuple #[]) ∧ PushPost base w s N k sp g B F (pc, ba, nr) w' := by
  obtain ⟨x0, d0⟩ := h.cB (i := k) (j := sp * 10) (Nat.le_refl _) (by omega)
  have e0 := h.fB (Nat.le_refl k) (sp * 10)
  obtain ⟨x1, d1⟩ := h.cB (i := k) (j := sp * 10 + 1) (Nat.le_refl _) (by omega)
  have e1 := h.fB (Nat.le_refl k) (sp * 10 + 1)
  obtain ⟨x2, d2⟩ := h.cB (i := k) (j := sp * 10 + 2) (Nat.le_refl _) (by omega)
  have e2 := h.fB (Nat.le_refl k) (sp * 10 + 2)
  obtain ⟨x3, d3⟩ := h.cB (i := k) (j := sp * 10 + 3) (Nat.le_refl _) (by omega)
  have e3 := h.fB (Nat.le_refl k) (sp * 10 + 3)
  obtain ⟨x4, d4⟩ := h.cB (i := k) (j := sp * 10 + 4) (Nat.le_refl _) (by omega)
  have e4 := h.fB (Nat.le_refl k) (sp * 10 + 4)
  obtain ⟨x5, d5⟩ := h.cB (i := k) (j := sp * 10 + 5) (Nat.le_refl _) (by omega)
  have e5 := h.fB (Nat.le_refl k) (sp * 10 + 5)
  obtain ⟨x6, d6⟩ := h.cB (i := k) (j := sp * 10 + 6) (Nat.le_refl _) (by omega)
  have e6 := h.fB (Nat.le_refl k) (sp * 10 + 6)
  obtain ⟨x7, d7⟩ := h.cB (i := k) (j := sp * 10 + 7) (Nat.le_refl _) (by omega)
  have e7 := h.fB (Nat.le_refl k) (sp * 10 + 7)
  obtain ⟨x8, d8⟩ := h.cB (i := k) (j := sp * 10 + 8) (Nat.le_refl _) (by omega)
  have e8 := h.fB (Nat.le_refl k) (sp * 10 + 8)
  obtain ⟨x9, d9⟩ := h.cB (i := k) (j := sp * 10 + 9) (Nat.le_refl _) (by omega)
  have e9 := h.fB (Nat.le_refl k) (sp * 10 + 9)
  refine (push_room_w s g (B k) k sp N i0 pc ba nr x0 x1 x2 x3 x4 x5 x6 x7 x8 x9 w hlt h.hk h.hN h.ls h.lg (h.lB (Nat.le_refl _)) (h.sB (Nat.le_refl _)) h.c0 h.c1 h.c2 (h.cg (Nat.le_refl _)) (h.fs 2)
    d0 e0 d1 e1 d2 e2 d3 e3 d4 e4 d5 e5 d6 e6 d7 e7 d8 e8 d9 e9).mono ?_
  rintro e w' ⟨rfl, n, rfl⟩
  exact ⟨rfl, push_fin_n h hlt _ _ pc ba nr _ _ _ _ _ _ _ n⟩
end Go.Proofs.Ytifdflmleplpkaa
