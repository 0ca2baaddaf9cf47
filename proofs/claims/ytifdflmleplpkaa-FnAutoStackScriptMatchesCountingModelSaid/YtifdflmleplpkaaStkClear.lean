/- The contract of the stack's Clear: the stack is empty behind it. -/
import Derived.Test.YtifdflmleplpkaaStkBase
import Derived.Deep.LoopGhost
namespace Go.Proofs.Ytifdflmleplpkaa
open Go.RowKit

theorem freeseg_any (p : Value) (w : World) : Calls Try.prog 20 #[p] w fun e w' => e = .returned (.tuple #[]) ∧ w = w' := by
  go_enter Try.func20, Try.ntmps20
  go_wp2_with fail
  go_end0
  exact ⟨rfl, rfl⟩

/-- While segments are dropped: the struct and the segments' blocks are as they were, the row of segments has its size and its first cells. -/
structure Swept (base : Nat) (w : World) (s N k sp g : Nat) (B : Nat → Nat) (wr : World) (m : Nat) : Prop where
  hs : wr.heap[s]? = some (.cells #[.slice (some ⟨g, 0, none⟩) N N, .int .u16 (k : Int), .int .u8 (sp : Int)] 46 (0, 0))
  hg : ∃ P : Array Value, wr.heap[g]? = some (.cells P 48 (0, 0)) ∧ P.size = N ∧ ∀ i, i < m → P[i]? = some (.pointer (some ⟨B i, 0, none⟩))
  hB : ∀ i, i ≤ k → wr.heap[B i]? = w.heap[B i]?
  kp : Keeps base w wr

theorem Swept.start {base s N k sp g m : Nat} {w : World} {B : Nat → Nat} {F : Nat → Frm} (h : Stk base w s N k sp g B F) (hm : m ≤ k + 1) : Swept base w s N k sp g B w m := by
  obtain ⟨P, p1, p2, p3⟩ := h.hg
  exact ⟨h.hs, ⟨P, p1, p2, fun i hi => p3 i (by omega)⟩, fun _ _ => rfl, Keeps.refl _ _⟩
theorem Swept.drop {base s N k sp g m j : Nat} {w wr : World} {B : Nat → Nat} {F : Nat → Frm} (h0 : Stk base w s N k sp g B F) (h : Swept base w s N k sp g B wr m) (hj : m ≤ j) :
    Swept base w s N k sp g B (wr.setCell ⟨g, j, none⟩ (.pointer none)) m := by
  obtain ⟨P, p1, p2, p3⟩ := h.hg
  refine ⟨?_, ⟨P.setIfInBounds j (.pointer none), heap_setCell_same _ _ _ _ _ _ p1, by simpa using p2, ?_⟩, ?_, h.kp.setCell (p := ⟨g, j, none⟩) h0.bg p1 (by decide) _⟩
  · rw [heap_setCell_other _ _ _ _ h0.sg]; exact h.hs
  · intro i hi
    rw [Array.getElem?_setIfInBounds, if_neg (by omega)]
    exact p3 i hi
  · intro i hi
    rw [heap_setCell_other _ _ _ _ (Ne.symm (h0.gB hi))]
    exact h.hB i hi
theorem Swept.c0 {base s N k sp g m : Nat} {w wr : World} {B : Nat → Nat} (h : Swept base w s N k sp g B wr m) : wr.cell? ⟨s, 0, none⟩ = some (.slice (some ⟨g, 0, none⟩) N N) := by rw [cell_of_row _ _ _ _ _ _ h.hs]; rfl
theorem Swept.c1 {base s N k sp g m : Nat} {w wr : World} {B : Nat → Nat} (h : Swept base w s N k sp g B wr m) : wr.cell? ⟨s, 1, none⟩ = some (.int .u16 k) := by rw [cell_of_row _ _ _ _ _ _ h.hs]; rfl
theorem Swept.c2 {base s N k sp g m : Nat} {w wr : World} {B : Nat → Nat} (h : Swept base w s N k sp g B wr m) : wr.cell? ⟨s, 2, none⟩ = some (.int .u8 sp) := by rw [cell_of_row _ _ _ _ _ _ h.hs]; rfl
theorem Swept.cg {base s N k sp g m j : Nat} {w wr : World} {B : Nat → Nat} (h : Swept base w s N k sp g B wr m) (hj : j < N) : ∃ v, wr.cell? ⟨g, j, none⟩ = some v := by
  obtain ⟨P, p1, p2, _⟩ := h.hg
  rw [cell_of_row _ _ _ _ _ _ p1]
  exact ⟨P[j]'(by omega), by simp [show j < P.size by omega]⟩
theorem Swept.fg {base s N k sp g m : Nat} {w wr : World} {B : Nat → Nat} (h : Swept base w s N k sp g B wr m) (j : Nat) : wr.frozen? ⟨g, j, none⟩ = false := by
  obtain ⟨P, p1, _⟩ := h.hg
  exact frozen_of_row _ _ _ _ _ p1

theorem Swept.reset {base s N k sp g : Nat} {w wr : World} {B : Nat → Nat} {F : Nat → Frm} (h0 : Stk base w s N k sp g B F) (h : Swept base w s N k sp g B wr 1) :
    Stk base ((wr.setCell ⟨s, 1, none⟩ (.int .u16 0)).setCell ⟨s, 2, none⟩ (.int .u8 0)) s N 0 0 g B F ∧ Keeps base w ((wr.setCell ⟨s, 1, none⟩ (.int .u16 0)).setCell ⟨s, 2, none⟩ (.int .u8 0)) := by
  have s1 := heap_setCell_same wr s 1 _ _ (.int .u16 0) h.hs
  have K1 := h.kp.setCell (p := ⟨s, 1, none⟩) h0.bs h.hs (by decide) (.int .u16 0)
  have K2 := K1.setCell (p := ⟨s, 2, none⟩) h0.bs s1 (by decide) (.int .u8 0)
  refine ⟨h0.resize (Nat.zero_le _) (by omega) (by omega) ?_ ?_ ?_, K2⟩
  · rw [heap_setCell_same _ _ _ _ _ _ s1]; simp
  · obtain ⟨P, p1, p2, p3⟩ := h.hg
    exact ⟨P, by rw [heap_setCell_other _ _ _ _ (Ne.symm h0.sg), heap_setCell_other _ _ _ _ (Ne.symm h0.sg)]; exact p1, p2, fun i hi => p3 i (by omega)⟩
  · intro i hi
    rw [heap_setCell_other _ _ _ _ (Ne.symm (h0.sB (by omega))), heap_setCell_other _ _ _ _ (Ne.symm (h0.sB (by omega)))]
    exact h.hB i (by omega)

def ClearPost (base : Nat) (w : World) (s N g : Nat) (B : Nat → Nat) (F : Nat → Frm) (e : Ending) (w' : World) : Prop :=
  e = .returned (.tuple #[]) ∧ Stk base w' s N 0 0 g B F ∧ Keeps base w w'

set_option maxHeartbeats 400000 in
theorem clear_any (base s N k sp g : Nat) (B : Nat → Nat) (F : Nat → Frm) (w : World) (h : Stk base w s N k sp g B F) :
    Calls Try.prog 11 #[.pointer (some ⟨s, 0, none⟩)] w (ClearPost base w s N g B F) := by
  have h2 := h.hk
  have h3 := h.hN
  have hsg : ¬ s = g := h.sg
  have hgs : ¬ g = s := fun e => h.sg e.symm
  have H := Hid_mk h
  clear h
  go_enter Try.func11, Try.ntmps11
  go_wp2_with fail
  go_loopg [2] k (fun gk i wr => ∃ j : Nat, j + gk = k + 1 ∧ 1 ≤ j ∧ i = .int .u16 j ∧ Swept base w s N k sp g B wr 1)
  case atStart => exact ⟨1, by omega, Nat.le_refl _, rfl, Swept.start H.out (by omega)⟩
  case round =>
    obtain ⟨j, hj, hj1, rfl, hw⟩ := hrel
    have c0 := hw.c0
    have c1 := hw.c1
    by_cases hlt : j ≤ k
    · obtain ⟨v, cv⟩ := hw.cg (j := j) (by omega)
      have fv := hw.fg j
      have HH := Hid_mk (And.intro hj hw)
      clear hj hw
      go_wp2_with (go_at_call 20; refine (freeseg_any _ _).mono ?_; rintro e w' ⟨rfl, rfl⟩)
      go_roundg (gk - 1)
      case rel => exact ⟨j + 1, by have := HH.out.1; omega, by omega, by go_num, HH.out.2.drop H.out hj1⟩
      case measure => have := HH.out.1; omega
    · have c2 := hw.c2
      have f1 : wr.frozen? ⟨s, 1, none⟩ = false := frozen_of_row _ _ _ _ _ hw.hs
      have f2 : wr.frozen? ⟨s, 2, none⟩ = false := frozen_of_row _ _ _ _ _ hw.hs
      have HH := Hid_mk hw
      clear hj hw
      go_wp2_with fail
      go_end0
      have := HH.out.reset H.out
      exact ⟨rfl, this.1, this.2⟩
end Go.Proofs.Ytifdflmleplpkaa
