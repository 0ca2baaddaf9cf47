/- The contract of the stack's SetSp at a depth that it has: the segments above are dropped, the count in the segment in use is set. -/
import Derived.Test.YtnccihkllpabgaaStkBase
import Derived.BigQuiet
import Derived.Deep.QuietTactic
import Derived.Deep.LoopGhost
namespace Go.Proofs.Ytnccihkllpabgaa
open Go.RowKit

theorem free_any (p : Value) (w : World) : Calls Try.prog 36 #[p] w fun e w' => e = .returned (.tuple #[]) ∧ w' = w := by
  go_enter Try.func36, Try.ntmps36
  go_wp2_with fail
  go_end0
  exact ⟨rfl, rfl⟩

/-- While SetSp drops segments: j is the segment in use; the count is not yet turned. -/
structure CutI (base : Nat) (w : World) (s N k sp g : Nat) (B : Nat → Nat) (wr : World) (j : Nat) : Prop where
  jk : j ≤ k
  hs : wr.heap[s]? = some (.cells #[.slice (some ⟨g, 0, none⟩) N N, .int .u16 (j : Int), .int .u8 (sp : Int)] 49 (0, 0))
  hg : ∃ P : Array Value, wr.heap[g]? = some (.cells P 42 (0, 0)) ∧ P.size = N ∧ ∀ i, i ≤ j → P[i]? = some (.pointer (some ⟨B i, 0, none⟩))
  hB : ∀ i, i ≤ j → wr.heap[B i]? = w.heap[B i]?
  kp : Keeps base w wr

theorem CutI.start {base s N k sp g : Nat} {w : World} {B : Nat → Nat} {F : Nat → Frm} (h : Stk base w s N k sp g B F) : CutI base w s N k sp g B w k :=
  ⟨Nat.le_refl _, h.hs, h.hg, fun _ _ => rfl, Keeps.refl _ _⟩
theorem CutI.heap {base s N k sp g j : Nat} {w wr w' : World} {B : Nat → Nat} (h : CutI base w s N k sp g B wr j) (e : w'.heap = wr.heap) (q1 : w'.os = wr.os) (q2 : w'.tape = wr.tape) (q3 : w'.output = wr.output) : CutI base w s N k sp g B w' j :=
  ⟨h.jk, by rw [e]; exact h.hs, by rw [e]; exact h.hg, by rw [e]; exact h.hB, h.kp.alike e q1 q2 q3⟩

/-- One segment less. -/
theorem CutI.drop {base s N k sp g i : Nat} {w wr w' : World} {B : Nat → Nat} {F : Nat → Frm} (h0 : Stk base w s N k sp g B F) (h : CutI base w s N k sp g B wr (i + 1))
    (hh : w'.heap = ((wr.setCell ⟨g, i + 1, none⟩ (.pointer none)).setCell ⟨s, 1, none⟩ (.int .u16 (i : Int))).heap) (q1 : w'.os = wr.os) (q2 : w'.tape = wr.tape) (q3 : w'.output = wr.output) :
    CutI base w s N k sp g B w' i := by
  have hsg := h0.sg
  have hjk := h.jk
  obtain ⟨P, p1, p2, p3⟩ := h.hg
  have K1 := h.kp.setCell (p := ⟨g, i + 1, none⟩) h0.bg p1 (by decide) (.pointer none)
  have s1 := (heap_setCell_other wr ⟨g, i + 1, none⟩ s (.pointer none) hsg).trans h.hs
  have g1 := heap_setCell_same wr g (i + 1) _ _ (.pointer none) p1
  have K2 := K1.setCell (p := ⟨s, 1, none⟩) h0.bs s1 (by decide) (.int .u16 (i : Int))
  have s2 := heap_setCell_same _ s 1 _ _ (.int .u16 (i : Int)) s1
  refine ⟨by omega, ?_, ?_, ?_, K2.alike hh (q1.trans (h.kp.below.os.trans K2.below.os.symm)) (q2.trans (h.kp.below.tape.trans K2.below.tape.symm)) (q3.trans (h.kp.below.output.trans K2.below.output.symm))⟩
  · rw [hh, s2]; simp
  · refine ⟨P.setIfInBounds (i + 1) (.pointer none), ?_, by simpa using p2, ?_⟩
    · rw [hh, heap_setCell_other _ _ _ _ (Ne.symm hsg)]; exact g1
    · intro x hx
      rw [Array.getElem?_setIfInBounds, if_neg (by omega)]
      exact p3 x (by omega)
  · intro x hx
    rw [hh, heap_setCell_other _ _ _ _ (Ne.symm (h0.sB (by omega))), heap_setCell_other _ _ _ _ (Ne.symm (h0.gB (by omega)))]
    exact h.hB x (by omega)

/-- The count is set. -/
theorem CutI.count {base s N k sp g j q : Nat} {w wr : World} {B : Nat → Nat} {F : Nat → Frm} (h0 : Stk base w s N k sp g B F) (h : CutI base w s N k sp g B wr j) (hq : 8 * j + q ≤ 8 * k + sp) (hq8 : q ≤ 8) :
    Stk base (wr.setCell ⟨s, 2, none⟩ (.int .u8 (q : Int))) s N j q g B F ∧ Keeps base w (wr.setCell ⟨s, 2, none⟩ (.int .u8 (q : Int))) := by
  have hjk := h.jk
  refine ⟨h0.resize hjk hq hq8 ?_ ?_ ?_, h.kp.setCell (p := ⟨s, 2, none⟩) h0.bs h.hs (by decide) _⟩
  · rw [heap_setCell_same _ _ _ _ _ _ h.hs]; simp
  · obtain ⟨P, p1, p2, p3⟩ := h.hg
    exact ⟨P, by rw [heap_setCell_other _ _ _ _ (Ne.symm h0.sg)]; exact p1, p2, p3⟩
  · intro i hi
    rw [heap_setCell_other _ _ _ _ (Ne.symm (h0.sB (by omega)))]
    exact h.hB i hi

/-- What SetSp(t) leaves. -/
def SetPost (base : Nat) (w : World) (s N k g : Nat) (B : Nat → Nat) (F : Nat → Frm) (t : Nat) (e : Ending) (w' : World) : Prop :=
  e = .returned (.tuple #[]) ∧ ∃ k', Stk base w' s N k' (t % 8) g B F ∧ k' ≤ k ∧ (k' = t / 8 ∨ (k' = k ∧ k ≤ t / 8)) ∧ Keeps base w w'

set_option maxHeartbeats 400000 in
theorem setsp_any (base s N k sp g t : Nat) (B : Nat → Nat) (F : Nat → Frm) (w : World) (h : Stk base w s N k sp g B F) (ht : t ≤ 8 * k + sp) :
    Calls Try.prog 31 #[.pointer (some ⟨s, 0, none⟩), .int .i64 t] w (SetPost base w s N k g B F t) := by
  have h1 := h.hsp
  have h2 := h.hk
  have h3 := h.hN
  have hsg : ¬ s = g := h.sg
  have hgs : ¬ g = s := fun e => h.sg e.symm
  have H := Hid_mk h
  clear h
  go_enter Try.func31, Try.ntmps31
  go_wp2_with fail
  go_loopg [] k (fun j wr => CutI base w s N k sp g B wr j ∧ (t / 8 ≤ j ∨ j = k))
  case atStart => exact ⟨CutI.start H.out, .inr rfl⟩
  case round =>
    obtain ⟨hc, hor⟩ := hrel
    have hjk := hc.jk
    have c0 : wr.cell? ⟨s, 0, none⟩ = some (.slice (some ⟨g, 0, none⟩) N N) := by rw [cell_of_row _ _ _ _ _ _ hc.hs]; rfl
    have c1 : wr.cell? ⟨s, 1, none⟩ = some (.int .u16 gk) := by rw [cell_of_row _ _ _ _ _ _ hc.hs]; rfl
    have c2 : wr.cell? ⟨s, 2, none⟩ = some (.int .u8 sp) := by rw [cell_of_row _ _ _ _ _ _ hc.hs]; rfl
    have f1 : wr.frozen? ⟨s, 1, none⟩ = false := frozen_of_row _ _ _ _ _ hc.hs
    have f2 : wr.frozen? ⟨s, 2, none⟩ = false := frozen_of_row _ _ _ _ _ hc.hs
    by_cases hle : gk ≤ t / 8
    · have hor' : gk = t / 8 ∨ (gk = k ∧ k ≤ t / 8) := by omega
      have hfin := hc.count (q := t % 8) H.out (by omega) (by omega)
      have HH := Hid_mk (And.intro hjk (And.intro hor' hfin))
      clear hc hor hor' hfin
      go_wp2_with fail
      go_end0
      exact ⟨rfl, gk, HH.out.2.2.1, HH.out.1, HH.out.2.1, HH.out.2.2.2⟩
    · obtain ⟨i, rfl⟩ : ∃ i, gk = i + 1 := ⟨gk - 1, by omega⟩
      obtain ⟨P, p1, p2, p3⟩ := hc.hg
      have cg : wr.cell? ⟨g, i + 1, none⟩ = some (.pointer (some ⟨B (i + 1), 0, none⟩)) := by rw [cell_of_row _ _ _ _ _ _ p1]; exact p3 _ (Nat.le_refl _)
      have fg : wr.frozen? ⟨g, i + 1, none⟩ = false := frozen_of_row _ _ _ _ _ p1
      have HH := Hid_mk (And.intro hc hor)
      clear hc hor p1 p2 p3
      go_wp2_with fail
      go_quiet ((go_at_call 36; exact Calls.quiet_of_same (free_any _ _)))
      go_wp2_with fail
      go_region
      all_goals go_wp2_with fail
      go_roundg i
      case rel =>
        refine ⟨HH.out.1.drop H.out (setCell_heap (setCell_heap (w := wr.drewN _) (w' := wr) rfl)) rfl rfl rfl, .inl (by omega)⟩
      case measure => omega
end Go.Proofs.Ytnccihkllpabgaa
