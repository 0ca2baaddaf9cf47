/- FnPopenArgsSameShellFreshSlices: for all strings two calls of popenArgs pick the same shell and flag and hand out slices that share no memory: the law returns true and its arguments read as before. Conditions: none. -/
import Derived.Test.YtepbgcokclhoeaaRows
import Derived.WalkKit
import Derived.ProofKit
import Derived.OpenShut
import Derived.ShutString
import Derived.ChangeOld
import Derived.Below
import Derived.WalkSmall
import Derived.BigQuiet
import Derived.Deep.QuietTactic
import Derived.Test.YtepbgcokclhoeaaPopen
namespace Go.Proofs.Ytepbgcokclhoeaa.fnPopenArgsSameShellFreshSlices
open Go.ChangeShapes Go.WideShapes Go.ChangeAt Go.RowKit
open Go.ChangeMaps (open_string shut_string)
set_option linter.unusedVariables false

theorem own : ownKnob Try.prog.godebug = none := by kernel_rfl

/-! ### The walk -/
theorem walk (a0 : ByteArray) (a1 : ByteArray) (w0 : a0.size ≤ maxLen) (w1 : a1.size ≤ maxLen) (w : World) :
    Calls Try.prog 3 #[.string a0, .string a1] w fun e w' => e = .returned (.bool true) ∧ Below w.heap.size w w' := by
  have m0 := w0
  have m1 := w1
  unfold maxLen at m0 m1
  by_cases h0 : 1048576 < a0.size
  · go_enter Try.func3, Try.ntmps3
    go_wp2
    go_ret
    exact ⟨rfl, Below.refl _ _⟩
  by_cases h1 : 1048576 < a1.size
  · go_enter Try.func3, Try.ntmps3
    go_wp2
    go_ret
    exact ⟨rfl, Below.refl _ _⟩
  by_cases h2 : 1048576 < a0.size + a1.size
  · go_enter Try.func3, Try.ntmps3
    go_wp2
    go_ret
    exact ⟨rfl, Below.refl _ _⟩
  go_enter Try.func3, Try.ntmps3
  go_wp2_with (go_at_call 4; go_in)
  clear h0 h1 h2
  refine (popen_any _ _).mono ?_
  rintro e W1 ⟨g1, cap1, cur1, rfl, hg1, hh1, x10, x11, hc1, hb1⟩
  have H1 := Hid_mk (And.intro hg1 (And.intro hh1 (And.intro x10 (And.intro x11 (And.intro hc1 hb1)))))
  clear hg1 hh1 x10 x11 hc1 hb1
  go_wp2_with fail
  refine (popen_any _ _).mono ?_
  rintro e W2 ⟨g2, cap2, cur2, rfl, hg2, hh2, x20, x21, hc2, hb2⟩
  have l1 : g1 < W1.heap.size := lt_of_block H1.out.2.1
  have l2 : g2 < W2.heap.size := lt_of_block hh2
  have hh1 : W2.heap[g1]? = some (.cells cur1 9 (0, 0)) := (hb2.block g1 l1).trans H1.out.2.1
  have k10 : W2.cell? ⟨g1, 0, none⟩ = some (.string FL) := (cell_of_row _ _ _ _ _ _ hh1).trans H1.out.2.2.1
  have k11 : W2.cell? ⟨g1, 1, none⟩ = some (.string a0) := (cell_of_row _ _ _ _ _ _ hh1).trans H1.out.2.2.2.1
  have f1 : ∀ j, W2.frozen? ⟨g1, j, none⟩ = false := fun j => frozen_of_row _ _ _ _ _ hh1
  have f10 := f1 0
  have f11 := f1 1
  have k20 : W2.cell? ⟨g2, 0, none⟩ = some (.string FL) := (cell_of_row _ _ _ _ _ _ hh2).trans x20
  have H2 := Hid_mk (And.intro hg2 (And.intro hh2 (And.intro x20 (And.intro x21 (And.intro hc2 (And.intro hb2 (And.intro l1 (And.intro l2 hh1))))))))
  clear hg2 hh2 x20 x21 hc2 hb2 l1 l2 hh1 f1
  go_wp2_with fail
  go_quiet (fail)
  go_wp2_with fail
  generalize hW3 : (World.setCell (World.setCell _ _ _) _ _) = W3
  have hs3 : W3.heap.size = W2.heap.size := by rw [← hW3]; simp
  have hh3 : W3.heap[g2]? = some (.cells cur2 9 (0, 0)) := by
    have hn : g2 ≠ g1 := by have := H1.out.1; have := H2.out.1; have := H2.out.2.2.2.2.2.2.1; omega
    rw [← hW3, heap_setCell_other _ _ _ _ (by simpa using hn), heap_setCell_other _ _ _ _ (by simpa using hn)]; exact H2.out.2.1
  have hB3 : Below w.heap.size w W3 := by
    have hb12 : Below w.heap.size w W2 := H1.out.2.2.2.2.2.trans (H2.out.2.2.2.2.2.1.mono H1.out.2.2.2.2.2.size)
    rw [← hW3]
    exact ((below_drewN hb12 nq).setCell H1.out.1 _).setCell H1.out.1 _
  have H3 := Hid_mk (And.intro hs3 (And.intro hh3 hB3))
  clear hW3 hs3 hh3 hB3 k10 k11 f10 f11 k20
  refine (popen_any _ _).mono ?_
  rintro e W4 ⟨g3, cap3, cur3, rfl, hg3, hh4, x30, x31, hc3, hb3⟩
  have l2 : g2 < W3.heap.size := by rw [H3.out.1]; exact H2.out.2.2.2.2.2.2.2.1
  have hh2 : W4.heap[g2]? = some (.cells cur2 9 (0, 0)) := (hb3.block g2 l2).trans H3.out.2.1
  have k20 : W4.cell? ⟨g2, 0, none⟩ = some (.string FL) := (cell_of_row _ _ _ _ _ _ hh2).trans H2.out.2.2.1
  have k21 : W4.cell? ⟨g2, 1, none⟩ = some (.string a1) := (cell_of_row _ _ _ _ _ _ hh2).trans H2.out.2.2.2.1
  have k30 : W4.cell? ⟨g3, 0, none⟩ = some (.string FL) := (cell_of_row _ _ _ _ _ _ hh4).trans x30
  have k31 : W4.cell? ⟨g3, 1, none⟩ = some (.string a1) := (cell_of_row _ _ _ _ _ _ hh4).trans x31
  have f3 : ∀ j, W4.frozen? ⟨g3, j, none⟩ = false := fun j => frozen_of_row _ _ _ _ _ hh4
  have f30 := f3 0
  have f31 := f3 1
  have hne : ¬ g2 = g3 := by omega
  have hne' : ¬ g3 = g2 := by omega
  have ho3 : w.heap.size ≤ g3 := by have := H3.out.2.2.size; omega
  have hB4 : Below w.heap.size w W4 := H3.out.2.2.trans (hb3.mono H3.out.2.2.size)
  have H4 := Hid_mk (And.intro ho3 hB4)
  clear hg3 hh4 x30 x31 hc3 hb3 l2 hh2 f3 ho3 hB4
  go_wp2_with fail
  go_ret
  exact ⟨rfl, (H4.out.2.setCell H4.out.1 _).setCell H4.out.1 _⟩

/-! ### The row -/
set_option maxRecDepth 100000 in
theorem lifted (os : Os) (started : os.Started) (H : Type) (enc : TypeId × Value → H) :
    ReturnsInHanded {} Try.checked os 3 .any (Rows.fnPopenArgsSameShellFreshSlicesSpec.pre6 enc Try.prog Try.f3 Rows.fnPopenArgsSameShellFreshSlicesRow.domain false) (Rows.fnPopenArgsSameShellFreshSlicesSpec.post enc Try.prog Try.f3 false true false false) := by
  refine returnsInHanded_of_change (C := Try.checked) own started (by kernel_rfl) Try.func3
    (ChangeSpec.witness6 (enc := enc) (C := Try.checked) false ⟨#[], #[.string ByteArray.empty, .string ByteArray.empty], []⟩ 8 (by kernel_rfl) (by kernel_rfl) (by kernel_rfl) (by kernel_rfl)) ?_
  intro W base args ds gs before hval0 hW hcnd _
  have hval : ∀ (j : Nat) t v, Try.f3.params[j]? = some t → args[j]? = some v → Value.okWide Try.prog W .any base t v := hval0
  have hW' := hW
  obtain ⟨p, q, hA0, hV, rfl, hfz, hnd⟩ := hW
  have hA : DataW.TrodAll enc Try.prog W 0 (fun _ => true) true Try.f3.params.toList args.toList ds p := hA0
  rw [Try.params3] at hA hval
  obtain ⟨v0, vs0, d0, ds0, p0, q0, hargs, rfl, rfl, h0, r0⟩ := trodAll_cons hA
  obtain ⟨v1, vs1, d1, ds1, p1, q1, rfl, rfl, rfl, h1, r1⟩ := trodAll_cons r0
  obtain ⟨rfl, rfl, rfl⟩ := trodAll_nil r1
  obtain rfl : args = #[v0, v1] := by cases args; simp_all
  obtain ⟨rfl, rfl⟩ := trodVars_none hV
  obtain ⟨a0, rfl, rfl, rfl, w0⟩ := open_string Try.underlying9 (hval 0 9 v0 rfl rfl) h0
  obtain ⟨a1, rfl, rfl, rfl, w1⟩ := open_string Try.underlying9 (hval 1 9 v1 rfl rfl) h1
  clear hA0 hval0
  simp only [List.append_nil] at hW'
  refine (walk a0 a1 w0 w1 W).mono fun e W' ⟨he, hg⟩ => ?_
  subst he
  exact ⟨_, rfl, _, _, _, [], _, [], hW', trodAll_mk1 (shut_bool Try.underlying4 _), (trodAll_cons_mk (shut_string Try.underlying9 w0) (trodAll_cons_mk (shut_string Try.underlying9 w1) trodAll_mk0)), rfl, hg.frame _, fun h => by cases h⟩

theorem over : Rows.fnPopenArgsSameShellFreshSlicesRow.holds Try.pinned (OpenSpec.ofChange Rows.fnPopenArgsSameShellFreshSlicesSpec) :=
  OpenClaim.holds_of_wide 3 Try.f3 rfl rfl rfl rfl rfl rfl rfl ⟨rfl, rfl, rfl, rfl, rfl⟩ rfl rfl rfl rfl rfl (by kernel_rfl) Try.func3 (by kernel_rfl)
    (of_decide_eq_true (by kernel_rfl)) (by unfold Func.isWrapper; first | (rw [if_pos (by decide +kernel)]; kernel_rfl) | (rw [if_neg (by decide +kernel)]; exact ⟨rfl, rfl⟩))
    (fun os started H enc _ => lifted os started H enc)

/-- The given statement. -/
theorem proved : Rows.FnPopenArgsSameShellFreshSlicesSaid :=
  over
#print axioms proved
end Go.Proofs.Ytepbgcokclhoeaa.fnPopenArgsSameShellFreshSlices
