/- FnEcupdateOnFreshEcnoneLeavesCachesAlone: for all arguments an update of a fresh context changes that context alone: the law returns true and its arguments read as before. Conditions: none. -/
import Derived.Test.YtbagleakbbgadaaRows
import Derived.WalkKit
import Derived.ProofKit
import Derived.OpenShut
import Derived.Lib.Hide
import Derived.Deep.LoopGhost
import Derived.LaidEqlPtr
import Derived.Test.YtbagleakbbgadaaBase
namespace Go.Proofs.Ytbagleakbbgadaa.fnEcupdateOnFreshEcnoneLeavesCachesAlone
open Go.ChangeShapes Go.WideShapes Go.ChangeAt Go.RowKit
set_option linter.unusedVariables false

theorem own : ownKnob Try.prog.godebug = none := by kernel_rfl

theorem info33 : (Try.prog.info? 33).map (fun i => i.size) = some 4 := by kernel_rfl

/-! ### The walk -/
theorem walk (a0 : Int) (a1 : Int) (a2 : Int) (a3 : Int) (w0 : (Lit.int .i64 a0).wf = true) (w1 : (Lit.int .i64 a1).wf = true) (w2 : (Lit.int .i64 a2).wf = true) (w3 : (Lit.int .i64 a3).wf = true) (w : World) :
    Calls Try.prog 5 #[.int .i64 a0, .int .i64 a1, .int .i64 a2, .int .i64 a3] w fun e w' => e = .returned (.bool true) ∧ Grown w w' := by
  by_cases h0 : a0 = 0
  · subst h0
    go_enter Try.func5, Try.ntmps5
    go_wp2
    go_ret
    exact ⟨rfl, Grown.refl _⟩
  by_cases h1 : a0 = -1
  · subst h1
    go_enter Try.func5, Try.ntmps5
    go_wp2
    go_ret
    exact ⟨rfl, Grown.refl _⟩
  by_cases h2 : a0 = -2
  · subst h2
    go_enter Try.func5, Try.ntmps5
    go_wp2
    go_ret
    exact ⟨rfl, Grown.refl _⟩
  have e0 : (a0 == 0) = false := by simpa using h0
  have e1 : (a0 == -1) = false := by simpa using h1
  have e2 : (a0 == -2) = false := by simpa using h2
  have es : shr a0 = false := by simp [shr, h0, h1, h2]
  have n1 : (a1 != a1) = false := by simp
  have n2 : (a2 != a2) = false := by simp
  have n3 : (a3 != a3) = false := by simp
  have Hs := Hid_mk es
  clear h0 h1 h2 es
  go_enter Try.func5, Try.ntmps5
  go_wp2_with (first
    | (go_at_call 13; go_in)
    | (go_at_call 6; refine (ecnone_c _ _).mono ?_; rintro e w' ⟨rfl, C, rfl, c0, c1, c2, c3⟩; rw [Hs.out] at c3)
    | (go_at_call 14; refine (update_c _ _ _ _ _ _ rfl _ _ _ c0 c1 c2 c3).mono ?_; rintro e w' ⟨rfl, D, rfl, d0, d1, d2⟩; clear c0 c1 c2 c3)
    | (go_at_call 10; go_in) | (go_at_call 11; go_in) | (go_at_call 12; go_in))
  clear d0 d1 d2
  go_loopg [10] 4 (fun k i wr => ∃ j : Int, -3 ≤ j ∧ j ≤ 0 ∧ (k : Int) = j + 4 ∧ i = .int .i64 j ∧ Grown w wr ∧ ∃ D, wr.heap[w.heap.size]? = some (.cells D 33 (0, 0)))
  case atStart => exact ⟨0, by omega, by omega, by omega, rfl, (Grown.refl _).alloc _ _, _, heap_alloc_new _ _⟩
  case round =>
    obtain ⟨j, hj1, hj2, hk, rfl, hg, D, hD⟩ := hrel
    have hlt : w.heap.size < wr.heap.size := lt_of_block hD
    by_cases hj : -2 ≤ j
    · have HD := Hid_mk (And.intro hD hk)
      clear hD hk
      go_wp2_with (first
        | (go_at_call 6; refine (ecnone_c _ _).mono ?_; rintro e w' ⟨rfl, C, rfl, c0, c1, c2, c3⟩)
        | (go_at_call 9; refine (isnone_yes _ _).mono ?_; rintro e w' ⟨rfl, rfl⟩)
        | (go_at_call 10; go_in) | (go_at_call 11; go_in) | (go_at_call 12; go_in))
      go_roundg (gk - 1)
      case rel => exact ⟨j - 1, by omega, by omega, by have := HD.out.2; omega, by go_num, hg.alloc _ _, _, by rw [Below.heap_alloc _ _ _ hlt]; exact HD.out.1⟩
      case measure => have := HD.out.2; omega
    · have hpe : ∀ C, (binOp .eql 22 (.pointer (some ⟨wr.heap.size, 0, none⟩)) (.pointer (some ⟨w.heap.size, 0, none⟩))).run Try.prog (wr.alloc (.cells C 33)) = .ok (.bool false) (wr.alloc (.cells C 33)) := by
        intro C
        obtain ⟨i33, hi33, hs33⟩ : ∃ i, Try.prog.info? 33 = some i ∧ i.size ≠ 0 := by
          obtain ⟨i, h1, h2⟩ := Option.map_eq_some_iff.1 info33
          exact ⟨i, h1, by rw [h2]; decide⟩
        exact run_eql_ptr_other _ Try.underlying22 hi33 hs33 (by simp) (heap_alloc_new _ _) (by rw [Below.heap_alloc _ _ _ hlt]; exact hD)
      have HD := Hid_mk hk
      clear hD hk
      go_wp2_with (first
        | (go_at_call 6; refine (ecnone_c _ _).mono ?_; rintro e w' ⟨rfl, C, rfl, c0, c1, c2, c3⟩)
        | (go_at_call 9; refine (isnone_yes _ _).mono ?_; rintro e w' ⟨rfl, rfl⟩)
        | (go_at_call 10; go_in) | (go_at_call 11; go_in) | (go_at_call 12; go_in))
      go_ret
      exact ⟨rfl, hg.alloc _ _⟩

/-! ### The row -/
set_option maxRecDepth 100000 in
theorem lifted (os : Os) (started : os.Started) (H : Type) (enc : TypeId × Value → H) :
    ReturnsInHanded {} Try.checked os 5 .any (Rows.fnEcupdateOnFreshEcnoneLeavesCachesAloneSpec.pre6 enc Try.prog Try.f5 Rows.fnEcupdateOnFreshEcnoneLeavesCachesAloneRow.domain false) (Rows.fnEcupdateOnFreshEcnoneLeavesCachesAloneSpec.post enc Try.prog Try.f5 false true false false) := by
  refine returnsInHanded_of_change (C := Try.checked) own started (by kernel_rfl) Try.func5
    (ChangeSpec.witness6 (enc := enc) (C := Try.checked) false ⟨#[], #[.int .i64 0, .int .i64 0, .int .i64 0, .int .i64 0], []⟩ 8 (by kernel_rfl) (by kernel_rfl) (by kernel_rfl) (by kernel_rfl)) ?_
  intro W base args ds gs before hval0 hW hcnd _
  have hval : ∀ (j : Nat) t v, Try.f5.params[j]? = some t → args[j]? = some v → Value.okWide Try.prog W .any base t v := hval0
  have hW' := hW
  obtain ⟨p, q, hA0, hV, rfl, hfz, hnd⟩ := hW
  have hA : DataW.TrodAll enc Try.prog W 0 (fun _ => true) true Try.f5.params.toList args.toList ds p := hA0
  rw [Try.params5] at hA hval
  obtain ⟨v0, vs0, d0, ds0, p0, q0, hargs, rfl, rfl, h0, r0⟩ := trodAll_cons hA
  obtain ⟨v1, vs1, d1, ds1, p1, q1, rfl, rfl, rfl, h1, r1⟩ := trodAll_cons r0
  obtain ⟨v2, vs2, d2, ds2, p2, q2, rfl, rfl, rfl, h2, r2⟩ := trodAll_cons r1
  obtain ⟨v3, vs3, d3, ds3, p3, q3, rfl, rfl, rfl, h3, r3⟩ := trodAll_cons r2
  obtain ⟨rfl, rfl, rfl⟩ := trodAll_nil r3
  obtain rfl : args = #[v0, v1, v2, v3] := by cases args; simp_all
  obtain ⟨rfl, rfl⟩ := trodVars_none hV
  obtain ⟨a0, rfl, rfl, rfl, w0⟩ := open_int Try.underlying3 (hval 0 3 v0 rfl rfl) h0
  obtain ⟨a1, rfl, rfl, rfl, w1⟩ := open_int Try.underlying3 (hval 1 3 v1 rfl rfl) h1
  obtain ⟨a2, rfl, rfl, rfl, w2⟩ := open_int Try.underlying3 (hval 2 3 v2 rfl rfl) h2
  obtain ⟨a3, rfl, rfl, rfl, w3⟩ := open_int Try.underlying3 (hval 3 3 v3 rfl rfl) h3
  clear hA0 hval0
  simp only [List.append_nil] at hW'
  refine (walk a0 a1 a2 a3 w0 w1 w2 w3 W).mono fun e W' ⟨he, hg⟩ => ?_
  subst he
  exact ⟨_, rfl, post_of_same (pa := []) (pv := []) hW' (fun _ _ _ => (trodAll_cons_mk (shut_bool Try.underlying4 _) trodAll_mk0)) (fun sp _ => (trodAll_cons_mk (shut_int Try.underlying3 w0) (trodAll_cons_mk (shut_int Try.underlying3 w1) (trodAll_cons_mk (shut_int Try.underlying3 w2) (trodAll_cons_mk (shut_int Try.underlying3 w3) trodAll_mk0))))) (fun _ _ => rfl) rfl
    (hg.frame _) hg.2.1 (ok_one (by kernel_rfl) rfl (okWide_bool_mk Try.underlying4 _))⟩

theorem over : Rows.fnEcupdateOnFreshEcnoneLeavesCachesAloneRow.holds Try.pinned (OpenSpec.ofChange Rows.fnEcupdateOnFreshEcnoneLeavesCachesAloneSpec) :=
  OpenClaim.holds_of_wide 5 Try.f5 rfl rfl rfl rfl rfl rfl rfl ⟨rfl, rfl, rfl, rfl, rfl⟩ rfl rfl rfl rfl rfl (by kernel_rfl) Try.func5 (by kernel_rfl)
    (of_decide_eq_true (by kernel_rfl)) (by unfold Func.isWrapper; first | (rw [if_pos (by decide +kernel)]; kernel_rfl) | (rw [if_neg (by decide +kernel)]; exact ⟨rfl, rfl⟩))
    (fun os started H enc _ => lifted os started H enc)

/-- The given statement. -/
theorem proved : Rows.FnEcupdateOnFreshEcnoneLeavesCachesAloneSaid :=
  over
#print axioms proved
end Go.Proofs.Ytbagleakbbgadaa.fnEcupdateOnFreshEcnoneLeavesCachesAlone
