/- FnSaveregAgreesWithShouldmove: for every context and register a move is asked for exactly when savereg names another register, savereg is idempotent and its answer needs no further move: the law returns true and its arguments read as before. Conditions: none. -/
import Derived.Test.YtmhfdcekgiadoaaRows
import Derived.WalkKit
import Derived.ProofKit
import Derived.OpenShut
import Derived.ShutString
namespace Go.Proofs.Ytmhfdcekgiadoaa.fnSaveregAgreesWithShouldmove
open Go.ChangeShapes Go.WideShapes Go.ChangeAt Go.RowKit
open Go.ChangeMaps (open_string shut_string)
set_option linter.unusedVariables false

theorem own : ownKnob Try.prog.godebug = none := by kernel_rfl

theorem Hid_mk {p : Prop} (h : p) : Hid p := h

/-- A context that is not local, or that has no register: savereg keeps the register. -/
theorem savereg_keep (c e v r : Int) (w : World) (h : (c != 2) = true ∨ (c = 2 ∧ e = 256)) :
    Calls Try.prog 4 #[.int .i64 c, .int .i64 e, .int .i64 v, .int .i64 r] w fun x w' => x = .returned (.int .i64 r) ∧ ∃ C, w.alloc (.cells C 27) = w' := by
  rcases h with h | ⟨rfl, rfl⟩
  · go_enter Try.func4, Try.ntmps4
    go_wp2
    go_end0
    go_wp2
    go_ret
    exact ⟨rfl, _, rfl⟩
  · go_enter Try.func4, Try.ntmps4
    go_wp2
    go_end0
    go_wp2
    go_ret
    exact ⟨rfl, _, rfl⟩

theorem shouldmove_keep (c e v r : Int) (w : World) (h : (c == 2) = false ∨ (c = 2 ∧ e = 256)) :
    Calls Try.prog 5 #[.int .i64 c, .int .i64 e, .int .i64 v, .int .i64 r] w fun x w' => x = .returned (.bool false) ∧ ∃ C, w.alloc (.cells C 27) = w' := by
  rcases h with h | ⟨rfl, rfl⟩
  · go_enter Try.func5, Try.ntmps5
    go_wp2
    go_end0
    go_wp2
    go_ret
    exact ⟨rfl, _, rfl⟩
  · go_enter Try.func5, Try.ntmps5
    go_wp2
    go_end0
    go_wp2
    go_ret
    exact ⟨rfl, _, rfl⟩

/-- A local context with a register: savereg names it. -/
theorem savereg_local (e v r : Int) (w : World) (h : (e == 256) = false) :
    Calls Try.prog 4 #[.int .i64 2, .int .i64 e, .int .i64 v, .int .i64 r] w fun x w' => x = .returned (.int .i64 e) ∧ ∃ C, w.alloc (.cells C 27) = w' := by
  go_enter Try.func4, Try.ntmps4
  go_wp2
  go_end0
  go_wp2
  go_ret
  exact ⟨rfl, _, rfl⟩

theorem shouldmove_local (e v r : Int) (w : World) (h : (e != 256) = true) :
    Calls Try.prog 5 #[.int .i64 2, .int .i64 e, .int .i64 v, .int .i64 r] w fun x w' => x = .returned (.bool (e != r)) ∧ ∃ C, w.alloc (.cells C 27) = w' := by
  go_enter Try.func5, Try.ntmps5
  go_wp2
  go_end0
  go_wp2
  go_ret
  exact ⟨rfl, _, rfl⟩

/-! ### The walk -/
theorem walk (a0 : Int) (a1 : Int) (a2 : Int) (a3 : Int) (w0 : (Lit.int .i64 a0).wf = true) (w1 : (Lit.int .i64 a1).wf = true) (w2 : (Lit.int .i64 a2).wf = true) (w3 : (Lit.int .i64 a3).wf = true) (w : World) :
    Calls Try.prog 3 #[.int .i64 a0, .int .i64 a1, .int .i64 a2, .int .i64 a3] w fun e w' => e = .returned (.bool true) ∧ Grown w w' := by
  have n3 : (a3 != a3) = false := by simp
  have n1 : (a1 != a1) = false := by simp
  by_cases h : a0 = 2 → a1 = 256
  · have k1 : (a0 != 2) = true ∨ (a0 = 2 ∧ a1 = 256) := by
      by_cases h2 : a0 = 2
      · exact .inr ⟨h2, h h2⟩
      · exact .inl (by simpa using h2)
    have k2 : (a0 == 2) = false ∨ (a0 = 2 ∧ a1 = 256) := by
      by_cases h2 : a0 = 2
      · exact .inr ⟨h2, h h2⟩
      · exact .inl (by simpa using h2)
    have K1 := Hid_mk k1
    have K2 := Hid_mk k2
    clear k1 k2 h
    go_enter Try.func3, Try.ntmps3
    go_wp2_with (first
      | (go_at_call 4; refine (savereg_keep _ _ _ _ _ K1.out).mono ?_; rintro x w' ⟨rfl, C, rfl⟩)
      | (go_at_call 5; refine (shouldmove_keep _ _ _ _ _ K2.out).mono ?_; rintro x w' ⟨rfl, C, rfl⟩))
    go_ret
    exact ⟨rfl, ((((Grown.refl _).alloc _ _).alloc _ _).alloc _ _).alloc _ _⟩
  · obtain ⟨rfl, h2⟩ := Classical.not_imp.1 h
    have k1 : (a1 == 256) = false := by simpa using h2
    have k2 : (a1 != 256) = true := by simpa using h2
    have K1 := Hid_mk k1
    have K2 := Hid_mk k2
    have k3 : ((a1 != a3) != (a1 != a3)) = false := by simp
    clear k1 k2 h h2
    go_enter Try.func3, Try.ntmps3
    go_wp2_with (first
      | (go_at_call 4; refine (savereg_local _ _ _ _ K1.out).mono ?_; rintro x w' ⟨rfl, C, rfl⟩)
      | (go_at_call 5; refine (shouldmove_local _ _ _ _ K2.out).mono ?_; rintro x w' ⟨rfl, C, rfl⟩))
    go_ret
    exact ⟨rfl, ((((Grown.refl _).alloc _ _).alloc _ _).alloc _ _).alloc _ _⟩

/-! ### The row -/
set_option maxRecDepth 100000 in
theorem lifted (os : Os) (started : os.Started) (H : Type) (enc : TypeId × Value → H) :
    ReturnsInHanded {} Try.checked os 3 .any (Rows.fnSaveregAgreesWithShouldmoveSpec.pre6 enc Try.prog Try.f3 Rows.fnSaveregAgreesWithShouldmoveRow.domain false) (Rows.fnSaveregAgreesWithShouldmoveSpec.post enc Try.prog Try.f3 false true false false) := by
  refine returnsInHanded_of_change (C := Try.checked) own started (by kernel_rfl) Try.func3
    (ChangeSpec.witness6 (enc := enc) (C := Try.checked) false ⟨#[], #[.int .i64 0, .int .i64 0, .int .i64 0, .int .i64 0], []⟩ 8 (by kernel_rfl) (by kernel_rfl) (by kernel_rfl) (by kernel_rfl)) ?_
  intro W base args ds gs before hval0 hW hcnd _
  have hval : ∀ (j : Nat) t v, Try.f3.params[j]? = some t → args[j]? = some v → Value.okWide Try.prog W .any base t v := hval0
  have hW' := hW
  obtain ⟨p, q, hA0, hV, rfl, hfz, hnd⟩ := hW
  have hA : DataW.TrodAll enc Try.prog W 0 (fun _ => true) true Try.f3.params.toList args.toList ds p := hA0
  rw [Try.params3] at hA hval
  obtain ⟨v0, vs0, d0, ds0, p0, q0, hargs, rfl, rfl, h0, r0⟩ := trodAll_cons hA
  obtain ⟨v1, vs1, d1, ds1, p1, q1, rfl, rfl, rfl, h1, r1⟩ := trodAll_cons r0
  obtain ⟨v2, vs2, d2, ds2, p2, q2, rfl, rfl, rfl, h2, r2⟩ := trodAll_cons r1
  obtain ⟨v3, vs3, d3, ds3, p3, q3, rfl, rfl, rfl, h3, r3⟩ := trodAll_cons r2
  obtain ⟨rfl, rfl, rfl⟩ := trodAll_nil r3
  obtain rfl : args = #[v0, v1, v2, v3] := by cases args; simp_all
  obtain ⟨rfl, rfl⟩ := trodVars_none hV
  obtain ⟨a0, rfl, rfl, rfl, w0⟩ := open_int Try.underlying3 (hval 0 3 v0 rfl rfl) h0
  obtain ⟨a1, rfl, rfl, rfl, w1⟩ := open_int Try.underlying3 (hval 1 3 v1 rfl rfl) h1
  obtain ⟨a2, rfl, rfl, rfl, w2⟩ := open_int Try.underlying3 (hval 2 3 v2 rfl rfl) h2
  obtain ⟨a3, rfl, rfl, rfl, w3⟩ := open_int Try.underlying3 (hval 3 3 v3 rfl rfl) h3
  clear hA0 hval0
  simp only [List.append_nil] at hW'
  refine (walk a0 a1 a2 a3 w0 w1 w2 w3 W).mono fun e W' ⟨he, hg⟩ => ?_
  subst he
  exact ⟨_, rfl, post_of_same (pa := []) (pv := []) hW' (fun _ _ _ => (trodAll_cons_mk (shut_bool Try.underlying4 _) trodAll_mk0)) (fun sp _ => (trodAll_cons_mk (shut_int Try.underlying3 w0) (trodAll_cons_mk (shut_int Try.underlying3 w1) (trodAll_cons_mk (shut_int Try.underlying3 w2) (trodAll_cons_mk (shut_int Try.underlying3 w3) trodAll_mk0))))) (fun _ _ => rfl) rfl
    (hg.frame _) hg.2.1 (ok_one (by kernel_rfl) rfl (okWide_bool_mk Try.underlying4 _))⟩

theorem over : Rows.fnSaveregAgreesWithShouldmoveRow.holds Try.pinned (OpenSpec.ofChange Rows.fnSaveregAgreesWithShouldmoveSpec) :=
  OpenClaim.holds_of_wide 3 Try.f3 rfl rfl rfl rfl rfl rfl rfl ⟨rfl, rfl, rfl, rfl, rfl⟩ rfl rfl rfl rfl rfl (by kernel_rfl) Try.func3 (by kernel_rfl)
    (of_decide_eq_true (by kernel_rfl)) (by unfold Func.isWrapper; first | (rw [if_pos (by decide +kernel)]; kernel_rfl) | (rw [if_neg (by decide +kernel)]; exact ⟨rfl, rfl⟩))
    (fun os started H enc _ => lifted os started H enc)

/-- The given statement. -/
theorem proved : Rows.FnSaveregAgreesWithShouldmoveSaid :=
  over
#print axioms proved
end Go.Proofs.Ytmhfdcekgiadoaa.fnSaveregAgreesWithShouldmove
