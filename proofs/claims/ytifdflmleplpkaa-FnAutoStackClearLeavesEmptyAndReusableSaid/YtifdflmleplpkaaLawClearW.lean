/- The walk of the law whose statement is: FnAutoStackClearLeavesEmptyAndReusable: Clear empties the stack, whose whole capacity can be used again: the law returns true and its arguments read as before. Conditions: none. -/
import Derived.Test.YtifdflmleplpkaaRows
import Derived.WalkKit
import Derived.ProofKit
import Derived.OpenShut
import Derived.ChangeOld
import Derived.Below
import Derived.ShutString
import Derived.ChangeOld
import Derived.Below
import Derived.Deep.LoopGhost
import Derived.Test.YtifdflmleplpkaaOps16
namespace Go.Proofs.Ytifdflmleplpkaa.fnAutoStackClearLeavesEmptyAndReusable
open Go.ChangeShapes Go.WideShapes Go.ChangeAt Go.RowKit
open Go.ChangeMaps (open_string shut_string)
set_option linter.unusedVariables false


/-! ### The walk -/
set_option maxRecDepth 100000 in
set_option maxHeartbeats 1000000 in
theorem walk (a0 : Int) (a1 : Int) (w0 : (Lit.int .i64 a0).wf = true) (w1 : (Lit.int .i64 a1).wf = true) (w : World) :
    Calls Try.prog 4 #[.int .i64 a0, .int .i64 a1] w fun e w' => e = .returned (.bool true) ∧ Below w.heap.size w w' := by
  by_cases g0 : a0 < 1
  · go_enter Try.func4, Try.ntmps4
    go_wp2
    go_ret
    exact ⟨rfl, Below.refl _ _⟩
  by_cases g1 : 65536 < a0
  · go_enter Try.func4, Try.ntmps4
    go_wp2
    go_ret
    exact ⟨rfl, Below.refl _ _⟩
  obtain ⟨m, rfl⟩ : ∃ m : Nat, a0 = (m : Int) := ⟨a0.toNat, by omega⟩
  obtain ⟨N, hN⟩ : ∃ N, N = (m + 7) / 8 := ⟨_, rfl⟩
  have hN1 : 1 ≤ N := by omega
  have hN2 : N ≤ 8192 := by omega
  have hcap := capof_any m N w (by omega) hN
  have hnew := fun W => newauto_any m N W (by omega) (by omega) hN
  generalize hC : 8 * N = C at hcap
  have hC2 : C ≤ 65536 := by omega
  by_cases g2 : a1 < 0 ∨ (C : Int) < a1
  · have H0 := Hid_mk (And.intro hcap (And.intro hnew hC))
    clear hcap hnew hN hC w0 w1
    go_enter Try.func4, Try.ntmps4
    go_wp2_with fail
    refine H0.out.1.mono ?_
    rintro e w' ⟨rfl, rfl⟩
    go_wp2_with fail
    all_goals go_ret
    all_goals exact ⟨rfl, Below.refl _ _⟩
  obtain ⟨k, rfl⟩ : ∃ k : Nat, a1 = (k : Int) := ⟨a1.toNat, by omega⟩
  have hkC : k ≤ C := by omega
  have H0 := Hid_mk (And.intro hcap (And.intro hnew hC))
  clear hcap hnew hN hC w0 w1
  go_enter Try.func4, Try.ntmps4
  go_wp2_with fail
  refine H0.out.1.mono ?_
  rintro e w' ⟨rfl, rfl⟩
  go_wp2_with fail
  refine (H0.out.2.1 _).mono ?_
  rintro e W1 ⟨s, g, B, rfl, hs, hk⟩
  have H1 := Hid_mk (And.intro (hs (fun _ => (0, 0, 0))) hk)
  clear hs hk
  have hfill := fill_any w.heap.size s N k g 1 B _ W1 (H1.out.1) (by have := H0.out.2.2; omega) (by omega) (by omega)
  have HFn := Hid_mk hfill
  clear hfill
  go_wp2_with fail
  refine HFn.out.mono ?_
  rintro e W2 ⟨rfl, k2, sp2, B2, hs2, hd2, hk2⟩
  have H2 := Hid_mk (And.intro hs2 (And.intro hd2 hk2))
  clear hs2 hd2 hk2 HFn
  have hcl := clear_any w.heap.size s N k2 sp2 g B2 _ W2 H2.out.1
  have HCl := Hid_mk hcl
  clear hcl
  go_wp2_with fail
  refine HCl.out.mono ?_
  rintro e W3 ⟨rfl, hs3, hk3⟩
  have hem := empty_any w.heap.size s N 0 0 g B2 _ W3 hs3
  have hsp := sp_any w.heap.size s N 0 0 g B2 _ W3 hs3 0 (by omega)
  have H3 := Hid_mk (And.intro hs3 (And.intro hk3 (And.intro hem hsp)))
  clear hs3 hk3 hem hsp
  go_wp2_with fail
  refine H3.out.2.2.1.mono ?_
  rintro e w' ⟨rfl, rfl⟩
  go_wp2_with fail
  refine H3.out.2.2.2.mono ?_
  rintro e W4 ⟨rfl, hs4, hk4⟩
  have hfu := full_any w.heap.size s N 0 0 g B2 _ W4 hs4
  have H4 := Hid_mk (And.intro hk4 hfu)
  clear hs4 hk4 hfu
  go_wp2_with fail
  refine H4.out.2.mono ?_
  rintro e W5 ⟨rfl, hs5, hk5⟩
  have hpop := pop_nil w.heap.size s N g B2 _ W5 hs5
  have H5 := Hid_mk (And.intro hk5 hpop)
  clear hs5 hk5 hpop
  go_wp2_with fail
  refine H5.out.2.mono ?_
  rintro e W6 ⟨rfl, hs6, hk6⟩
  have H6 := Hid_mk (And.intro hs6 (H3.out.2.1.trans (H4.out.1.trans (H5.out.1.trans hk6))))
  clear hs6 hk6
  have hfill := fill_any w.heap.size s N C g 1048576 B2 _ W6 (H6.out.1) (by have := H0.out.2.2; omega) (by omega) (by omega)
  have HFn := Hid_mk hfill
  clear hfill
  go_wp2_with fail
  refine HFn.out.mono ?_
  rintro e W7 ⟨rfl, k3, sp3, B3, hs2, hd2, hk2⟩
  have H7 := Hid_mk (And.intro hs2 (And.intro hd2 hk2))
  clear hs2 hd2 hk2 HFn
  have hdr := drain_any w.heap.size s N C k3 sp3 g 1048576 B3 W7 H7.out.1 H7.out.2.1 (by omega) (by omega)
  have HD := Hid_mk hdr
  clear hdr
  go_wp2_with fail
  refine HD.out.mono ?_
  rintro e W8 ⟨rfl, hk8⟩
  have H8 := Hid_mk hk8
  clear hk8
  go_wp2_with fail
  go_ret
  exact ⟨rfl, (H1.out.2.trans (H2.out.2.2.trans (H6.out.2.trans (H7.out.2.2.trans H8.out)))).below⟩

end Go.Proofs.Ytifdflmleplpkaa.fnAutoStackClearLeavesEmptyAndReusable
