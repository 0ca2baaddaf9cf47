/- The walk of the law whose statement is: FnAutoStackHoldsSmallestMultipleOfEight: a fresh stack takes as many frames as the least multiple of eight not below maxSize and gives them back in reverse: the law returns true and its arguments read as before. Conditions: none. -/
import Derived.Test.YtifdflmleplpkaaRows
import Derived.WalkKit
import Derived.ProofKit
import Derived.OpenShut
import Derived.ChangeOld
import Derived.Below
import Derived.ShutString
import Derived.ChangeOld
import Derived.Below
import Derived.Deep.LoopGhost
import Derived.Test.YtifdflmleplpkaaOps16
namespace Go.Proofs.Ytifdflmleplpkaa.fnAutoStackHoldsSmallestMultipleOfEight
open Go.ChangeShapes Go.WideShapes Go.ChangeAt Go.RowKit
open Go.ChangeMaps (open_string shut_string)
set_option linter.unusedVariables false


/-! ### The walk -/
set_option maxRecDepth 100000 in
set_option maxHeartbeats 1000000 in
theorem walk (a0 : Int) (w0 : (Lit.int .i64 a0).wf = true) (w : World) :
    Calls Try.prog 3 #[.int .i64 a0] w fun e w' => e = .returned (.bool true) ∧ Below w.heap.size w w' := by
  by_cases g0 : a0 < 1
  · go_enter Try.func3, Try.ntmps3
    go_wp2
    go_ret
    exact ⟨rfl, Below.refl _ _⟩
  by_cases g1 : 65536 < a0
  · go_enter Try.func3, Try.ntmps3
    go_wp2
    go_ret
    exact ⟨rfl, Below.refl _ _⟩
  obtain ⟨m, rfl⟩ : ∃ m : Nat, a0 = (m : Int) := ⟨a0.toNat, by omega⟩
  obtain ⟨N, hN⟩ : ∃ N, N = (m + 7) / 8 := ⟨_, rfl⟩
  have hN1 : 1 ≤ N := by omega
  have hN2 : N ≤ 8192 := by omega
  have hcap := capof_any m N w (by omega) hN
  have hnew := fun W => newauto_any m N W (by omega) (by omega) hN
  generalize hC : 8 * N = C at hcap
  have hC2 : C ≤ 65536 := by omega
  have H0 := Hid_mk (And.intro hcap (And.intro hnew hC))
  clear hcap hnew hN hC w0
  go_enter Try.func3, Try.ntmps3
  go_wp2_with fail
  refine H0.out.1.mono ?_
  rintro e w' ⟨rfl, rfl⟩
  go_wp2_with fail
  refine (H0.out.2.1 _).mono ?_
  rintro e W1 ⟨s, g, B, rfl, hs, hk⟩
  have H1 := Hid_mk (And.intro (hs (fun _ => (0, 0, 0))) hk)
  clear hs hk
  have hfill := fill_any w.heap.size s N C g 1 B _ W1 (H1.out.1) (by have := H0.out.2.2; omega) (by omega) (by omega)
  have HFn := Hid_mk hfill
  clear hfill
  go_wp2_with fail
  refine HFn.out.mono ?_
  rintro e W2 ⟨rfl, k2, sp2, B2, hs2, hd2, hk2⟩
  have H2 := Hid_mk (And.intro hs2 (And.intro hd2 hk2))
  clear hs2 hd2 hk2 HFn
  have hdr := drain_any w.heap.size s N C k2 sp2 g 1 B2 W2 H2.out.1 H2.out.2.1 (by omega) (by omega)
  have HD := Hid_mk hdr
  clear hdr
  go_wp2_with fail
  refine HD.out.mono ?_
  rintro e W3 ⟨rfl, hk3⟩
  have H3 := Hid_mk hk3
  clear hk3
  go_wp2_with fail
  go_ret
  exact ⟨rfl, (H1.out.2.trans (H2.out.2.2.trans H3.out)).below⟩

end Go.Proofs.Ytifdflmleplpkaa.fnAutoStackHoldsSmallestMultipleOfEight
