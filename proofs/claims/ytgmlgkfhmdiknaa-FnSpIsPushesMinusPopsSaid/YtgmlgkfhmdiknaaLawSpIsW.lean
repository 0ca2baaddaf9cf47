/- The walk of the law whose statement is: FnSpIsPushesMinusPops: for all maxSize, n and k the stack's Sp is the pushes less the pops, and IsEmpty holds where they are equal: the law returns true and its arguments read as before. Conditions: none. -/
import Derived.Test.YtgmlgkfhmdiknaaRows
import Derived.WalkKit
import Derived.ProofKit
import Derived.OpenShut
import Derived.ChangeOld
import Derived.Below
import Derived.ShutString
import Derived.Test.YtgmlgkfhmdiknaaOps19
namespace Go.Proofs.Ytgmlgkfhmdiknaa.fnSpIsPushesMinusPops
open Go.ChangeShapes Go.WideShapes Go.ChangeAt Go.RowKit
open Go.ChangeMaps (open_string shut_string)
set_option linter.unusedVariables false


/-! ### The walk -/
set_option maxHeartbeats 1000000 in
theorem walk (a0 : Int) (a1 : Int) (a2 : Int) (w0 : (Lit.int .i64 a0).wf = true) (w1 : (Lit.int .i64 a1).wf = true) (w2 : (Lit.int .i64 a2).wf = true) (w : World) :
    Calls Try.prog 3 #[.int .i64 a0, .int .i64 a1, .int .i64 a2] w fun e w' => e = .returned (.bool true) ∧ Below w.heap.size w w' := by
  by_cases g0 : a0 < 1
  · go_enter Try.func3, Try.ntmps3
    go_wp2
    go_ret
    exact ⟨rfl, Below.refl _ _⟩
  by_cases g1 : 65536 < a0
  · go_enter Try.func3, Try.ntmps3
    go_wp2
    go_ret
    exact ⟨rfl, Below.refl _ _⟩
  by_cases g2 : a1 < 0
  · go_enter Try.func3, Try.ntmps3
    go_wp2
    go_ret
    exact ⟨rfl, Below.refl _ _⟩
  by_cases g3 : 65536 < a1
  · go_enter Try.func3, Try.ntmps3
    go_wp2
    go_ret
    exact ⟨rfl, Below.refl _ _⟩
  by_cases g4 : a2 < 0
  · go_enter Try.func3, Try.ntmps3
    go_wp2
    go_ret
    exact ⟨rfl, Below.refl _ _⟩
  by_cases g5 : 65536 < a2
  · go_enter Try.func3, Try.ntmps3
    go_wp2
    go_ret
    exact ⟨rfl, Below.refl _ _⟩
  obtain ⟨m, rfl⟩ : ∃ m : Nat, a0 = (m : Int) := ⟨a0.toNat, by omega⟩
  obtain ⟨n0, rfl⟩ : ∃ n : Nat, a1 = (n : Int) := ⟨a1.toNat, by omega⟩
  obtain ⟨k0, rfl⟩ : ∃ k : Nat, a2 = (k : Int) := ⟨a2.toNat, by omega⟩
  obtain ⟨N, hN⟩ : ∃ N, N = (m + 7) / 8 := ⟨_, rfl⟩
  have hcap := zcap_any m N w (by omega) hN
  have hm1 := zmin_any n0 (8 * N) w
  have hn1 : min n0 (8 * N) ≤ 8 * N := Nat.min_le_right _ _
  have hn2 : min n0 (8 * N) ≤ n0 := Nat.min_le_left _ _
  generalize min n0 (8 * N) = n at hm1 hn1 hn2
  have hm2 := zmin_any k0 n w
  have hk1 : min k0 n ≤ n := Nat.min_le_right _ _
  generalize min k0 n = k at hm2 hk1
  have hnew := newauto_any m N w (by omega) (by omega) hN
  have H0 := Hid_mk (And.intro hcap (And.intro hm1 (And.intro hm2 (And.intro hnew hN))))
  clear hcap hm1 hm2 hnew hN w0 w1 w2
  go_enter Try.func3, Try.ntmps3
  go_wp2_with fail
  refine H0.out.1.mono ?_
  rintro e w' ⟨rfl, rfl⟩
  go_wp2_with fail
  refine H0.out.2.1.mono ?_
  rintro e w' ⟨rfl, rfl⟩
  go_wp2_with fail
  refine H0.out.2.2.1.mono ?_
  rintro e w' ⟨rfl, rfl⟩
  go_wp2_with fail
  refine H0.out.2.2.2.1.mono ?_
  rintro e W1 ⟨s, g, B, rfl, hs, hk⟩
  have HS := Hid_mk (And.intro hs hk)
  clear hs hk
  go_wp2_with fail
  go_loopg [8] n (fun gk i wr => ∃ (j k' sp' : Nat) (B' : Nat → Nat) (F : Nat → Frm), j + gk = n ∧ i = .int .i64 j ∧ Stk w.heap.size wr s N k' sp' g B' F ∧ 8 * k' + sp' = j ∧ Keeps w.heap.size w wr)
  case atStart => exact ⟨0, 0, 0, B, fun _ => (0, 0, 0), by omega, rfl, HS.out.1 _, by omega, HS.out.2⟩
  case round =>
    obtain ⟨j, k', sp', B', F, hj, rfl, hs, hd, hkp⟩ := hrel
    by_cases hlt : j < n
    · have hpush := push_any _ s N k' sp' g B' F 0 j 0 0 wr hs (by omega)
      have HH := Hid_mk (And.intro hj (And.intro hd (And.intro hkp hpush)))
      clear hj hd hkp hpush hs
      go_wp2_with fail
      refine HH.out.2.2.2.mono ?_
      rintro e w' ⟨rfl, k2, sp2, B2, hs2, hd2, h12, hkk2, hB2, hkp2⟩
      have H2 := Hid_mk (And.intro hs2 (And.intro hd2 hkp2))
      clear hs2 hd2 h12 hkk2 hB2 hkp2
      go_wp2_with fail
      go_roundg (gk - 1)
      case rel => exact ⟨j + 1, k2, sp2, B2, _, by have := HH.out.1; omega, by go_num, H2.out.1, by have h1 := HH.out.2.1; have h2 := H2.out.2.1; omega, HH.out.2.2.1.trans H2.out.2.2⟩
      case measure => have := HH.out.1; omega
    · have hjn : j = n := by omega
      subst hjn
      have HH := Hid_mk (And.intro hd (And.intro hkp hs))
      clear hj hd hkp hs hlt
      go_wp2_with fail
      go_loopg [9] k (fun gk i wr => ∃ (x k' sp' : Nat), x + gk = k ∧ i = .int .i64 x ∧ Stk w.heap.size wr s N k' sp' g B' F ∧ 8 * k' + sp' + x = j ∧ Keeps w.heap.size w wr)
      case atStart => exact ⟨0, k', sp', by omega, rfl, HH.out.2.2, HH.out.1, HH.out.2.1⟩
      case round =>
        obtain ⟨x, k3, sp3, hx, rfl, hs, hd, hkp⟩ := hrel
        by_cases hlt : x < k
        · have hpop := pop_any _ s N k3 sp3 g B' F _ hs (by omega)
          have H3 := Hid_mk (And.intro hx (And.intro hd (And.intro hkp hpop)))
          clear hx hd hkp hpop hs
          go_wp2_with fail
          refine H3.out.2.2.2.mono ?_
          rintro e w' ⟨k4, sp4, rfl, hs4, hd4, hkk4, h84, hfc, hkp4⟩
          have H4 := Hid_mk (And.intro hs4 (And.intro hd4 hkp4))
          clear hs4 hd4 hkk4 h84 hfc hkp4
          go_wp2_with fail
          go_roundg (gk - 1)
          case rel => exact ⟨x + 1, k4, sp4, by have := H3.out.1; omega, by go_num, H4.out.1, by have h1 := H3.out.2.1; have h2 := H4.out.2.1; omega, H3.out.2.2.1.trans H4.out.2.2⟩
          case measure => have := H3.out.1; omega
        · have hxk : x = k := by omega
          subst hxk
          have hsp := sp_any _ s N k3 sp3 g B' F _ hs (j - x) (by omega)
          have hjx : ((j : Int) - (x : Int)) = ((j - x : Nat) : Int) := by omega
          have H3 := Hid_mk (And.intro hd (And.intro hkp (And.intro hsp hjx)))
          clear hx hd hkp hsp hs hjx hlt
          go_wp2_with fail
          refine H3.out.2.2.1.mono ?_
          rintro e w' ⟨rfl, hs5, hk5⟩
          have hem := empty_any _ s N k3 sp3 g B' F _ hs5
          have he : decide (8 * k3 + sp3 = 0) = ((j : Int) == (x : Int)) := by
            have := H3.out.1
            rw [Bool.eq_iff_iff]
            simp
            omega
          rw [he] at hem
          have hne : (((j - x : Nat) : Int) != ((j : Int) - (x : Int))) = false := by
            rw [H3.out.2.2.2]; simp
          have H5 := Hid_mk (And.intro hem hk5)
          clear hs5 hk5 hem he
          have hbb : ((((j : Int) == (x : Int)) == ((j : Int) == (x : Int))) : Bool) = true := by simp
          go_wp2_with fail
          refine H5.out.1.mono ?_
          rintro e w6 ⟨rfl, rfl⟩
          go_wp2_with fail
          go_ret
          exact ⟨rfl, (H3.out.2.1.trans H5.out.2).below⟩

end Go.Proofs.Ytgmlgkfhmdiknaa.fnSpIsPushesMinusPops
