/- The walk of the law whose statement is: FnClearResetsAndStackIsReusable: for every maxSize and n Clear leaves an empty stack that takes a full capacity of pushes again, each frame kept with its index: the law returns true and its arguments read as before. Conditions: none. -/
import Derived.Test.YtgmlgkfhmdiknaaRows
import Derived.WalkKit
import Derived.ProofKit
import Derived.OpenShut
import Derived.ChangeOld
import Derived.Below
import Derived.ShutString
import Derived.Test.YtgmlgkfhmdiknaaOps19
namespace Go.Proofs.Ytgmlgkfhmdiknaa.fnClearResetsAndStackIsReusable
open Go.ChangeShapes Go.WideShapes Go.ChangeAt Go.RowKit
open Go.ChangeMaps (open_string shut_string)
set_option linter.unusedVariables false


/-! ### The walk -/
set_option maxHeartbeats 1000000 in
theorem walk (a0 : Int) (a1 : Int) (w0 : (Lit.int .i64 a0).wf = true) (w1 : (Lit.int .i64 a1).wf = true) (w : World) :
    Calls Try.prog 5 #[.int .i64 a0, .int .i64 a1] w fun e w' => e = .returned (.bool true) ∧ Below w.heap.size w w' := by
  by_cases g0 : a0 < 1
  · go_enter Try.func5, Try.ntmps5
    go_wp2
    go_ret
    exact ⟨rfl, Below.refl _ _⟩
  by_cases g1 : 65536 < a0
  · go_enter Try.func5, Try.ntmps5
    go_wp2
    go_ret
    exact ⟨rfl, Below.refl _ _⟩
  by_cases g2 : a1 < 0
  · go_enter Try.func5, Try.ntmps5
    go_wp2
    go_ret
    exact ⟨rfl, Below.refl _ _⟩
  by_cases g3 : 65536 < a1
  · go_enter Try.func5, Try.ntmps5
    go_wp2
    go_ret
    exact ⟨rfl, Below.refl _ _⟩
  obtain ⟨m, rfl⟩ : ∃ m : Nat, a0 = (m : Int) := ⟨a0.toNat, by omega⟩
  obtain ⟨n0, rfl⟩ : ∃ n : Nat, a1 = (n : Int) := ⟨a1.toNat, by omega⟩
  obtain ⟨N, hN⟩ : ∃ N, N = (m + 7) / 8 := ⟨_, rfl⟩
  have hN1 : 1 ≤ N := by omega
  have hN2 : N ≤ 8192 := by omega
  have hcap := zcap_any m N w (by omega) hN
  have hm1 := zmin_any n0 (8 * N) w
  have hn1 : min n0 (8 * N) ≤ 8 * N := Nat.min_le_right _ _
  generalize min n0 (8 * N) = n at hm1 hn1
  have hnew := newauto_any m N w (by omega) (by omega) hN
  generalize hC : 8 * N = C at hcap hm1 hn1
  have hC2 : C ≤ 65536 := by omega
  have H0 := Hid_mk (And.intro hcap (And.intro hm1 (And.intro hnew hC)))
  clear hcap hm1 hnew hN hC w0 w1
  go_enter Try.func5, Try.ntmps5
  go_wp2_with fail
  refine H0.out.1.mono ?_
  rintro e w' ⟨rfl, rfl⟩
  go_wp2_with fail
  refine H0.out.2.1.mono ?_
  rintro e w' ⟨rfl, rfl⟩
  go_wp2_with fail
  refine H0.out.2.2.1.mono ?_
  rintro e W1 ⟨s, g, B, rfl, hs, hk⟩
  have HS := Hid_mk (And.intro hs hk)
  clear hs hk
  go_wp2_with fail
  go_loopg [7] n (fun gk i wr => ∃ (j k' sp' : Nat) (B' : Nat → Nat) (F : Nat → Frm), j + gk = n ∧ i = .int .i64 j ∧ Stk w.heap.size wr s N k' sp' g B' F ∧ 8 * k' + sp' = j ∧ Keeps w.heap.size w wr)
  case atStart => exact ⟨0, 0, 0, B, fun _ => (0, 0, 0), by omega, rfl, HS.out.1 _, by omega, HS.out.2⟩
  case round =>
    obtain ⟨j, k', sp', B', F, hj, rfl, hs, hd, hkp⟩ := hrel
    by_cases hlt : j < n
    · have hpush := push_any _ s N k' sp' g B' F 0 (-(j : Int)) 0 0 wr hs (by have := H0.out.2.2.2; omega)
      have HH := Hid_mk (And.intro hj (And.intro hd (And.intro hkp hpush)))
      clear hj hd hkp hpush hs
      go_wp2_with fail
      refine HH.out.2.2.2.mono ?_
      rintro e w' ⟨rfl, k2, sp2, B2, hs2, hd2, h12, hkk2, hB2, hkp2⟩
      have H2 := Hid_mk (And.intro hs2 (And.intro hd2 hkp2))
      clear hs2 hd2 h12 hkk2 hB2 hkp2
      go_wp2_with fail
      go_roundg (gk - 1)
      case rel => exact ⟨j + 1, k2, sp2, B2, _, by have := HH.out.1; omega, by go_num, H2.out.1, by have h1 := HH.out.2.1; have h2 := H2.out.2.1; omega, HH.out.2.2.1.trans H2.out.2.2⟩
      case measure => have := HH.out.1; omega
    · have hjn : j = n := by omega
      subst hjn
      have hcl := clear_any _ s N k' sp' g B' F wr hs
      have HH := Hid_mk (And.intro hkp hcl)
      clear hj hd hkp hs hcl hlt
      go_wp2_with fail
      refine HH.out.2.mono ?_
      rintro e W2 ⟨rfl, hs2, hk2⟩
      have hsp := sp_any _ s N 0 0 g B' _ W2 hs2 0 (by omega)
      have H2 := Hid_mk (And.intro (HH.out.1.trans hk2) hsp)
      clear hs2 hk2 hsp
      go_wp2_with fail
      refine H2.out.2.mono ?_
      rintro e W3 ⟨rfl, hs3, hk3⟩
      have hem := empty_any _ s N 0 0 g B' _ W3 hs3
      have hpop := pop_nil _ s N g B' _ W3 hs3
      have H3 := Hid_mk (And.intro (H2.out.1.trans hk3) (And.intro hem hpop))
      clear hs3 hk3 hem hpop
      go_wp2_with fail
      refine H3.out.2.1.mono ?_
      rintro e w' ⟨rfl, rfl⟩
      go_wp2_with fail
      refine H3.out.2.2.mono ?_
      rintro e W4 ⟨rfl, hs4, hk4⟩
      have H4 := Hid_mk (And.intro (H3.out.1.trans hk4) hs4)
      clear hs4 hk4
      go_wp2_with fail
      go_loopg [8] C (fun gk i wr => ∃ (j k' sp' : Nat) (B' : Nat → Nat), j + gk = C ∧ i = .int .i64 j ∧ Stk w.heap.size wr s N k' sp' g B' (fun m => (1000 + (m : Int), 0, 0)) ∧ 8 * k' + sp' = j ∧ Keeps w.heap.size w wr)
      case atStart => exact ⟨0, 0, 0, B', by omega, rfl, H4.out.2.congr (fun m hm => by omega), by omega, H4.out.1⟩
      case round =>
        obtain ⟨x, k3, sp3, B3, hj, rfl, hs, hd, hkp⟩ := hrel
        by_cases hlt : x < C
        · have hpush := push_any _ s N k3 sp3 g B3 _ 0 (1000 + (x : Int)) 0 0 wr hs (by have := H0.out.2.2.2; omega)
          have H5 := Hid_mk (And.intro hj (And.intro hd (And.intro hkp hpush)))
          clear hj hd hkp hpush hs
          go_wp2_with fail
          refine H5.out.2.2.2.mono ?_
          rintro e w' ⟨rfl, k2, sp2, B2, hs2, hd2, h12, hkk2, hB2, hkp2⟩
          have hs2' : Stk w.heap.size w' s N k2 sp2 g B2 (fun m => (1000 + (m : Int), 0, 0)) := by
            refine hs2.congr ?_
            intro y hy
            unfold upd
            by_cases hye : y = 8 * k3 + sp3
            · rw [if_pos hye, hye, H5.out.2.1]
            · rw [if_neg hye]
          have hsp := sp_any _ s N k2 sp2 g B2 _ w' hs2' (x + 1) (by have := H5.out.2.1; omega)
          have H6 := Hid_mk (And.intro (H5.out.2.2.1.trans hkp2) (And.intro (show 8 * k2 + sp2 = x + 1 by have := H5.out.2.1; omega) hsp))
          clear hs2 hs2' hd2 h12 hkk2 hB2 hkp2 hsp
          go_wp2_with fail
          refine H6.out.2.2.mono ?_
          rintro e w7 ⟨rfl, hs7, hk7⟩
          have H7 := Hid_mk (And.intro hs7 hk7)
          clear hs7 hk7
          go_wp2_with fail
          go_roundg (gk - 1)
          case rel => exact ⟨x + 1, k2, sp2, B2, by have := H5.out.1; omega, by go_num, H7.out.1, H6.out.2.1, H6.out.1.trans H7.out.2⟩
          case measure => have := H5.out.1; omega
        · have hxC : x = C := by omega
          subst hxC
          have hh := hs.hsp
          have H5 := Hid_mk (And.intro hd (And.intro hkp hs))
          clear hj hd hkp hs hlt
          go_wp2_with fail
          go_loopg [9, 10] x (fun gk i f wr => ∃ y : Nat, y + gk = x ∧ i = .int .i64 y ∧ Stk w.heap.size wr s N k3 sp3 g B3 (fun m => (1000 + (m : Int), 0, 0)) ∧ Keeps w.heap.size w wr)
          case atStart => exact ⟨0, by omega, rfl, H5.out.2.2, H5.out.2.1⟩
          case round =>
            obtain ⟨y, hy, rfl, hs, hkp⟩ := hrel
            by_cases hlt : y < x
            · have hd := H5.out.1
              have hat := at_any _ _ _ _ _ _ y _ _ wr hs (by omega)
              have hfr := hs.frame (i := y / 8) (j := y % 8) (by omega) (by omega) (by omega)
              rw [show 8 * (y / 8) + y % 8 = y by omega] at hfr
              obtain ⟨fi, fp, hx1, hx2⟩ := hfr
              clear hx1 hx2
              dsimp only at fp
              have H6 := Hid_mk (And.intro hy (And.intro hs (And.intro hkp hat)))
              clear hy hs hkp hat hd
              generalize B3 (y / 8) = bk at fp fi H6
              generalize y % 8 * 10 = o at fp fi H6
              go_wp2_with fail
              refine H6.out.2.2.2.mono ?_
              rintro e w' ⟨rfl, rfl⟩
              go_wp2_with fail
              go_roundg (gk - 1)
              case rel => exact ⟨y + 1, by have := H6.out.1; omega, by go_num, H6.out.2.1, H6.out.2.2.1⟩
              case measure => have := H6.out.1; omega
            · have H6 := Hid_mk hkp
              clear hy hs hkp
              go_wp2_with fail
              go_ret
              exact ⟨rfl, H6.out.below⟩

end Go.Proofs.Ytgmlgkfhmdiknaa.fnClearResetsAndStackIsReusable
