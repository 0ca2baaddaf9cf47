/- The walk of the law whose statement is: FnPushStampsIndexAndKeepsFrames: for every maxSize and every slice the frames pushed up to capacity are kept with their data and stamped with their index: the law returns true and its arguments read as before. Conditions: none. -/
import Derived.Test.YtgmlgkfhmdiknaaRows
import Derived.WalkKit
import Derived.ProofKit
import Derived.OpenShut
import Derived.ShutString
import Derived.ChangeOld
import Derived.Below
import Derived.Test.YtgmlgkfhmdiknaaOps19
namespace Go.Proofs.Ytgmlgkfhmdiknaa.fnPushStampsIndexAndKeepsFrames
open Go.ChangeShapes Go.WideShapes Go.ChangeAt Go.RowKit
open Go.ChangeMaps (open_string shut_string)
set_option linter.unusedVariables false


/-- What the walk is told of a slice that came in. -/
def IsRow (k : IntKind) (w : World) (a : Option Addr) (len cap : Nat) (zs : List Int) : Prop :=
  (a = none ∧ len = 0 ∧ cap = 0 ∧ zs = []) ∨
  ∃ x, a = some x ∧ len ≤ cap ∧ cap ≤ maxLen ∧ zs.length = cap ∧ (∀ i, i < zs.length → w.cell? (x.add i) = some (.int k (zs.getD i 0))) ∧ ∀ n ∈ zs, (Lit.int k n).wf = true

/-! ### The walk -/
set_option maxHeartbeats 1000000 in
theorem walk (a0 : Int) (a1 : Option Addr) (len1 cap1 : Nat) (z1 : List Int) (w : World) (w0 : (Lit.int .i64 a0).wf = true) (w1 : IsRow .i64 w a1 len1 cap1 z1) :
    Calls Try.prog 4 #[.int .i64 a0, .slice a1 len1 cap1] w fun e w' => e = .returned (.bool true) ∧ Below w.heap.size w w' := by
  have hr1 : Go.Proofs.Ytgmlgkfhmdiknaa.IsRow w a1 len1 cap1 z1 := w1
  obtain ⟨hm1, hl1⟩ := hr1.size
  by_cases g0 : 1048576 < len1
  · go_enter Try.func4, Try.ntmps4
    go_wp2
    go_ret
    exact ⟨rfl, Below.refl _ _⟩
  by_cases g1 : 65536 < len1
  · go_enter Try.func4, Try.ntmps4
    go_wp2
    go_ret
    exact ⟨rfl, Below.refl _ _⟩
  by_cases g2 : a0 < 1
  · go_enter Try.func4, Try.ntmps4
    go_wp2
    go_ret
    exact ⟨rfl, Below.refl _ _⟩
  by_cases g3 : 65536 < a0
  · go_enter Try.func4, Try.ntmps4
    go_wp2
    go_ret
    exact ⟨rfl, Below.refl _ _⟩
  obtain ⟨m, rfl⟩ : ∃ m : Nat, a0 = (m : Int) := ⟨a0.toNat, by omega⟩
  obtain ⟨N, hN⟩ : ∃ N, N = (m + 7) / 8 := ⟨_, rfl⟩
  have hcl := clone_any a1 len1 cap1 z1 w (by omega) hr1
  generalize z1.take len1 = zs at hcl hl1
  have H0 := Hid_mk (And.intro hcl (And.intro hl1 hN))
  clear hcl hl1 hr1 w0 w1 hN
  go_enter Try.func4, Try.ntmps4
  go_wp2_with (go_at_call 15; go_in)
  refine H0.out.1.mono ?_
  rintro e W1 ⟨v, rfl, hrow, hb1⟩
  obtain ⟨a, rfl, hx⟩ := hrow.form
  clear hx
  have hL := H0.out.2.1
  have hnew := newauto_any m N W1 (by omega) (by omega) H0.out.2.2
  generalize hzl : zs.length = L at hL hrow
  have H1 := Hid_mk (And.intro hrow (And.intro hb1 (And.intro hzl (And.intro hnew H0.out.2.2))))
  clear hrow hb1 hzl hnew H0
  subst hL
  go_wp2_with fail
  refine H1.out.2.2.2.1.mono ?_
  rintro e W2 ⟨s, g, B, rfl, hs, hk⟩
  have hcap := zcap_any m N W2 (by omega) H1.out.2.2.2.2
  have hmi := zmin_any L (8 * N) W2
  have hn1 : min L (8 * N) ≤ 8 * N := Nat.min_le_right _ _
  have hn2 : min L (8 * N) ≤ L := Nat.min_le_left _ _
  generalize min L (8 * N) = n at hmi hn1 hn2
  have HS := Hid_mk (And.intro hs (And.intro hk (And.intro (H1.out.1.keeps hk) (And.intro hcap hmi))))
  clear hs hk hcap hmi
  go_wp2_with fail
  refine HS.out.2.2.2.1.mono ?_
  rintro e w' ⟨rfl, rfl⟩
  go_wp2_with fail
  refine HS.out.2.2.2.2.mono ?_
  rintro e w' ⟨rfl, rfl⟩
  go_wp2_with fail
  go_loopg [7] n (fun gk i wr => ∃ (j k' sp' : Nat) (B' : Nat → Nat), j + gk = n ∧ i = .int .i64 j ∧ Stk W1.heap.size wr s N k' sp' g B' (fun m => (zs.getD m 0, (m : Int), 3)) ∧ 8 * k' + sp' = j ∧ Keeps W1.heap.size W2 wr)
  case atStart => exact ⟨0, 0, 0, B, by omega, rfl, HS.out.1 _, by omega, Keeps.refl _ _⟩
  case round =>
    obtain ⟨j, k', sp', B', hj, rfl, hs, hd, hkp⟩ := hrel
    by_cases hlt : j < n
    · have hjL : j < L := by omega
      obtain ⟨b, hab, hcell⟩ := (HS.out.2.2.1.keeps hkp).at (i := j) (by rw [H1.out.2.2.1]; exact hjL)
      have hpush := push_any _ s N k' sp' g B' _ (-1 - (j : Int)) (zs.getD j 0) j 3 wr hs (by omega)
      generalize hz : zs.getD j 0 = z at hcell hpush
      subst hab
      have HH := Hid_mk (And.intro hj (And.intro hd (And.intro hkp (And.intro hpush hz))))
      clear hj hd hkp hpush hs hz
      go_wp2_with fail
      refine HH.out.2.2.2.1.mono ?_
      rintro e w' ⟨rfl, k2, sp2, B2, hs2, hd2, h12, hkk2, hB2, hkp2⟩
      have hs2' : Stk W1.heap.size w' s N k2 sp2 g B2 (fun m => (zs.getD m 0, (m : Int), 3)) := by
        refine hs2.congr ?_
        intro x hx
        unfold upd
        by_cases hxe : x = 8 * k' + sp'
        · rw [if_pos hxe, hxe, HH.out.2.1, HH.out.2.2.2.2]
        · rw [if_neg hxe]
      have hsp := sp_any _ s N k2 sp2 g B2 _ w' hs2' (j + 1) (by have := HH.out.2.1; omega)
      have H2 := Hid_mk (And.intro hkp2 (And.intro (show 8 * k2 + sp2 = j + 1 by have := HH.out.2.1; omega) hsp))
      clear hs2 hs2' hd2 h12 hkk2 hB2 hkp2 hsp
      go_wp2_with fail
      refine H2.out.2.2.mono ?_
      rintro e w5 ⟨rfl, hs5, hk5⟩
      have H5 := Hid_mk (And.intro hs5 hk5)
      clear hs5 hk5
      go_wp2_with fail
      go_roundg (gk - 1)
      case rel => exact ⟨j + 1, k2, sp2, B2, by have := HH.out.1; omega, by go_num, H5.out.1, H2.out.2.1, (HH.out.2.2.1.trans H2.out.1).trans H5.out.2⟩
      case measure => have := HH.out.1; omega
    · have hjn : j = n := by omega
      subst hjn
      have hh := hs.hk
      have h8 := hs.hsp
      have HH := Hid_mk (And.intro hd (And.intro hkp hs))
      clear hj hd hkp hs hlt
      go_wp2_with fail
      go_loopg [8, 9] j (fun gk i f wr => ∃ x : Nat, x + gk = j ∧ i = .int .i64 x ∧ Stk W1.heap.size wr s N k' sp' g B' (fun m => (zs.getD m 0, (m : Int), 3)) ∧ Keeps W1.heap.size W2 wr)
      case atStart => exact ⟨0, by omega, rfl, HH.out.2.2, HH.out.2.1⟩
      case round =>
        obtain ⟨x, hx, rfl, hs, hkp⟩ := hrel
        by_cases hlt : x < j
        · have hd := HH.out.1
          have hxL : x < L := by omega
          have hat := at_any _ _ _ _ _ _ x _ _ wr hs (by omega)
          have hfr := hs.frame (i := x / 8) (j := x % 8) (by omega) (by omega) (by omega)
          rw [show 8 * (x / 8) + x % 8 = x by omega] at hfr
          obtain ⟨fi, fp, fb, fr⟩ := hfr
          obtain ⟨b, hab, hcell⟩ := (HS.out.2.2.1.keeps hkp).at (i := x) (by rw [H1.out.2.2.1]; exact hxL)
          dsimp only at fp fb fr
          generalize zs.getD x 0 = z at hcell fp
          have H3 := Hid_mk (And.intro hx (And.intro hs (And.intro hkp hat)))
          clear hx hs hkp hat hd
          generalize B' (x / 8) = bk at fp fi fb fr H3
          generalize x % 8 * 10 = o at fp fi fb fr H3
          subst hab
          go_wp2_with fail
          refine H3.out.2.2.2.mono ?_
          rintro e w' ⟨rfl, rfl⟩
          go_wp2_with fail
          go_quiet (fail)
          go_wp2_with fail
          go_roundg (gk - 1)
          case rel => exact ⟨x + 1, by have := H3.out.1; omega, by go_num, H3.out.2.1.heap rfl, H3.out.2.2.1.alike rfl rfl rfl rfl⟩
          case measure => have := H3.out.1; omega
        · have H3 := Hid_mk hkp
          clear hx hs hkp
          go_wp2_with fail
          go_ret
          refine ⟨rfl, H1.out.2.1.trans ?_⟩
          exact ((HS.out.2.1.trans H3.out).below).mono H1.out.2.1.size

end Go.Proofs.Ytgmlgkfhmdiknaa.fnPushStampsIndexAndKeepsFrames
