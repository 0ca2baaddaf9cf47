/- The walk of the law whose statement is: FnPushPopReverse: for every maxSize and every slice the frames pushed up to capacity pop back in reverse with their data and index, Sp falling by one: the law returns true and its arguments read as before. Conditions: none. -/
import Derived.Test.YtgmlgkfhmdiknaaRows
import Derived.WalkKit
import Derived.ProofKit
import Derived.OpenShut
import Derived.ShutString
import Derived.ChangeOld
import Derived.Below
import Derived.Test.YtgmlgkfhmdiknaaOps19
namespace Go.Proofs.Ytgmlgkfhmdiknaa.fnPushPopReverse
open Go.ChangeShapes Go.WideShapes Go.ChangeAt Go.RowKit
open Go.ChangeMaps (open_string shut_string)
set_option linter.unusedVariables false


/-- What the walk is told of a slice that came in. -/
def IsRow (k : IntKind) (w : World) (a : Option Addr) (len cap : Nat) (zs : List Int) : Prop :=
  (a = none ∧ len = 0 ∧ cap = 0 ∧ zs = []) ∨
  ∃ x, a = some x ∧ len ≤ cap ∧ cap ≤ maxLen ∧ zs.length = cap ∧ (∀ i, i < zs.length → w.cell? (x.add i) = some (.int k (zs.getD i 0))) ∧ ∀ n ∈ zs, (Lit.int k n).wf = true

/-! ### The walk -/
set_option maxHeartbeats 1000000 in
theorem walk (a0 : Int) (a1 : Option Addr) (len1 cap1 : Nat) (z1 : List Int) (w : World) (w0 : (Lit.int .i64 a0).wf = true) (w1 : IsRow .i64 w a1 len1 cap1 z1) :
    Calls Try.prog 6 #[.int .i64 a0, .slice a1 len1 cap1] w fun e w' => e = .returned (.bool true) ∧ Below w.heap.size w w' := by
  have hr1 : Go.Proofs.Ytgmlgkfhmdiknaa.IsRow w a1 len1 cap1 z1 := w1
  obtain ⟨hm1, hl1⟩ := hr1.size
  by_cases g0 : 1048576 < len1
  · go_enter Try.func6, Try.ntmps6
    go_wp2
    go_ret
    exact ⟨rfl, Below.refl _ _⟩
  by_cases g1 : 65536 < len1
  · go_enter Try.func6, Try.ntmps6
    go_wp2
    go_ret
    exact ⟨rfl, Below.refl _ _⟩
  by_cases g2 : a0 < 1
  · go_enter Try.func6, Try.ntmps6
    go_wp2
    go_ret
    exact ⟨rfl, Below.refl _ _⟩
  by_cases g3 : 65536 < a0
  · go_enter Try.func6, Try.ntmps6
    go_wp2
    go_ret
    exact ⟨rfl, Below.refl _ _⟩
  obtain ⟨m, rfl⟩ : ∃ m : Nat, a0 = (m : Int) := ⟨a0.toNat, by omega⟩
  obtain ⟨N, hN⟩ : ∃ N, N = (m + 7) / 8 := ⟨_, rfl⟩
  have hcl := clone_any a1 len1 cap1 z1 w (by omega) hr1
  generalize z1.take len1 = zs at hcl hl1
  have H0 := Hid_mk (And.intro hcl (And.intro hl1 hN))
  clear hcl hl1 hr1 w0 w1 hN
  go_enter Try.func6, Try.ntmps6
  go_wp2_with (go_at_call 19; go_in)
  refine H0.out.1.mono ?_
  rintro e W1 ⟨v, rfl, hrow, hb1⟩
  obtain ⟨a, rfl, hx⟩ := hrow.form
  clear hx
  have hL := H0.out.2.1
  have hnew := newauto_any m N W1 (by omega) (by omega) H0.out.2.2
  generalize hzl : zs.length = L at hL hrow
  have H1 := Hid_mk (And.intro hrow (And.intro hb1 (And.intro hzl (And.intro hnew H0.out.2.2))))
  clear hrow hb1 hzl hnew H0
  subst hL
  go_wp2_with fail
  refine H1.out.2.2.2.1.mono ?_
  rintro e W2 ⟨s, g, B, rfl, hs, hk⟩
  have hcap := zcap_any m N W2 (by omega) H1.out.2.2.2.2
  have hmi := zmin_any L (8 * N) W2
  have hn1 : min L (8 * N) ≤ 8 * N := Nat.min_le_right _ _
  have hn2 : min L (8 * N) ≤ L := Nat.min_le_left _ _
  generalize min L (8 * N) = n at hmi hn1 hn2
  have HS := Hid_mk (And.intro hs (And.intro hk (And.intro (H1.out.1.keeps hk) (And.intro hcap hmi))))
  clear hs hk hcap hmi
  go_wp2_with fail
  refine HS.out.2.2.2.1.mono ?_
  rintro e w' ⟨rfl, rfl⟩
  go_wp2_with fail
  refine HS.out.2.2.2.2.mono ?_
  rintro e w' ⟨rfl, rfl⟩
  go_wp2_with fail
  go_loopg [7] n (fun gk i wr => ∃ (j k' sp' : Nat) (B' : Nat → Nat), j + gk = n ∧ i = .int .i64 j ∧ Stk W1.heap.size wr s N k' sp' g B' (fun m => (zs.getD m 0, 0, 0)) ∧ 8 * k' + sp' = j ∧ Keeps W1.heap.size W2 wr)
  case atStart => exact ⟨0, 0, 0, B, by omega, rfl, HS.out.1 _, by omega, Keeps.refl _ _⟩
  case round =>
    obtain ⟨j, k', sp', B', hj, rfl, hs, hd, hkp⟩ := hrel
    by_cases hlt : j < n
    · have hjL : j < L := by omega
      obtain ⟨b, hab, hcell⟩ := (HS.out.2.2.1.keeps hkp).at (i := j) (by rw [H1.out.2.2.1]; exact hjL)
      have hpush := push_any _ s N k' sp' g B' _ 0 (zs.getD j 0) 0 0 wr hs (by omega)
      generalize hz : zs.getD j 0 = z at hcell hpush
      subst hab
      have HH := Hid_mk (And.intro hj (And.intro hd (And.intro hkp (And.intro hpush hz))))
      clear hj hd hkp hpush hs hz
      go_wp2_with fail
      refine HH.out.2.2.2.1.mono ?_
      rintro e w' ⟨rfl, k2, sp2, B2, hs2, hd2, h12, hkk2, hB2, hkp2⟩
      have hs2' : Stk W1.heap.size w' s N k2 sp2 g B2 (fun m => (zs.getD m 0, 0, 0)) := by
        refine hs2.congr ?_
        intro x hx
        unfold upd
        by_cases hxe : x = 8 * k' + sp'
        · rw [if_pos hxe, hxe, HH.out.2.1, HH.out.2.2.2.2]
        · rw [if_neg hxe]
      have H2 := Hid_mk (And.intro hkp2 (And.intro (show 8 * k2 + sp2 = j + 1 by have := HH.out.2.1; omega) hs2'))
      clear hs2 hs2' hd2 h12 hkk2 hB2 hkp2
      go_wp2_with fail
      go_roundg (gk - 1)
      case rel => exact ⟨j + 1, k2, sp2, B2, by have := HH.out.1; omega, by go_num, H2.out.2.2, H2.out.2.1, HH.out.2.2.1.trans H2.out.1⟩
      case measure => have := HH.out.1; omega
    · have hjn : j = n := by omega
      subst hjn
      have HH := Hid_mk (And.intro hd (And.intro hkp hs))
      clear hj hd hkp hs hlt
      go_wp2_with fail
      go_loopg [8, 9] j (fun gk i f wr => ∃ k' sp' : Nat, 8 * k' + sp' = gk ∧ gk ≤ j ∧ i = .int .i64 ((gk : Int) - 1) ∧ Stk W1.heap.size wr s N k' sp' g B' (fun m => (zs.getD m 0, 0, 0)) ∧ Keeps W1.heap.size W2 wr)
      case atStart => exact ⟨k', sp', HH.out.1, Nat.le_refl _, rfl, HH.out.2.2, HH.out.2.1⟩
      case round =>
        obtain ⟨k3, sp3, hx, hgj, rfl, hs, hkp⟩ := hrel
        by_cases hlt : 0 < gk
        · obtain ⟨x, rfl⟩ : ∃ x, gk = x + 1 := ⟨gk - 1, by omega⟩
          have hpop := pop_any _ s N k3 sp3 g B' _ wr hs (by omega)
          have hxL : x < L := by omega
          have em : ((x + 1 : Nat) : Int) - 1 = (x : Int) := by omega
          rw [em]
          have H3 := Hid_mk (And.intro hx (And.intro hgj (And.intro hkp hpop)))
          clear hx hgj hkp hpop hs em hlt
          go_wp2_with fail
          refine H3.out.2.2.2.mono ?_
          rintro e w' ⟨k4, sp4, rfl, hs4, hd4, hkk4, h84, hfc, hkp4⟩
          have hx4 : 8 * k4 + sp4 = x := by have := H3.out.1; omega
          obtain ⟨fi, fp, hx1, hx2⟩ := hfc
          clear hx1 hx2
          rw [hx4] at fi fp
          obtain ⟨b, hab, hcell⟩ := (HS.out.2.2.1.keeps (H3.out.2.2.1.trans hkp4)).at (i := x) (by rw [H1.out.2.2.1]; exact hxL)
          dsimp only at fp
          generalize zs.getD x 0 = z at hcell fp
          have hsp := fun nq => sp_any _ s N k4 sp4 g B' _ (w'.drewN nq) (hs4.heap rfl) x (by omega)
          have H4 := Hid_mk (And.intro hx4 (And.intro (H3.out.2.2.1.trans hkp4) hsp))
          clear hs4 hd4 hkk4 hkp4 hx4 hsp
          generalize B' k4 = bk at fi fp
          subst hab
          go_wp2_with fail
          go_quiet (fail)
          go_wp2_with fail
          refine (H4.out.2.2 _).mono ?_
          rintro e w5 ⟨rfl, hs5, hk5⟩
          have H5 := Hid_mk (And.intro hs5 ((H4.out.2.1.alike (w' := w'.drewN _) rfl rfl rfl rfl).trans hk5))
          clear hs5 hk5
          go_wp2_with fail
          go_roundg x
          case rel => exact ⟨k4, sp4, H4.out.1, by have := H3.out.2.1; omega, rfl, H5.out.1, H5.out.2⟩
          case measure => omega
        · have h0 : gk = 0 := by omega
          subst h0
          obtain ⟨rfl, rfl⟩ : k3 = 0 ∧ sp3 = 0 := by omega
          have hem := empty_any _ s N 0 0 g B' _ wr hs
          have hsp := sp_any _ s N 0 0 g B' _ wr hs 0 (by omega)
          have H3 := Hid_mk (And.intro hkp (And.intro hem hsp))
          clear hx hgj hkp hs hem hsp hlt
          go_wp2_with fail
          refine H3.out.2.1.mono ?_
          rintro e w' ⟨rfl, rfl⟩
          go_wp2_with fail
          refine H3.out.2.2.mono ?_
          rintro e w' ⟨rfl, hs4, hk4⟩
          have hpop := pop_nil _ s N g B' _ w' hs4
          have H4 := Hid_mk (And.intro hk4 hpop)
          clear hs4 hk4 hpop
          go_wp2_with fail
          refine H4.out.2.mono ?_
          rintro e w5 ⟨rfl, hs5, hk5⟩
          have H5 := Hid_mk hk5
          clear hs5 hk5
          go_wp2_with fail
          go_ret
          refine ⟨rfl, H1.out.2.1.trans ?_⟩
          exact ((HS.out.2.1.trans (H3.out.1.trans (H4.out.1.trans H5.out))).below).mono H1.out.2.1.size

end Go.Proofs.Ytgmlgkfhmdiknaa.fnPushPopReverse
