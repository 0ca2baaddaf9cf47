/- The walk of the law whose statement is: FnLastThenPopSameFrame: for every slice and nseg Last and the Pop behind it hand back one pointer with the expected Pc, and both answer nil of the empty stack: the law returns true and its arguments read as before. Conditions: none. -/
import Derived.Test.YtnccihkllpabgaaRows
import Derived.WalkKit
import Derived.ProofKit
import Derived.OpenShut
import Derived.ShutString
import Derived.ChangeOld
import Derived.Below
import Derived.Test.YtnccihkllpabgaaOps141
import Derived.Test.YtnccihkllpabgaaPtrs
namespace Go.Proofs.Ytnccihkllpabgaa.fnLastThenPopSameFrame
open Go.ChangeShapes Go.WideShapes Go.ChangeAt Go.RowKit
open Go.ChangeMaps (open_string shut_string)
set_option linter.unusedVariables false


/-- What the walk is told of a slice that came in. -/
def IsRow (k : IntKind) (w : World) (a : Option Addr) (len cap : Nat) (zs : List Int) : Prop :=
  (a = none ∧ len = 0 ∧ cap = 0 ∧ zs = []) ∨
  ∃ x, a = some x ∧ len ≤ cap ∧ cap ≤ maxLen ∧ zs.length = cap ∧ (∀ i, i < zs.length → w.cell? (x.add i) = some (.int k (zs.getD i 0))) ∧ ∀ n ∈ zs, (Lit.int k n).wf = true

/-! ### The walk -/
theorem walk (a0 : Option Addr) (len0 cap0 : Nat) (z0 : List Int) (a1 : Int) (w : World) (w0 : IsRow .i64 w a0 len0 cap0 z0) (w1 : (Lit.int .i64 a1).wf = true) :
    Calls Try.prog 6 #[.slice a0 len0 cap0, .int .i64 a1] w fun e w' => e = .returned (.bool true) ∧ Below w.heap.size w w' := by
  have hm0 : len0 ≤ 9223372036854775807 := by
    rcases w0 with ⟨_, h, _⟩ | ⟨_, _, h1, h2, _⟩
    · omega
    · unfold maxLen at h2; omega
  by_cases g0 : 1048576 < len0
  · go_enter Try.func6, Try.ntmps6
    go_wp2
    go_ret
    exact ⟨rfl, Below.refl _ _⟩
  by_cases g1 : 65536 < len0
  · go_enter Try.func6, Try.ntmps6
    go_wp2
    go_ret
    exact ⟨rfl, Below.refl _ _⟩
  by_cases g2 : a1 < 1
  · go_enter Try.func6, Try.ntmps6
    go_wp2
    go_ret
    exact ⟨rfl, Below.refl _ _⟩
  by_cases g3 : 8192 < a1
  · go_enter Try.func6, Try.ntmps6
    go_wp2
    go_ret
    exact ⟨rfl, Below.refl _ _⟩
  obtain ⟨N, rfl⟩ : ∃ N : Nat, a1 = (N : Int) := ⟨a1.toNat, by omega⟩
  by_cases g5 : 8 * N < len0
  · go_enter Try.func6, Try.ntmps6
    go_wp2
    go_ret
    exact ⟨rfl, Below.refl _ _⟩
  have hcl := clone_any a0 len0 cap0 z0 w (by omega) w0
  have hzl : (z0.take len0).length = len0 := by
    rcases w0 with ⟨_, h, _⟩ | ⟨_, _, h1, h2, h3, _⟩
    · subst h; simp
    · rw [List.length_take]; omega
  generalize z0.take len0 = zs at hcl hzl
  have H0 := Hid_mk (And.intro hcl hzl)
  clear hcl hzl w0 w1
  go_enter Try.func6, Try.ntmps6
  go_wp2_with (go_at_call 23; go_in)
  refine H0.out.1.mono ?_
  rintro e W1 ⟨v, rfl, hrow, hb1⟩
  obtain ⟨a, rfl, hx⟩ := hrow.form
  clear hx
  have hL := H0.out.2
  have hnew := new_any N W1 (by omega) (by omega)
  generalize hzl : zs.length = L at hL hrow
  have H1 := Hid_mk (And.intro hrow (And.intro hb1 (And.intro hzl hnew)))
  clear hrow hb1 hzl hnew
  subst hL
  go_wp2_with fail
  refine H1.out.2.2.2.mono ?_
  rintro e W2 ⟨s, g, B, rfl, hs2, hk2⟩
  have hrow2 := H1.out.1.keeps hk2
  have hpa := pushall_any W1.heap.size s N 0 0 g B (fun _ => (0, 0, 0)) zs _ W2 (hs2 _) hrow2 (by have := H1.out.2.2.1; omega) (by have := H1.out.2.2.1; omega)
  have H2 := Hid_mk (And.intro hk2 (And.intro hrow2 hpa))
  clear hk2 hrow2 hpa hs2
  go_wp2_with fail
  refine H2.out.2.2.mono ?_
  rintro e W3 ⟨rfl, k3, sp3, B3, hs3, hd3, hor3, hBx, hk3⟩
  clear hBx
  have hrow3 := H2.out.2.1.keeps hk3
  have hd3' : 8 * k3 + sp3 = L := by have := H1.out.2.2.1; omega
  have hor3' : 1 ≤ sp3 ∨ (L = 0 ∧ k3 = 0 ∧ sp3 = 0) := by have := H1.out.2.2.1; omega
  clear hd3 hor3
  have HS := Hid_mk (And.intro hs3 (And.intro hk3 hrow3))
  clear hs3 hk3 hrow3
  go_wp2_with fail
  go_loopg [6, 7, 8] L (fun gk i l p wr => ∃ (k' sp' : Nat), 8 * k' + sp' = gk ∧ gk ≤ L ∧ i = .int .i64 ((gk : Int) - 1) ∧ Stk W1.heap.size wr s N k' sp' g B3 (app (fun _ => (0, 0, 0)) (8 * 0 + 0) zs) ∧ Keeps W1.heap.size W3 wr)
  case atStart => exact ⟨k3, sp3, hd3', Nat.le_refl _, rfl, HS.out.1, Keeps.refl _ _⟩
  case round =>
    obtain ⟨k', sp', hk, hgn, rfl, hs, hkp⟩ := hrel
    by_cases hlt : 0 < gk
    · obtain ⟨m, rfl⟩ : ∃ m, gk = m + 1 := ⟨gk - 1, by omega⟩
      have hlast := zlast_any _ s N k' sp' g B3 _ _ hs (by omega)
      have em : ((m + 1 : Nat) : Int) - 1 = (m : Int) := by omega
      have hmL : m < L := by omega
      rw [em]
      have H5 := Hid_mk (And.intro hk (And.intro hgn (And.intro hkp (And.intro hlast hs))))
      clear hk hgn hs hkp hlast em hlt
      go_wp2_with fail
      refine H5.out.2.2.2.1.mono ?_
      rintro e w5 ⟨i, j, rfl, hij, hik, hj8, hdr⟩
      have hs5 := H5.out.2.2.2.2.heap (Drawn.heap hdr)
      have hkp5 := Drawn.keeps hdr H5.out.2.2.1
      have hpop := zpop_any _ s N k' sp' g B3 _ _ hs5 (by have := H5.out.1; omega)
      have H6 := Hid_mk (And.intro hs5 (And.intro hkp5 (And.intro hpop (And.intro hij (And.intro hik hj8)))))
      clear hs5 hkp5 hpop hij hik hj8 hdr
      go_wp2_with fail
      refine H6.out.2.2.1.mono ?_
      rintro e w' ⟨k2, sp2, rfl, hs2, hd2, hkk2, h82, hfc, hkp2⟩
      have hm2 : 8 * k2 + sp2 = m := by have := H5.out.1; omega
      have hkp6 := H6.out.2.1.trans hkp2
      obtain ⟨b, hab, hcell⟩ := (HS.out.2.2.keeps hkp6).at (i := m) (by rw [H1.out.2.2.1]; exact hmL)
      obtain ⟨hx0, fp, hx1, hx2⟩ := hfc
      clear hx0 hx1 hx2
      rw [hm2] at fp
      have ei : i = k2 := by have h1 := H6.out.2.2.2; have h2 := H5.out.1; omega
      have ej : j = sp2 := by have h1 := H6.out.2.2.2; have h2 := H5.out.1; omega
      subst ei
      subst ej
      have ep : (app (fun _ => (0, 0, 0)) (8 * 0 + 0) zs m).1 = zs.getD m 0 := by unfold app; simp
      rw [ep] at fp
      have hne := neq_frame ⟨B3 i, j * 10, none⟩
      generalize zs.getD m 0 = z at hcell fp
      have H7 := Hid_mk (And.intro hs2 (And.intro hm2 hkp6))
      clear hs2 hd2 hkk2 hkp2 hm2 hkp6 ep
      generalize B3 i = bk at fp hne
      subst hab
      go_wp2_with fail
      go_quiet (fail)
      go_wp2_with fail
      go_roundg m
      case rel => exact ⟨i, j, H7.out.2.1, by omega, rfl, H7.out.1.heap rfl, H7.out.2.2.alike rfl rfl rfl rfl⟩
      case measure => omega
    · have h0 : gk = 0 := by omega
      subst h0
      obtain ⟨rfl, rfl⟩ : k' = 0 ∧ sp' = 0 := by omega
      have hlast := zlast_nil _ s N g B3 _ _ hs
      have H5 := Hid_mk (And.intro hkp (And.intro hlast hs))
      clear hk hgn hs hkp hlast hlt
      go_wp2_with fail
      refine H5.out.2.1.mono ?_
      rintro e w5 ⟨rfl, hdr⟩
      have hs5 := H5.out.2.2.heap (Drawn.heap hdr)
      have hkp5 := Drawn.keeps hdr H5.out.1
      have hpop := zpop_nil _ s N g B3 _ _ hs5
      have H6 := Hid_mk (And.intro hkp5 hpop)
      clear hs5 hkp5 hpop hdr
      go_wp2_with fail
      refine H6.out.2.mono ?_
      rintro e w' ⟨rfl, hs2, hkp2⟩
      have H7 := Hid_mk hkp2
      clear hs2 hkp2
      go_wp2_with fail
      go_ret
      refine ⟨rfl, H1.out.2.1.trans ?_⟩
      exact ((H2.out.1.trans (HS.out.2.1.trans (H6.out.1.trans H7.out))).below).mono H1.out.2.1.size

end Go.Proofs.Ytnccihkllpabgaa.fnLastThenPopSameFrame
