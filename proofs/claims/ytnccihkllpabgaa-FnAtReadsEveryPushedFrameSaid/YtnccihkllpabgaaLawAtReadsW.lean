/- The walk of the law whose statement is: FnAtReadsEveryPushedFrame: for every slice and nseg At(i) is the i-th frame pushed, At of the last is Last, and the reads change nothing: the law returns true and its arguments read as before. Conditions: none. -/
import Derived.Test.YtnccihkllpabgaaRows
import Derived.WalkKit
import Derived.ProofKit
import Derived.OpenShut
import Derived.ShutString
import Derived.ChangeOld
import Derived.Below
import Derived.Test.YtnccihkllpabgaaOps141
import Derived.Test.YtnccihkllpabgaaPtrs
namespace Go.Proofs.Ytnccihkllpabgaa.fnAtReadsEveryPushedFrame
open Go.ChangeShapes Go.WideShapes Go.ChangeAt Go.RowKit
open Go.ChangeMaps (open_string shut_string)
set_option linter.unusedVariables false


/-- What the walk is told of a slice that came in. -/
def IsRow (k : IntKind) (w : World) (a : Option Addr) (len cap : Nat) (zs : List Int) : Prop :=
  (a = none ∧ len = 0 ∧ cap = 0 ∧ zs = []) ∨
  ∃ x, a = some x ∧ len ≤ cap ∧ cap ≤ maxLen ∧ zs.length = cap ∧ (∀ i, i < zs.length → w.cell? (x.add i) = some (.int k (zs.getD i 0))) ∧ ∀ n ∈ zs, (Lit.int k n).wf = true

/-! ### The walk -/
theorem walk (a0 : Option Addr) (len0 cap0 : Nat) (z0 : List Int) (a1 : Int) (w : World) (w0 : IsRow .i64 w a0 len0 cap0 z0) (w1 : (Lit.int .i64 a1).wf = true) :
    Calls Try.prog 7 #[.slice a0 len0 cap0, .int .i64 a1] w fun e w' => e = .returned (.bool true) ∧ Below w.heap.size w w' := by
  have hm0 : len0 ≤ 9223372036854775807 := by
    rcases w0 with ⟨_, h, _⟩ | ⟨_, _, h1, h2, _⟩
    · omega
    · unfold maxLen at h2; omega
  by_cases g0 : 1048576 < len0
  · go_enter Try.func7, Try.ntmps7
    go_wp2
    go_ret
    exact ⟨rfl, Below.refl _ _⟩
  by_cases g1 : 65536 < len0
  · go_enter Try.func7, Try.ntmps7
    go_wp2
    go_ret
    exact ⟨rfl, Below.refl _ _⟩
  by_cases g2 : a1 < 1
  · go_enter Try.func7, Try.ntmps7
    go_wp2
    go_ret
    exact ⟨rfl, Below.refl _ _⟩
  by_cases g3 : 8192 < a1
  · go_enter Try.func7, Try.ntmps7
    go_wp2
    go_ret
    exact ⟨rfl, Below.refl _ _⟩
  obtain ⟨N, rfl⟩ : ∃ N : Nat, a1 = (N : Int) := ⟨a1.toNat, by omega⟩
  by_cases g5 : 8 * N < len0
  · go_enter Try.func7, Try.ntmps7
    go_wp2
    go_ret
    exact ⟨rfl, Below.refl _ _⟩
  have hcl := clone_any a0 len0 cap0 z0 w (by omega) w0
  have hzl : (z0.take len0).length = len0 := by
    rcases w0 with ⟨_, h, _⟩ | ⟨_, _, h1, h2, h3, _⟩
    · subst h; simp
    · rw [List.length_take]; omega
  generalize z0.take len0 = zs at hcl hzl
  have H0 := Hid_mk (And.intro hcl hzl)
  clear hcl hzl w0 w1
  go_enter Try.func7, Try.ntmps7
  go_wp2_with (go_at_call 25; go_in)
  refine H0.out.1.mono ?_
  rintro e W1 ⟨v, rfl, hrow, hb1⟩
  obtain ⟨a, rfl, hx⟩ := hrow.form
  clear hx
  have hL := H0.out.2
  have hnew := new_any N W1 (by omega) (by omega)
  generalize hzl : zs.length = L at hL hrow
  have H1 := Hid_mk (And.intro hrow (And.intro hb1 (And.intro hzl hnew)))
  clear hrow hb1 hzl hnew
  subst hL
  go_wp2_with fail
  refine H1.out.2.2.2.mono ?_
  rintro e W2 ⟨s, g, B, rfl, hs2, hk2⟩
  have hrow2 := H1.out.1.keeps hk2
  have hpa := pushall_any W1.heap.size s N 0 0 g B (fun _ => (0, 0, 0)) zs _ W2 (hs2 _) hrow2 (by have := H1.out.2.2.1; omega) (by have := H1.out.2.2.1; omega)
  have H2 := Hid_mk (And.intro hk2 (And.intro hrow2 hpa))
  clear hk2 hrow2 hpa hs2
  go_wp2_with fail
  refine H2.out.2.2.mono ?_
  rintro e W3 ⟨rfl, k3, sp3, B3, hs3, hd3, hor3, hBx, hk3⟩
  clear hBx
  have hrow3 := H2.out.2.1.keeps hk3
  have hd3' : 8 * k3 + sp3 = L := by have := H1.out.2.2.1; omega
  have hor3' : 1 ≤ sp3 ∨ (L = 0 ∧ k3 = 0 ∧ sp3 = 0) := by have := H1.out.2.2.1; omega
  clear hd3 hor3
  have h8 := hs3.hsp
  have HS := Hid_mk (And.intro hs3 (And.intro hk3 hrow3))
  clear hs3 hk3 hrow3
  go_wp2_with fail
  go_loopg [6, 7] L (fun gk i f wr => ∃ m : Nat, m + gk = L ∧ i = .int .i64 m ∧ Stk W1.heap.size wr s N k3 sp3 g B3 (app (fun _ => (0, 0, 0)) (8 * 0 + 0) zs) ∧ Keeps W1.heap.size W3 wr)
  case atStart => exact ⟨0, by omega, rfl, HS.out.1, Keeps.refl _ _⟩
  case round =>
    obtain ⟨m, hk, rfl, hs, hkp⟩ := hrel
    by_cases hlt : m < L
    · have hat := zat_any _ _ _ _ _ _ m _ _ wr hs (by omega)
      have hfr := hs.frame (i := m / 8) (j := m % 8) (by omega) (by omega) (by omega)
      rw [show 8 * (m / 8) + m % 8 = m by omega] at hfr
      obtain ⟨fi, fp, hx1, hx2⟩ := hfr
      clear hx1 hx2
      have ep : (app (fun _ => (0, 0, 0)) (8 * 0 + 0) zs m).1 = zs.getD m 0 := by unfold app; simp
      rw [ep] at fp
      obtain ⟨b, hab, hcell⟩ := (HS.out.2.2.keeps hkp).at (i := m) (by rw [H1.out.2.2.1]; exact hlt)
      generalize zs.getD m 0 = z at hcell fp
      have HH := Hid_mk (And.intro hk (And.intro hs (And.intro hkp hat)))
      clear hk hs hkp hat ep
      generalize B3 (m / 8) = bk at fp fi HH
      generalize m % 8 * 10 = o at fp fi HH
      subst hab
      go_wp2_with fail
      refine HH.out.2.2.2.mono ?_
      rintro e w' ⟨rfl, rfl⟩
      go_wp2_with fail
      go_quiet (fail)
      go_wp2_with fail
      go_roundg (gk - 1)
      case rel => exact ⟨m + 1, by have := HH.out.1; omega, by go_num, HH.out.2.1.heap rfl, HH.out.2.2.1.alike rfl rfl rfl rfl⟩
      case measure => have := HH.out.1; omega
    · have hml : m = L := by omega
      subst hml
      have hrow5 := HS.out.2.2.keeps hkp
      by_cases h0 : m = 0
      · subst h0
        have hdr := drain_any _ _ _ _ _ _ _ _ zs _ wr hs hrow5 (by have := H1.out.2.2.1; omega) (fun m hm => by unfold app; simp) 0 (by omega) (by omega)
        have HH := Hid_mk (And.intro hkp hdr)
        clear hk hs hkp hdr hrow5 hlt
        go_wp2_with fail
        refine HH.out.2.mono ?_
        rintro e W5 ⟨rfl, hk5⟩
        have H5 := Hid_mk hk5
        clear hk5
        go_wp2_with fail
        go_ret
        refine ⟨rfl, H1.out.2.1.trans ?_⟩
        exact ((H2.out.1.trans (HS.out.2.1.trans (HH.out.1.trans H5.out))).below).mono H1.out.2.1.size
      · obtain ⟨q, rfl⟩ : ∃ q, m = q + 1 := ⟨m - 1, by omega⟩
        have hat := zat_any _ _ _ _ _ _ q _ _ wr hs (by omega)
        have hlast := zlast_any _ s N k3 sp3 g B3 _ _ hs (by omega)
        have HH := Hid_mk (And.intro hkp (And.intro hs (And.intro hat (And.intro hlast hrow5))))
        clear hk hs hkp hat hlast hrow5 hlt h0
        have hq0 : (0 : Int) < ((q + 1 : Nat) : Int) := by omega
        go_wp2_with fail
        refine HH.out.2.2.1.mono ?_
        rintro e w' ⟨rfl, rfl⟩
        generalize hpq : (⟨B3 (q / 8), q % 8 * 10, none⟩ : Addr) = pq
        have HP := Hid_mk hpq
        clear hpq
        go_wp2_with fail
        refine HH.out.2.2.2.1.mono ?_
        rintro e w5 ⟨i, j, rfl, hij, hik, hj8, hdr⟩
        have ei : i = q / 8 := by omega
        have ej : j = q % 8 := by omega
        subst ei
        subst ej
        rw [HP.out]
        have hne := neq_frame pq
        have hdrn := drain_any _ _ _ _ _ _ _ _ zs _ w5 (HH.out.2.1.heap (Drawn.heap hdr)) (HH.out.2.2.2.2.keeps (Drawn.keeps hdr (Keeps.refl W1.heap.size _))) (by have := H1.out.2.2.1; omega) (fun m hm => by unfold app; simp) (q + 1) (by omega) (by omega)
        have H6 := Hid_mk (And.intro (Drawn.keeps hdr HH.out.1) hdrn)
        clear hij hik hj8 hdr hdrn
        go_wp2_with fail
        refine H6.out.2.mono ?_
        rintro e W6 ⟨rfl, hk6⟩
        have H7 := Hid_mk hk6
        clear hk6
        go_wp2_with fail
        go_ret
        refine ⟨rfl, H1.out.2.1.trans ?_⟩
        exact ((H2.out.1.trans (HS.out.2.1.trans (H6.out.1.trans H7.out))).below).mono H1.out.2.1.size

end Go.Proofs.Ytnccihkllpabgaa.fnAtReadsEveryPushedFrame
