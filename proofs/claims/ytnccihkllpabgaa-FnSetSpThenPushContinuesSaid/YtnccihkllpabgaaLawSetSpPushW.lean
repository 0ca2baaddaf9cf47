/- The walk of the law whose statement is: FnSetSpThenPushContinues: for all slices, nseg and k the frames pushed behind SetSp(k) get the depths d, d+1 .. and pop back first, then the first d follow, then nil: the law returns true and its arguments read as before. Conditions: none. -/
import Derived.Test.YtnccihkllpabgaaRows
import Derived.WalkKit
import Derived.ProofKit
import Derived.OpenShut
import Derived.ShutString
import Derived.ChangeOld
import Derived.Below
import Derived.Test.YtnccihkllpabgaaOps141
import Derived.Test.YtnccihkllpabgaaDepth
namespace Go.Proofs.Ytnccihkllpabgaa.fnSetSpThenPushContinues
open Go.ChangeShapes Go.WideShapes Go.ChangeAt Go.RowKit
open Go.ChangeMaps (open_string shut_string)
set_option linter.unusedVariables false


/-- What the walk is told of a slice that came in. -/
def IsRow (k : IntKind) (w : World) (a : Option Addr) (len cap : Nat) (zs : List Int) : Prop :=
  (a = none ∧ len = 0 ∧ cap = 0 ∧ zs = []) ∨
  ∃ x, a = some x ∧ len ≤ cap ∧ cap ≤ maxLen ∧ zs.length = cap ∧ (∀ i, i < zs.length → w.cell? (x.add i) = some (.int k (zs.getD i 0))) ∧ ∀ n ∈ zs, (Lit.int k n).wf = true

/-! ### The walk -/
set_option maxHeartbeats 1000000 in
theorem walk (a0 : Option Addr) (len0 cap0 : Nat) (z0 : List Int) (a1 : Option Addr) (len1 cap1 : Nat) (z1 : List Int) (a2 : Int) (a3 : Int) (w : World) (w0 : IsRow .i64 w a0 len0 cap0 z0) (w1 : IsRow .i64 w a1 len1 cap1 z1) (w2 : (Lit.int .i64 a2).wf = true) (w3 : (Lit.int .i64 a3).wf = true) :
    Calls Try.prog 8 #[.slice a0 len0 cap0, .slice a1 len1 cap1, .int .i64 a2, .int .i64 a3] w fun e w' => e = .returned (.bool true) ∧ Below w.heap.size w w' := by
  have hr0 : Go.Proofs.Ytnccihkllpabgaa.IsRow w a0 len0 cap0 z0 := w0
  have hr1 : Go.Proofs.Ytnccihkllpabgaa.IsRow w a1 len1 cap1 z1 := w1
  obtain ⟨hm0, hl0⟩ := hr0.size
  obtain ⟨hm1, hl1⟩ := hr1.size
  by_cases g0 : 1048576 < len0
  · go_enter Try.func8, Try.ntmps8
    go_wp2
    go_ret
    exact ⟨rfl, Below.refl _ _⟩
  by_cases g1 : 1048576 < len1
  · go_enter Try.func8, Try.ntmps8
    go_wp2
    go_ret
    exact ⟨rfl, Below.refl _ _⟩
  by_cases g2 : 1048576 < len0 + len1
  · go_enter Try.func8, Try.ntmps8
    go_wp2
    go_ret
    exact ⟨rfl, Below.refl _ _⟩
  by_cases g3 : 65536 < len0
  · go_enter Try.func8, Try.ntmps8
    go_wp2
    go_ret
    exact ⟨rfl, Below.refl _ _⟩
  by_cases g4 : 65536 < len1
  · go_enter Try.func8, Try.ntmps8
    go_wp2
    go_ret
    exact ⟨rfl, Below.refl _ _⟩
  by_cases g5 : a2 < 1
  · go_enter Try.func8, Try.ntmps8
    go_wp2
    go_ret
    exact ⟨rfl, Below.refl _ _⟩
  by_cases g6 : 8192 < a2
  · go_enter Try.func8, Try.ntmps8
    go_wp2
    go_ret
    exact ⟨rfl, Below.refl _ _⟩
  obtain ⟨N, rfl⟩ : ∃ N : Nat, a2 = (N : Int) := ⟨a2.toNat, by omega⟩
  by_cases g8 : 8 * N < len0
  · go_enter Try.func8, Try.ntmps8
    go_wp2
    go_ret
    exact ⟨rfl, Below.refl _ _⟩
  by_cases g9 : a3 < 0
  · go_enter Try.func8, Try.ntmps8
    go_wp2
    go_ret
    exact ⟨rfl, Below.refl _ _⟩
  by_cases g10 : (len0 : Int) < a3
  · go_enter Try.func8, Try.ntmps8
    go_wp2
    go_ret
    exact ⟨rfl, Below.refl _ _⟩
  obtain ⟨t, rfl⟩ : ∃ t : Nat, a3 = (t : Int) := ⟨a3.toNat, by omega⟩
  have htl : t ≤ len0 := by omega
  have hdep := depth_any len0 t
  have hdl : depthOf len0 t ≤ len0 := by unfold depthOf; split <;> omega
  have hdf : ∀ k3 sp3 k4 : Nat, 8 * k3 + sp3 = len0 → (1 ≤ sp3 ∨ (len0 = 0 ∧ k3 = 0 ∧ sp3 = 0)) → sp3 ≤ 8 → (k4 = t / 8 ∨ (k4 = k3 ∧ k3 ≤ t / 8)) → k4 ≤ k3 → 8 * k4 + t % 8 = depthOf len0 t := by
    intro k3 sp3 k4 e1 e2 e3 e4 e5
    unfold depthOf
    split <;> omega
  generalize depthOf len0 t = d at hdep hdl hdf
  have hc0 := clone_any a0 len0 cap0 z0 w (by omega) hr0
  generalize z0.take len0 = zs at hc0 hl0
  generalize hq1 : z1.take len1 = zt at hl1
  have H0 := Hid_mk (And.intro hc0 (And.intro hl0 (And.intro hl1 (And.intro hr1 (And.intro hq1 (And.intro hdf hdep))))))
  clear hc0 hl0 hl1 w0 w1 w2 w3 hr0 hr1 hq1 hdep hdf
  by_cases g20 : 8 * N < d + len1
  · go_enter Try.func8, Try.ntmps8
    go_wp2_with (first | (go_at_call 26; go_in) | (go_at_call 19; refine (H0.out.2.2.2.2.2.2 _ (by omega) (by omega)).mono ?_; rintro e w' ⟨rfl, rfl⟩))
    go_ret
    exact ⟨rfl, Below.refl _ _⟩
  go_enter Try.func8, Try.ntmps8
  go_wp2_with (first | (go_at_call 26; go_in) | (go_at_call 19; refine (H0.out.2.2.2.2.2.2 _ (by omega) (by omega)).mono ?_; rintro e w' ⟨rfl, rfl⟩))
  refine H0.out.1.mono ?_
  rintro e W1 ⟨v, rfl, hrow, hb1⟩
  obtain ⟨a, rfl, hx⟩ := hrow.form
  clear hx
  have hc1 := clone_any a1 len1 cap1 z1 W1 (by omega) (H0.out.2.2.2.1.below hb1)
  rw [H0.out.2.2.2.2.1] at hc1
  have hL := H0.out.2.1
  generalize hzl : zs.length = L at hL hrow
  have H1 := Hid_mk (And.intro hrow (And.intro hb1 (And.intro hzl hc1)))
  clear hrow hb1 hzl hc1
  subst hL
  go_wp2_with fail
  refine H1.out.2.2.2.mono ?_
  rintro e W2 ⟨v, rfl, hrt, hb2⟩
  obtain ⟨a', rfl, hx⟩ := hrt.form
  clear hx
  have hrs := H1.out.1.below hb2 H1.out.1.lt
  have hM := H0.out.2.2.1
  have hnew := new_any N W2 (by omega) (by omega)
  generalize hzl : zt.length = M at hM hrt
  have H2 := Hid_mk (And.intro hrs (And.intro hrt (And.intro (H1.out.2.1.trans (hb2.mono H1.out.2.1.size)) (And.intro hzl hnew))))
  clear hrs hrt hb2 hzl hnew
  subst hM
  go_wp2_with fail
  refine H2.out.2.2.2.2.mono ?_
  rintro e W3 ⟨s, g, B, rfl, hs3, hk3⟩
  have hpa := pushall_any W2.heap.size s N 0 0 g B (fun _ => (0, 0, 0)) zs _ W3 (hs3 _) (H2.out.1.keeps hk3) (by have := H1.out.2.2.1; omega) (by have := H1.out.2.2.1; omega)
  have H3 := Hid_mk (And.intro hk3 (And.intro (H2.out.1.keeps hk3) (And.intro (H2.out.2.1.keeps hk3) hpa)))
  clear hk3 hpa hs3
  go_wp2_with fail
  refine H3.out.2.2.2.mono ?_
  rintro e W4 ⟨rfl, k3, sp3, B3, hs4, hd3, hor3, hBx, hk4⟩
  clear hBx
  have hd3' : 8 * k3 + sp3 = L := by have := H1.out.2.2.1; omega
  have hor3' : 1 ≤ sp3 ∨ (L = 0 ∧ k3 = 0 ∧ sp3 = 0) := by have := H1.out.2.2.1; omega
  have hset := zsetsp_any _ _ _ _ _ _ t _ _ W4 hs4 (by omega)
  have H4 := Hid_mk (And.intro (H3.out.1.trans hk4) (And.intro hd3' (And.intro hor3' (And.intro hs4.hsp (And.intro (H3.out.2.1.keeps hk4) (And.intro (H3.out.2.2.1.keeps hk4) hset))))))
  clear hs4 hd3 hor3 hk4 hd3' hor3' hset
  go_wp2_with fail
  refine H4.out.2.2.2.2.2.2.mono ?_
  rintro e W5 ⟨rfl, k4, hs5, hkk4, hor4, hk5⟩
  have hdd : 8 * k4 + t % 8 = d := H0.out.2.2.2.2.2.1 k3 sp3 k4 H4.out.2.1 H4.out.2.2.1 H4.out.2.2.2.1 hor4 hkk4
  have hpb := pushall_any W2.heap.size s N k4 (t % 8) g B3 _ zt _ W5 hs5 (H4.out.2.2.2.2.2.1.keeps hk5) (by have := H2.out.2.2.2.1; omega) (by have := H2.out.2.2.2.1; omega)
  have H5 := Hid_mk (And.intro (H4.out.1.trans hk5) (And.intro (H4.out.2.2.2.2.1.keeps hk5) (And.intro (H4.out.2.2.2.2.2.1.keeps hk5) (And.intro hdd hpb))))
  clear hs5 hkk4 hor4 hk5 hdd hpb
  go_wp2_with fail
  refine H5.out.2.2.2.2.mono ?_
  rintro e W6 ⟨rfl, k6, sp6, B6, hs6, hd6, hor6, hBx, hk6⟩
  clear hBx hor6
  have hd6' : 8 * k6 + sp6 = d + M := by have h1 := H2.out.2.2.2.1; have h2 := H5.out.2.2.2.1; omega
  rw [H5.out.2.2.2.1] at hs6
  have hFt : ∀ m, m < M → (app (app (fun _ => (0, 0, 0)) (8 * 0 + 0) zs) d zt (d + m)).1 = zt.getD m 0 := fun m _ => by
    have e : app (app (fun _ => (0, 0, 0)) (8 * 0 + 0) zs) d zt (d + m) = (zt.getD (d + m - d) 0, 0, 0) := by unfold app; exact if_pos (by omega)
    rw [e, show d + m - d = m by omega]
  have hFs : ∀ m, m < d → (app (app (fun _ => (0, 0, 0)) (8 * 0 + 0) zs) d zt m).1 = zs.getD m 0 := fun m hm => by
    have e : app (app (fun _ => (0, 0, 0)) (8 * 0 + 0) zs) d zt m = app (fun _ => (0, 0, 0)) (8 * 0 + 0) zs m := by
      show (if d ≤ m then _ else _) = _
      exact if_neg (by omega)
    rw [e]
    unfold app
    simp
  generalize app (app (fun _ => (0, 0, 0)) (8 * 0 + 0) zs) d zt = G at hs6 hFt hFs
  have H6 := Hid_mk (And.intro (H5.out.1.trans hk6) (And.intro (H5.out.2.1.keeps hk6) (And.intro (H5.out.2.2.1.keeps hk6) (And.intro hd6' (And.intro hFt (And.intro hFs hs6))))))
  clear hs6 hd6 hd6' hk6 hFt hFs
  go_wp2_with fail
  go_loopg [11, 12] M (fun gk i f wr => ∃ (k' sp' : Nat), 8 * k' + sp' = d + gk ∧ gk ≤ M ∧ i = .int .i64 ((gk : Int) - 1) ∧ Stk W2.heap.size wr s N k' sp' g B6 G ∧ Keeps W2.heap.size W6 wr)
  case atStart => exact ⟨k6, sp6, H6.out.2.2.2.1, Nat.le_refl _, rfl, H6.out.2.2.2.2.2.2, Keeps.refl _ _⟩
  case round =>
    obtain ⟨k', sp', hk, hgn, rfl, hs, hkp⟩ := hrel
    by_cases hlt : 0 < gk
    · obtain ⟨m, rfl⟩ : ∃ m, gk = m + 1 := ⟨gk - 1, by omega⟩
      have hpop := zpop_any _ s N k' sp' g B6 G wr hs (by omega)
      have hmM : m < M := by omega
      have em : ((m + 1 : Nat) : Int) - 1 = (m : Int) := by omega
      rw [em]
      have HH := Hid_mk (And.intro hk (And.intro hgn (And.intro hkp (And.intro hpop hs))))
      clear hk hgn hs hkp hpop em hlt
      go_wp2_with fail
      refine HH.out.2.2.2.1.mono ?_
      rintro e w' ⟨k2, sp2, rfl, hs2, hd2, hkk2, h82, hfc, hkp2⟩
      have hm2 : 8 * k2 + sp2 = d + m := by have := HH.out.1; omega
      have hkp7 := HH.out.2.2.1.trans hkp2
      obtain ⟨b, hab, hcell⟩ := (H6.out.2.2.1.keeps hkp7).at (i := m) (by rw [H2.out.2.2.2.1]; exact hmM)
      obtain ⟨fi, fp, hx1, hx2⟩ := hfc
      clear hx1 hx2
      rw [hm2] at fi fp
      rw [H6.out.2.2.2.2.1 m hmM] at fp
      generalize zt.getD m 0 = z at hcell fp
      have H7 := Hid_mk (And.intro hs2 (And.intro hm2 hkp7))
      clear hs2 hd2 hkk2 hkp2 hm2 hkp7
      generalize B6 k2 = bk at fi fp
      subst hab
      go_wp2_with fail
      go_quiet (fail)
      go_wp2_with fail
      go_roundg m
      case rel => exact ⟨k2, sp2, H7.out.2.1, by omega, rfl, H7.out.1.heap rfl, H7.out.2.2.alike rfl rfl rfl rfl⟩
      case measure => omega
    · have h0 : gk = 0 := by omega
      subst h0
      have hdr := drain_any _ _ _ _ _ _ _ _ zs _ wr hs (H6.out.2.1.keeps hkp) (by have := H1.out.2.2.1; omega) (fun m hm => H6.out.2.2.2.2.2.1 m (by omega)) d (by omega) (by omega)
      have HH := Hid_mk (And.intro hkp hdr)
      clear hk hgn hs hkp hdr hlt
      go_wp2_with fail
      refine HH.out.2.mono ?_
      rintro e W7 ⟨rfl, hk7⟩
      have H7 := Hid_mk hk7
      clear hk7
      go_wp2_with fail
      go_ret
      refine ⟨rfl, H2.out.2.2.1.trans ?_⟩
      exact ((H6.out.1.trans (HH.out.1.trans H7.out)).below).mono H2.out.2.2.1.size

end Go.Proofs.Ytnccihkllpabgaa.fnSetSpThenPushContinues
