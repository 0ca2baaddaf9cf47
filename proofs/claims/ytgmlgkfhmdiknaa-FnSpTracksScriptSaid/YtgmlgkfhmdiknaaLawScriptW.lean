/- The walk of the law whose statement is: FnSpTracksScript: for every maxSize and every script of pushes and pops Sp equals the size of a plain slice model and the top frame is the model's: the law returns true and its arguments read as before. Conditions: none. -/
import Derived.Test.YtgmlgkfhmdiknaaRows
import Derived.WalkKit
import Derived.ProofKit
import Derived.OpenShut
import Derived.ShutString
import Derived.ChangeOld
import Derived.Below
import Derived.ChangeOld
import Derived.Below
import Derived.Deep.LoopGhost
import Derived.Deep.Grids
import Derived.Test.YtgmlgkfhmdiknaaOps19
import Derived.Test.YtgmlgkfhmdiknaaBools
import Derived.Test.YtgmlgkfhmdiknaaModel
namespace Go.Proofs.Ytgmlgkfhmdiknaa.fnSpTracksScript
open Go.ChangeShapes Go.WideShapes Go.ChangeAt Go.RowKit
open Go.ChangeMaps (open_string shut_string)
set_option linter.unusedVariables false


/-- What the walk is told of a slice that came in. -/
def IsRow (k : IntKind) (w : World) (a : Option Addr) (len cap : Nat) (zs : List Int) : Prop :=
  (a = none ∧ len = 0 ∧ cap = 0 ∧ zs = []) ∨
  ∃ x, a = some x ∧ len ≤ cap ∧ cap ≤ maxLen ∧ zs.length = cap ∧ (∀ i, i < zs.length → w.cell? (x.add i) = some (.int k (zs.getD i 0))) ∧ ∀ n ∈ zs, (Lit.int k n).wf = true

/-! ### The walk -/
set_option maxRecDepth 100000 in
set_option maxHeartbeats 1000000 in
theorem walk (a0 : Int) (a1 : Option Addr) (len1 cap1 : Nat) (z1 : List Bool) (a2 : Option Addr) (len2 cap2 : Nat) (z2 : List Int) (w : World) (w0 : (Lit.int .i64 a0).wf = true) (w1 : Go.Proofs.Ytgmlgkfhmdiknaa.Bs.IsRow w a1 len1 cap1 z1) (w2 : IsRow .i64 w a2 len2 cap2 z2) :
    Calls Try.prog 7 #[.int .i64 a0, .slice a1 len1 cap1, .slice a2 len2 cap2] w fun e w' => e = .returned (.bool true) ∧ Below w.heap.size w w' := by
  have hr1 : Go.Proofs.Ytgmlgkfhmdiknaa.Bs.IsRow w a1 len1 cap1 z1 := w1
  have hr2 : Go.Proofs.Ytgmlgkfhmdiknaa.IsRow w a2 len2 cap2 z2 := w2
  obtain ⟨hm1, hl1⟩ := hr1.size
  obtain ⟨hm2, hl2⟩ := hr2.size
  by_cases g0 : 1048576 < len1
  · go_enter Try.func7, Try.ntmps7
    go_wp2
    go_ret
    exact ⟨rfl, Below.refl _ _⟩
  by_cases g1 : 1048576 < len2
  · go_enter Try.func7, Try.ntmps7
    go_wp2
    go_ret
    exact ⟨rfl, Below.refl _ _⟩
  by_cases g2 : 1048576 < len1 + len2
  · go_enter Try.func7, Try.ntmps7
    go_wp2
    go_ret
    exact ⟨rfl, Below.refl _ _⟩
  by_cases g3 : 65536 < len1
  · go_enter Try.func7, Try.ntmps7
    go_wp2
    go_ret
    exact ⟨rfl, Below.refl _ _⟩
  by_cases g4 : 65536 < len2
  · go_enter Try.func7, Try.ntmps7
    go_wp2
    go_ret
    exact ⟨rfl, Below.refl _ _⟩
  by_cases g5 : a0 < 1
  · go_enter Try.func7, Try.ntmps7
    go_wp2
    go_ret
    exact ⟨rfl, Below.refl _ _⟩
  by_cases g6 : 65536 < a0
  · go_enter Try.func7, Try.ntmps7
    go_wp2
    go_ret
    exact ⟨rfl, Below.refl _ _⟩
  obtain ⟨mx, rfl⟩ : ∃ m : Nat, a0 = (m : Int) := ⟨a0.toNat, by omega⟩
  obtain ⟨N, hN⟩ : ∃ N, N = (mx + 7) / 8 := ⟨_, rfl⟩
  have hc1 := Bs.clone_any a1 len1 cap1 z1 w (by omega) hr1
  generalize z1.take len1 = bs at hc1 hl1
  generalize hq2 : z2.take len2 = zs at hl2
  have H0 := Hid_mk (And.intro hc1 (And.intro hl1 (And.intro hl2 (And.intro hr2 (And.intro hq2 hN)))))
  clear hc1 hl1 hl2 hr1 hr2 hq2 hN w0 w1 w2
  go_enter Try.func7, Try.ntmps7
  go_wp2_with (go_at_call 20; go_in)
  refine H0.out.1.mono ?_
  rintro e W1 ⟨v, rfl, hrow, hb1⟩
  have hform : ∃ a, v = .slice a bs.length bs.length := by
    obtain ⟨a, h, _⟩ := hrow.form
    exact ⟨a, h⟩
  obtain ⟨a, rfl⟩ := hform
  have hc2 := clone_any a2 len2 cap2 z2 W1 (by omega) (H0.out.2.2.2.1.below hb1)
  rw [H0.out.2.2.2.2.1] at hc2
  have hL := H0.out.2.1
  generalize hzl : bs.length = L at hL hrow
  have H1 := Hid_mk (And.intro hrow (And.intro hb1 (And.intro hzl hc2)))
  clear hrow hb1 hzl hc2
  subst hL
  go_wp2_with fail
  refine H1.out.2.2.2.mono ?_
  rintro e W2 ⟨v, rfl, hrt, hb2⟩
  obtain ⟨a', rfl, hx⟩ := hrt.form
  clear hx
  have hrs := H1.out.1.below hb2 H1.out.1.lt
  have hM := H0.out.2.2.1
  have hnew := newauto_any mx N W2 (by omega) (by omega) H0.out.2.2.2.2.2
  have hcap := zcap_any mx N W2 (by omega) H0.out.2.2.2.2.2
  have hN1 : 1 ≤ N := by have := H0.out.2.2.2.2.2; omega
  have hN2 : N ≤ 8192 := by have := H0.out.2.2.2.2.2; omega
  generalize hC : 8 * N = C at hcap
  have hC2 : C ≤ 65536 := by omega
  generalize hzl : zs.length = M at hM hrt
  have H2 := Hid_mk (And.intro hrs (And.intro hrt (And.intro (H1.out.2.1.trans (hb2.mono H1.out.2.1.size)) (And.intro hzl (And.intro hnew (And.intro hcap (And.intro hC (And.intro hrs.lt hrt.lt))))))))
  clear hrs hrt hb2 hzl hnew hcap hC
  subst hM
  go_wp2_with fail
  refine H2.out.2.2.2.2.2.1.mono ?_
  rintro e w' ⟨rfl, rfl⟩
  go_wp2_with fail
  refine H2.out.2.2.2.2.1.mono ?_
  rintro e W3 ⟨s, g, B, rfl, hs3, hk3⟩
  have hlt3 := (hs3 (fun _ => (0, 0, 0))).ls
  have hge3 := (hs3 (fun _ => (0, 0, 0))).bs
  have HK := Hid_mk (And.intro hs3 hk3)
  clear hs3 hk3
  obtain ⟨i0, hi, hz0, hz1, hz2⟩ := info_parts infoInt
  go_wp2_with (at_make; refine wpList_make_own _ rfl (.const (.int .i64 0)) (.tmp 42) 35 rfl W2.heap.size 3 i0 (.int .i64 0) 1 Try.underlying35 hi hz0 hz1 .i64 .i64 (L : Int) L rfl rfl rfl ?c1 ?c2 ?c3 ?_)
  case c1 => rw [hz2]; omega
  case c2 => unfold maxLen; omega
  case c3 => omega
  intro W4 hown hgrow
  have hm4 := Mod.made hown
  have hs4 := (HK.out.1 (fun _ => (0, 0, 0))).grown hgrow (fun b h => by cases h)
  have hb4 : Below W2.heap.size W2 W4 := HK.out.2.below.grown hgrow (by omega) (fun b h => by cases h)
  generalize hgm : W3.heap.size = gm at hm4
  have H3 := Hid_mk (And.intro H2.out.2.2.2.2.2.2.1 (And.intro hm4 (And.intro hs4 (And.intro hb4 (And.intro hgm (And.intro hi hz1))))))
  clear hown hgrow hm4 hs4 hb4 hgm hi hz0 hz1 hz2
  go_wp2_with fail
  go_loopg [9, 10] L (fun gk v i wr => ∃ (m n k sp : Nat) (B' : Nat → Nat) (F : Nat → Frm) (ms : List Int), m + gk = L ∧ v = .slice (some ⟨gm, 0, none⟩) n L ∧ i = .int .i64 m ∧ ms.length = n ∧ Mod wr W2.heap.size gm L ms ∧ Stk W2.heap.size wr s N k sp g B' F ∧ 8 * k + sp = n ∧ n ≤ m ∧ n ≤ C ∧ (∀ j, j < n → (F j).1 = ms.getD j 0) ∧ Below W2.heap.size W2 wr)
  case atStart => exact ⟨0, 0, 0, 0, B, fun _ => (0, 0, 0), [], by omega, rfl, rfl, rfl, H3.out.2.1, H3.out.2.2.1, by omega, by omega, by omega, fun j hj => by omega, H3.out.2.2.2.1⟩
  case round =>
    obtain ⟨m, n, k, sp, B', F, ms, hmg, rfl, rfl, hml, hmod, hs, hd, hnm, hn8, hF, hb⟩ := hrel
    by_cases hlt : m < L
    · obtain ⟨b, hab, hcell⟩ := (H2.out.1.below hb H2.out.2.2.2.2.2.2.2.1).at (i := m) (by rw [H1.out.2.2.1]; exact hlt)
      generalize hz : bs.getD m false = op at hcell
      subst hab
      clear hz
      cases op with
      | true =>
        by_cases hroom : n < C
        · have hq : (((n : Int) + 1) == 0) = false := by simp; omega
          by_cases hM0 : ¬ ((0 : Int) < (M : Int))
          · have hM1 := hM0
            have hpush := push_any _ s N k sp g B' F 0 (m : Int) 0 0 wr hs (by have := H3.out.1; omega)
            have HH := Hid_mk (And.intro hmg (And.intro hml (And.intro hmod (And.intro hd (And.intro hF (And.intro hb hpush))))))
            clear hmg hml hmod hs hd hF hb hpush
            go_wp2_with fail
            refine HH.out.2.2.2.2.2.2.mono ?_
            rintro e W5 ⟨rfl, k2, sp2, B2, hs5, hd5, h12, hkk2, hB2, hk5⟩
            have hm5 := HH.out.2.2.1.keeps hk5
            have hb5 := HH.out.2.2.2.2.2.1.trans hk5.below
            have hml5 := HH.out.2.1
            have hd5' : 8 * k2 + sp2 = n + 1 := by have := HH.out.2.2.2.1; omega
            unfold Mod at hm5
            rw [hml5] at hm5
            have H5 := Hid_mk (And.intro hs5 (And.intro hd5' (And.intro hm5 hb5)))
            clear hs5 hd5 h12 hkk2 hB2 hk5 hm5 hb5 hml5 hd5'
            go_wp2_with (at_builtin; refine wpList_append_fits _ rfl (.tmp 73) (.tmp 75) 35 rfl W2.heap.size 3 i0 1 Try.underlying35 H3.out.2.2.2.2.2.1 H3.out.2.2.2.2.2.2 gm n L (ms.map (Value.int .i64)) rfl (H5.out.2.2.1.alloc _) ⟨W5.heap.size, 0, none⟩ 1 1 [.int .i64 (m : Int)] rfl rfl ?d1 ?d2 ?d3 ?_)
            case d1 => intro j u hj; match j, hj with | 0, hj => simp at hj; subst hj; simp [Addr.add]
            case d2 => intro u hu; simp at hu; subst hu; rfl
            case d3 => have := HH.out.1; omega
            intro W6 hown6 hgrow6
            have hm6 : Mod W6 W2.heap.size gm L (ms ++ [(m : Int)]) := Mod.pushed (by rw [HH.out.2.1]; exact hown6)
            have hgmB : ∃ C : Array Value, (W5.alloc (.cells #[.int .i64 (m : Int)] 3)).heap[gm]? = some (.cells C 3 (0, 0)) := by
              have h5 : Mod W5 W2.heap.size gm L ms := by unfold Mod; rw [HH.out.2.1]; exact H5.out.2.2.1
              exact (h5.alloc _).blk
            have hs6 := (H5.out.1.alloc (.cells #[.int .i64 (m : Int)] 3)).grown hgrow6 (fun b hb => by
              have : b = gm := by simpa using hb.symm
              subst this
              obtain ⟨C, hC⟩ := hgmB
              exact ⟨C, _, _, hC, by decide⟩)
            have hgeM := (HH.out.2.2.1).ge
            have hbz : W2.heap.size ≤ W5.heap.size := by
              have h1 := H5.out.1.bs
              have h2 := H5.out.1.ls
              omega
            have hb6a : Below W2.heap.size W2 (W5.alloc (.cells #[.int .i64 (m : Int)] 3)) := H5.out.2.2.2.alloc hbz _
            have hb6 : Below W2.heap.size W2 W6 := by
              refine hb6a.grown hgrow6 (by simp; omega) ?_
              intro b hb
              have : b = gm := by simpa using hb.symm
              omega
            clear hbz hb6a
            have hs6' : Stk W2.heap.size W6 s N k2 sp2 g B2 (upd F n ((m : Int), 0, 0)) := by
              have := HH.out.2.2.2.1
              rw [this] at hs6; exact hs6
            have hF6 : ∀ j, j < n + 1 → (upd F n ((m : Int), 0, 0) j).1 = (ms ++ [(m : Int)]).getD j 0 := by
              intro j hj
              have hl := HH.out.2.1
              unfold upd
              by_cases hjn : j = n
              · rw [if_pos hjn, hjn, ← hl, getD_snoc_last]
              · rw [if_neg hjn, getD_snoc_lt _ _ (by omega)]
                exact HH.out.2.2.2.2.1 j (by omega)
            have hl6 : (ms ++ [(m : Int)]).length = n + 1 := by rw [List.length_append, HH.out.2.1]; rfl
            have hfx : (upd F n ((m : Int), 0, 0) n).1 = (m : Int) := by unfold upd; rw [if_pos rfl]
            have hgd : (ms ++ [(m : Int)]).getD n 0 = (m : Int) := by rw [← HH.out.2.1, getD_snoc_last]
            have hd6 := H5.out.2.1
            have H6 := Hid_mk (And.intro hm6 (And.intro hb6 (And.intro hF6 hl6)))
            clear hown6 hgrow6 hm6 hgmB hs6 hb6 hF6 hl6 hgeM
            have HD := Hid_mk (show 8 * k2 + sp2 = n + 1 by omega)
            have hsp := sp_any _ s N _ _ g B2 _ W6 hs6' (n + 1) (by omega)
            have HSp := Hid_mk (And.intro hsp (And.intro hfx hgd))
            clear hsp hfx hgd hs6' hd6
            go_wp2_with fail
            refine HSp.out.1.mono ?_
            rintro e ws ⟨rfl, hss, hks⟩
            have hat := at_any _ _ _ _ _ _ n _ _ ws hss (by have := HD.out; omega)
            have hss8 := hss.hsp
            have hfr := hss.frame (i := n / 8) (j := n % 8) (by have := HD.out; omega) (by omega) (by have := HD.out; omega)
            rw [show 8 * (n / 8) + n % 8 = n by omega] at hfr
            obtain ⟨fi, fp, hx1, hx2⟩ := hfr
            clear hx1 hx2 hss8
            rw [HSp.out.2.1] at fp
            have hms := H6.out.1.keeps hks
            have fc := hms.cell (j := n) (by rw [H6.out.2.2.2]; omega)
            rw [HSp.out.2.2] at fc
            have HA := Hid_mk (And.intro hat (And.intro hss (And.intro hms hks)))
            clear hat hss hms hks
            generalize B2 (n / 8) = bk at fi fp HA
            generalize n % 8 * 10 = o at fi fp HA
            go_wp2_with fail
            refine HA.out.1.mono ?_
            rintro e wt ⟨rfl, rfl⟩
            go_wp2_with fail
            go_quiet (fail)
            go_wp2_with fail
            go_roundg (gk - 1)
            case rel => exact ⟨m + 1, n + 1, k2, sp2, B2, _, ms ++ [(m : Int)], by have := HH.out.1; omega, rfl, by go_num, H6.out.2.2.2, HA.out.2.2.1.heap rfl, HA.out.2.1.heap rfl, HD.out, by omega, by omega, H6.out.2.2.1, below_drewN (H6.out.2.1.trans HA.out.2.2.2.below) _⟩
            case measure => have := HH.out.1; omega
          · have hmod2 : m % M < M := Nat.mod_lt _ (by omega)
            obtain ⟨b2, hab2, hcell2⟩ := (H2.out.2.1.below hb H2.out.2.2.2.2.2.2.2.2).at (i := m % M) (by rw [H2.out.2.2.2.1]; exact hmod2)
            generalize zs.getD (m % M) 0 = z at hcell2
            subst hab2
            have hmM : (0 : Int) < (M : Int) := by omega
            have hmM2 : ((m : Int) % (M : Int)) < (M : Int) := Int.emod_lt_of_pos _ hmM
            have hmM3 : (0 : Int) ≤ ((m : Int) % (M : Int)) := Int.emod_nonneg _ (by omega)
            have hpush := push_any _ s N k sp g B' F 0 z 0 0 wr hs (by have := H3.out.1; omega)
            have HH := Hid_mk (And.intro hmg (And.intro hml (And.intro hmod (And.intro hd (And.intro hF (And.intro hb hpush))))))
            clear hmg hml hmod hs hd hF hb hpush
            go_wp2_with fail
            refine HH.out.2.2.2.2.2.2.mono ?_
            rintro e W5 ⟨rfl, k2, sp2, B2, hs5, hd5, h12, hkk2, hB2, hk5⟩
            have hm5 := HH.out.2.2.1.keeps hk5
            have hb5 := HH.out.2.2.2.2.2.1.trans hk5.below
            have hml5 := HH.out.2.1
            have hd5' : 8 * k2 + sp2 = n + 1 := by have := HH.out.2.2.2.1; omega
            unfold Mod at hm5
            rw [hml5] at hm5
            have H5 := Hid_mk (And.intro hs5 (And.intro hd5' (And.intro hm5 hb5)))
            clear hs5 hd5 h12 hkk2 hB2 hk5 hm5 hb5 hml5 hd5'
            go_wp2_with (at_builtin; refine wpList_append_fits _ rfl (.tmp 73) (.tmp 75) 35 rfl W2.heap.size 3 i0 1 Try.underlying35 H3.out.2.2.2.2.2.1 H3.out.2.2.2.2.2.2 gm n L (ms.map (Value.int .i64)) rfl (H5.out.2.2.1.alloc _) ⟨W5.heap.size, 0, none⟩ 1 1 [.int .i64 z] rfl rfl ?d1 ?d2 ?d3 ?_)
            case d1 => intro j u hj; match j, hj with | 0, hj => simp at hj; subst hj; simp [Addr.add]
            case d2 => intro u hu; simp at hu; subst hu; rfl
            case d3 => have := HH.out.1; omega
            intro W6 hown6 hgrow6
            have hm6 : Mod W6 W2.heap.size gm L (ms ++ [z]) := Mod.pushed (by rw [HH.out.2.1]; exact hown6)
            have hgmB : ∃ C : Array Value, (W5.alloc (.cells #[.int .i64 z] 3)).heap[gm]? = some (.cells C 3 (0, 0)) := by
              have h5 : Mod W5 W2.heap.size gm L ms := by unfold Mod; rw [HH.out.2.1]; exact H5.out.2.2.1
              exact (h5.alloc _).blk
            have hs6 := (H5.out.1.alloc (.cells #[.int .i64 z] 3)).grown hgrow6 (fun b hb => by
              have : b = gm := by simpa using hb.symm
              subst this
              obtain ⟨C, hC⟩ := hgmB
              exact ⟨C, _, _, hC, by decide⟩)
            have hgeM := (HH.out.2.2.1).ge
            have hbz : W2.heap.size ≤ W5.heap.size := by
              have h1 := H5.out.1.bs
              have h2 := H5.out.1.ls
              omega
            have hb6a : Below W2.heap.size W2 (W5.alloc (.cells #[.int .i64 z] 3)) := H5.out.2.2.2.alloc hbz _
            have hb6 : Below W2.heap.size W2 W6 := by
              refine hb6a.grown hgrow6 (by simp; omega) ?_
              intro b hb
              have : b = gm := by simpa using hb.symm
              omega
            clear hbz hb6a
            have hs6' : Stk W2.heap.size W6 s N k2 sp2 g B2 (upd F n (z, 0, 0)) := by
              have := HH.out.2.2.2.1
              rw [this] at hs6; exact hs6
            have hF6 : ∀ j, j < n + 1 → (upd F n (z, 0, 0) j).1 = (ms ++ [z]).getD j 0 := by
              intro j hj
              have hl := HH.out.2.1
              unfold upd
              by_cases hjn : j = n
              · rw [if_pos hjn, hjn, ← hl, getD_snoc_last]
              · rw [if_neg hjn, getD_snoc_lt _ _ (by omega)]
                exact HH.out.2.2.2.2.1 j (by omega)
            have hl6 : (ms ++ [z]).length = n + 1 := by rw [List.length_append, HH.out.2.1]; rfl
            have hfx : (upd F n (z, 0, 0) n).1 = z := by unfold upd; rw [if_pos rfl]
            have hgd : (ms ++ [z]).getD n 0 = z := by rw [← HH.out.2.1, getD_snoc_last]
            have hd6 := H5.out.2.1
            have H6 := Hid_mk (And.intro hm6 (And.intro hb6 (And.intro hF6 hl6)))
            clear hown6 hgrow6 hm6 hgmB hs6 hb6 hF6 hl6 hgeM
            have HD := Hid_mk (show 8 * k2 + sp2 = n + 1 by omega)
            have hsp := sp_any _ s N _ _ g B2 _ W6 hs6' (n + 1) (by omega)
            have HSp := Hid_mk (And.intro hsp (And.intro hfx hgd))
            clear hsp hfx hgd hs6' hd6
            go_wp2_with fail
            refine HSp.out.1.mono ?_
            rintro e ws ⟨rfl, hss, hks⟩
            have hat := at_any _ _ _ _ _ _ n _ _ ws hss (by have := HD.out; omega)
            have hss8 := hss.hsp
            have hfr := hss.frame (i := n / 8) (j := n % 8) (by have := HD.out; omega) (by omega) (by have := HD.out; omega)
            rw [show 8 * (n / 8) + n % 8 = n by omega] at hfr
            obtain ⟨fi, fp, hx1, hx2⟩ := hfr
            clear hx1 hx2 hss8
            rw [HSp.out.2.1] at fp
            have hms := H6.out.1.keeps hks
            have fc := hms.cell (j := n) (by rw [H6.out.2.2.2]; omega)
            rw [HSp.out.2.2] at fc
            have HA := Hid_mk (And.intro hat (And.intro hss (And.intro hms hks)))
            clear hat hss hms hks
            generalize B2 (n / 8) = bk at fi fp HA
            generalize n % 8 * 10 = o at fi fp HA
            go_wp2_with fail
            refine HA.out.1.mono ?_
            rintro e wt ⟨rfl, rfl⟩
            go_wp2_with fail
            go_quiet (fail)
            go_wp2_with fail
            go_roundg (gk - 1)
            case rel => exact ⟨m + 1, n + 1, k2, sp2, B2, _, ms ++ [z], by have := HH.out.1; omega, rfl, by go_num, H6.out.2.2.2, HA.out.2.2.1.heap rfl, HA.out.2.1.heap rfl, HD.out, by omega, by omega, H6.out.2.2.1, below_drewN (H6.out.2.1.trans HA.out.2.2.2.below) _⟩
            case measure => have := HH.out.1; omega
        · obtain ⟨q, rfl⟩ : ∃ q, n = q + 1 := ⟨n - 1, by have := H2.out.2.2.2.2.2.2.1; omega⟩
          obtain ⟨ns, x, rfl, hnl⟩ := snoc_of hml
          have hfx := hF q (by omega)
          have hgd : (ns ++ [x]).getD q 0 = x := by rw [← hnl, getD_snoc_last]
          rw [hgd] at hfx
          have HH := Hid_mk (And.intro hmg (And.intro hml (And.intro hmod (And.intro hF hb))))
          clear hmg hml hmod hF hb hnl
          have HD := Hid_mk (show 8 * k + sp = q + 1 by omega)
          have hsp := sp_any _ s N _ _ g B' _ wr hs (q + 1) (by omega)
          have HSp := Hid_mk (And.intro hsp (And.intro hfx hgd))
          clear hsp hfx hgd hs hd
          go_wp2_with fail
          refine HSp.out.1.mono ?_
          rintro e ws ⟨rfl, hss, hks⟩
          have hat := at_any _ _ _ _ _ _ q _ _ ws hss (by have := HD.out; omega)
          have hss8 := hss.hsp
          have hfr := hss.frame (i := q / 8) (j := q % 8) (by have := HD.out; omega) (by omega) (by have := HD.out; omega)
          rw [show 8 * (q / 8) + q % 8 = q by omega] at hfr
          obtain ⟨fi, fp, hx1, hx2⟩ := hfr
          clear hx1 hx2 hss8
          rw [HSp.out.2.1] at fp
          have hms := HH.out.2.2.1.keeps hks
          have fc := hms.cell (j := q) (by rw [HH.out.2.1]; omega)
          rw [HSp.out.2.2] at fc
          have HA := Hid_mk (And.intro hat (And.intro hss (And.intro hms hks)))
          clear hat hss hms hks
          generalize B' (q / 8) = bk at fi fp HA
          generalize q % 8 * 10 = o at fi fp HA
          go_wp2_with fail
          refine HA.out.1.mono ?_
          rintro e wt ⟨rfl, rfl⟩
          go_wp2_with fail
          go_quiet (fail)
          go_wp2_with fail
          go_roundg (gk - 1)
          case rel => exact ⟨m + 1, q + 1, k, sp, B', F, ns ++ [x], by have := HH.out.1; omega, rfl, by go_num, HH.out.2.1, HA.out.2.2.1.heap rfl, HA.out.2.1.heap rfl, HD.out, by omega, by omega, HH.out.2.2.2.1, below_drewN (HH.out.2.2.2.2.trans HA.out.2.2.2.below) _⟩
          case measure => have := HH.out.1; omega
      | false =>
        cases n with
        | zero =>
          obtain ⟨rfl, rfl⟩ : k = 0 ∧ sp = 0 := by omega
          have hpop := pop_nil _ s N g B' F wr hs
          have HH := Hid_mk (And.intro hmg (And.intro hml (And.intro hmod (And.intro hF (And.intro hb hpop)))))
          clear hmg hml hmod hs hd hF hb hpop
          go_wp2_with fail
          refine HH.out.2.2.2.2.2.mono ?_
          rintro e W5 ⟨rfl, hs5, hk5⟩
          have H5 := Hid_mk (And.intro (HH.out.2.2.1.keeps hk5) (HH.out.2.2.2.2.1.trans hk5.below))
          clear hk5
          have hsp := sp_any _ s N 0 0 g B' F W5 hs5 0 (by omega)
          have HSp := Hid_mk hsp
          clear hsp
          go_wp2_with fail
          refine HSp.out.mono ?_
          rintro e ws ⟨rfl, hss, hks⟩
          have HA := Hid_mk (And.intro hss hks)
          clear hss hks
          go_wp2_with fail
          go_roundg (gk - 1)
          case rel => exact ⟨m + 1, 0, 0, 0, B', F, ms, by have := HH.out.1; omega, rfl, by go_num, HH.out.2.1, H5.out.1.keeps HA.out.2, HA.out.1, by omega, by omega, by omega, HH.out.2.2.2.1, H5.out.2.trans HA.out.2.below⟩
          case measure => have := HH.out.1; omega
        | succ q =>
          obtain ⟨ns, x, rfl, hnl⟩ := snoc_of hml
          have fx := hF q (by omega)
          have hgd0 : (ns ++ [x]).getD q 0 = x := by rw [← hnl, getD_snoc_last]
          rw [hgd0] at fx
          have hpop := pop_any _ s N k sp g B' F wr hs (by omega)
          have HH := Hid_mk (And.intro hmg (And.intro hnl (And.intro hmod (And.intro hd (And.intro hF (And.intro hb hpop))))))
          clear hmg hml hmod hs hd hF hb hpop
          have hq1 : ((((q : Nat) : Int) + 1) == 0) = false := by simp; omega
          go_wp2_with fail
          refine HH.out.2.2.2.2.2.2.mono ?_
          rintro e W5 ⟨k2, sp2, rfl, hs5, hd5, hkk5, h85, hfc, hk5⟩
          have hq5 : 8 * k2 + sp2 = q := by have := HH.out.2.2.2.1; omega
          obtain ⟨fi, fp, hx1, hx2⟩ := hfc
          clear hx1 hx2
          rw [hq5] at fi fp
          rw [fx] at fp
          have hm5 := HH.out.2.2.1.keeps hk5
          have hc5 := hm5.cell (j := q) (by rw [List.length_append, HH.out.2.1]; simp)
          rw [hgd0] at hc5
          have hF5 : ∀ j, j < q → (F j).1 = ns.getD j 0 := fun j hj => by
            have h1 := HH.out.2.2.2.2.1 j (by omega)
            rw [getD_snoc_lt _ _ (by have := HH.out.2.1; omega)] at h1
            exact h1
          have H5 := Hid_mk (And.intro hs5 (And.intro hq5 (And.intro hm5.pop (And.intro (HH.out.2.2.2.2.2.1.trans hk5.below) hF5))))
          clear hs5 hd5 hkk5 hq5 hm5 hk5 fx hgd0 h85 hF5
          generalize B' k2 = bk at fi fp
          go_wp2_with fail
          go_quiet (fail)
          go_wp2_with fail
          generalize hWq : World.drewN W5 _ = Wq
          have hsq : Stk W2.heap.size Wq s N k2 sp2 g B' F := by rw [← hWq]; exact H5.out.1.heap rfl
          have hmq : Mod Wq W2.heap.size gm L ns := by rw [← hWq]; exact H5.out.2.2.1.heap rfl
          have hbq : Below W2.heap.size W2 Wq := by rw [← hWq]; exact below_drewN H5.out.2.2.2.1 _
          have hqq := H5.out.2.1
          clear hWq fi fp hc5
          cases q with
          | zero =>
            obtain ⟨rfl, rfl⟩ : k2 = 0 ∧ sp2 = 0 := by omega
            have H7 := Hid_mk (And.intro hmq hbq)
            clear hmq hbq hqq
            have hsp := sp_any _ s N 0 0 g B' F Wq hsq 0 (by omega)
            have HSp := Hid_mk hsp
            clear hsp
            go_wp2_with fail
            refine HSp.out.mono ?_
            rintro e ws ⟨rfl, hss, hks⟩
            have HA := Hid_mk (And.intro hss hks)
            clear hss hks
            go_wp2_with fail
            go_roundg (gk - 1)
            case rel => exact ⟨m + 1, 0, 0, 0, B', F, ns, by have := HH.out.1; omega, rfl, by go_num, HH.out.2.1, H7.out.1.keeps HA.out.2, HA.out.1, by omega, by omega, by omega, H5.out.2.2.2.2, H7.out.2.trans HA.out.2.below⟩
            case measure => have := HH.out.1; omega
          | succ r =>
            obtain ⟨ns2, y, rfl, hnl2⟩ := snoc_of HH.out.2.1
            have hfx := H5.out.2.2.2.2 r (by omega)
            have hgd : (ns2 ++ [y]).getD r 0 = y := by rw [← hnl2, getD_snoc_last]
            rw [hgd] at hfx
            have H7 := Hid_mk (And.intro hmq hbq)
            clear hmq hbq hnl2
            have HD := Hid_mk (show 8 * k2 + sp2 = r + 1 by omega)
            have hsp := sp_any _ s N _ _ g B' _ Wq hsq (r + 1) (by omega)
            have HSp := Hid_mk (And.intro hsp (And.intro hfx hgd))
            clear hsp hfx hgd hsq hqq
            go_wp2_with fail
            refine HSp.out.1.mono ?_
            rintro e ws ⟨rfl, hss, hks⟩
            have hat := at_any _ _ _ _ _ _ r _ _ ws hss (by have := HD.out; omega)
            have hss8 := hss.hsp
            have hfr := hss.frame (i := r / 8) (j := r % 8) (by have := HD.out; omega) (by omega) (by have := HD.out; omega)
            rw [show 8 * (r / 8) + r % 8 = r by omega] at hfr
            obtain ⟨fi, fp, hx1, hx2⟩ := hfr
            clear hx1 hx2 hss8
            rw [HSp.out.2.1] at fp
            have hms := H7.out.1.keeps hks
            have fc := hms.cell (j := r) (by rw [HH.out.2.1]; omega)
            rw [HSp.out.2.2] at fc
            have HA := Hid_mk (And.intro hat (And.intro hss (And.intro hms hks)))
            clear hat hss hms hks
            generalize B' (r / 8) = bk at fi fp HA
            generalize r % 8 * 10 = o at fi fp HA
            go_wp2_with fail
            refine HA.out.1.mono ?_
            rintro e wt ⟨rfl, rfl⟩
            go_wp2_with fail
            go_quiet (fail)
            go_wp2_with fail
            go_roundg (gk - 1)
            case rel => exact ⟨m + 1, r + 1, k2, sp2, B', F, ns2 ++ [y], by have := HH.out.1; omega, rfl, by go_num, HH.out.2.1, HA.out.2.2.1.heap rfl, HA.out.2.1.heap rfl, HD.out, by omega, by omega, H5.out.2.2.2.2, below_drewN (H7.out.2.trans HA.out.2.2.2.below) _⟩
            case measure => have := HH.out.1; omega
    · have HE := Hid_mk hb
      clear hmg hml hmod hs hd hF hb
      go_wp2_with fail
      go_ret
      refine ⟨rfl, H2.out.2.2.1.trans ?_⟩
      exact HE.out.mono H2.out.2.2.1.size

end Go.Proofs.Ytgmlgkfhmdiknaa.fnSpTracksScript
