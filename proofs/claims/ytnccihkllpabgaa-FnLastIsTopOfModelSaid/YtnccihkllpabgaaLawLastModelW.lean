/- The walk of the law whose statement is: FnLastIsTopOfModel: for every script of pushes and pops and every nseg Last is the top of a plain slice model, nil where that is empty: the law returns true and its arguments read as before. Conditions: none. -/
import Derived.Test.YtnccihkllpabgaaRows
import Derived.WalkKit
import Derived.ProofKit
import Derived.OpenShut
import Derived.ShutString
import Derived.ChangeOld
import Derived.Below
import Derived.Test.YtnccihkllpabgaaOps141
import Derived.Test.YtnccihkllpabgaaModel
namespace Go.Proofs.Ytnccihkllpabgaa.fnLastIsTopOfModel
open Go.ChangeShapes Go.WideShapes Go.ChangeAt Go.RowKit
open Go.ChangeMaps (open_string shut_string)
set_option linter.unusedVariables false


/-- What the walk is told of a slice that came in. -/
def IsRow (k : IntKind) (w : World) (a : Option Addr) (len cap : Nat) (zs : List Int) : Prop :=
  (a = none ∧ len = 0 ∧ cap = 0 ∧ zs = []) ∨
  ∃ x, a = some x ∧ len ≤ cap ∧ cap ≤ maxLen ∧ zs.length = cap ∧ (∀ i, i < zs.length → w.cell? (x.add i) = some (.int k (zs.getD i 0))) ∧ ∀ n ∈ zs, (Lit.int k n).wf = true

/-! ### The walk -/
set_option maxRecDepth 100000 in
set_option maxHeartbeats 1000000 in
theorem walk (a0 : Option Addr) (len0 cap0 : Nat) (z0 : List Int) (a1 : Int) (w : World) (w0 : IsRow .i64 w a0 len0 cap0 z0) (w1 : (Lit.int .i64 a1).wf = true) :
    Calls Try.prog 9 #[.slice a0 len0 cap0, .int .i64 a1] w fun e w' => e = .returned (.bool true) ∧ Below w.heap.size w w' := by
  have hm0 : len0 ≤ 9223372036854775807 := by
    rcases w0 with ⟨_, h, _⟩ | ⟨_, _, h1, h2, _⟩
    · omega
    · unfold maxLen at h2; omega
  by_cases g0 : 1048576 < len0
  · go_enter Try.func9, Try.ntmps9
    go_wp2
    go_ret
    exact ⟨rfl, Below.refl _ _⟩
  by_cases g1 : 65536 < len0
  · go_enter Try.func9, Try.ntmps9
    go_wp2
    go_ret
    exact ⟨rfl, Below.refl _ _⟩
  by_cases g2 : a1 < 1
  · go_enter Try.func9, Try.ntmps9
    go_wp2
    go_ret
    exact ⟨rfl, Below.refl _ _⟩
  by_cases g3 : 8192 < a1
  · go_enter Try.func9, Try.ntmps9
    go_wp2
    go_ret
    exact ⟨rfl, Below.refl _ _⟩
  obtain ⟨N, rfl⟩ : ∃ N : Nat, a1 = (N : Int) := ⟨a1.toNat, by omega⟩
  have hcl := clone_any a0 len0 cap0 z0 w (by omega) w0
  have hzl : (z0.take len0).length = len0 := by
    rcases w0 with ⟨_, h, _⟩ | ⟨_, _, h1, h2, h3, _⟩
    · subst h; simp
    · rw [List.length_take]; omega
  generalize z0.take len0 = zs at hcl hzl
  have H0 := Hid_mk (And.intro hcl hzl)
  clear hcl hzl w0 w1
  go_enter Try.func9, Try.ntmps9
  go_wp2_with (go_at_call 27; go_in)
  refine H0.out.1.mono ?_
  rintro e W1 ⟨v, rfl, hrow, hb1⟩
  obtain ⟨a, rfl, hx⟩ := hrow.form
  clear hx
  have hL := H0.out.2
  have hnew := new_any N W1 (by omega) (by omega)
  generalize hzl : zs.length = L at hL hrow
  have H1 := Hid_mk (And.intro hrow (And.intro hb1 (And.intro hzl (And.intro hrow.lt hnew))))
  clear hrow hb1 hzl hnew
  subst hL
  go_wp2_with fail
  refine H1.out.2.2.2.2.mono ?_
  rintro e W2 ⟨s, g, B, rfl, hs2, hk2⟩
  have hlt2 := (hs2 (fun _ => (0, 0, 0))).ls
  have hge2 := (hs2 (fun _ => (0, 0, 0))).bs
  have H2 := Hid_mk (And.intro hs2 hk2)
  clear hs2 hk2
  obtain ⟨i0, hi, hz0, hz1, hz2⟩ := info_parts infoInt
  go_wp2_with (at_make; refine wpList_make_own _ rfl (.const (.int .i64 0)) (.tmp 32) 22 rfl W1.heap.size 3 i0 (.int .i64 0) 1 Try.underlying22 hi hz0 hz1 .i64 .i64 (L : Int) L rfl rfl rfl ?c1 ?c2 ?c3 ?_)
  case c1 => rw [hz2]; omega
  case c2 => unfold maxLen; omega
  case c3 => omega
  intro W3 hown hgrow
  have hm3 := Mod.made hown
  have hs3 := (H2.out.1 (fun _ => (0, 0, 0))).grown hgrow (fun b h => by cases h)
  have hb3 : Below W1.heap.size W1 W3 := H2.out.2.below.grown hgrow (by omega) (fun b h => by cases h)
  generalize hgm : W2.heap.size = gm at hm3
  have H3 := Hid_mk (And.intro hm3 (And.intro hs3 (And.intro hb3 (And.intro hgm (And.intro hi hz1)))))
  clear hown hgrow hm3 hs3 hb3 hgm hi hz0 hz1 hz2
  go_wp2_with fail
  go_loopg [7, 8] L (fun gk v i wr => ∃ (m n k sp : Nat) (B' : Nat → Nat) (F : Nat → Frm) (ms : List Int), m + gk = L ∧ v = .slice (some ⟨gm, 0, none⟩) n L ∧ i = .int .i64 m ∧ ms.length = n ∧ Mod wr W1.heap.size gm L ms ∧ Stk W1.heap.size wr s N k sp g B' F ∧ 8 * k + sp = n ∧ n ≤ m ∧ n ≤ 8 * N ∧ (∀ j, j < n → (F j).1 = ms.getD j 0) ∧ Below W1.heap.size W1 wr)
  case atStart => exact ⟨0, 0, 0, 0, B, fun _ => (0, 0, 0), [], by omega, rfl, rfl, rfl, H3.out.1, H3.out.2.1, by omega, by omega, by omega, fun j hj => by omega, H3.out.2.2.1⟩
  case round =>
    obtain ⟨m, n, k, sp, B', F, ms, hmg, rfl, rfl, hml, hmod, hs, hd, hnm, hn8, hF, hb⟩ := hrel
    by_cases hlt : m < L
    · obtain ⟨b, hab, hcell⟩ := (H1.out.1.below hb H1.out.2.2.2.1).at (i := m) (by rw [H1.out.2.2.1]; exact hlt)
      generalize hz : zs.getD m 0 = z at hcell
      subst hab
      by_cases hz0 : 0 ≤ z
      · by_cases hroom : n < 8 * N
        · have hpush := zpush_any _ s N k sp g B' F z wr hs (by omega)
          have HH := Hid_mk (And.intro hmg (And.intro hml (And.intro hmod (And.intro hd (And.intro hF (And.intro hb (And.intro hpush hz)))))))
          clear hmg hml hmod hs hd hF hb hpush hz
          go_wp2_with fail
          refine HH.out.2.2.2.2.2.2.1.mono ?_
          rintro e W5 ⟨rfl, k2, sp2, B2, hs5, hd5, h12, hkk2, hB2, hk5⟩
          have hm5 := HH.out.2.2.1.keeps hk5
          have hb5 := HH.out.2.2.2.2.2.1.trans hk5.below
          have hml5 := HH.out.2.1
          have hd5' : 8 * k2 + sp2 = n + 1 := by have := HH.out.2.2.2.1; omega
          unfold Mod at hm5
          rw [hml5] at hm5
          have H5 := Hid_mk (And.intro hs5 (And.intro hd5' (And.intro hm5 hb5)))
          clear hs5 hd5 h12 hkk2 hB2 hk5 hm5 hb5 hml5 hd5'
          go_wp2_with (at_builtin; refine wpList_append_fits _ rfl (.tmp 53) (.tmp 55) 22 rfl W1.heap.size 3 i0 1 Try.underlying22 H3.out.2.2.2.2.1 H3.out.2.2.2.2.2 gm n L (ms.map (Value.int .i64)) rfl (H5.out.2.2.1.alloc _) ⟨W5.heap.size, 0, none⟩ 1 1 [.int .i64 z] rfl rfl ?c1 ?c2 ?c3 ?_)
          case c1 => intro j u hj; match j, hj with | 0, hj => simp at hj; subst hj; simp [Addr.add]
          case c2 => intro u hu; simp at hu; subst hu; rfl
          case c3 => have := HH.out.1; omega
          intro W6 hown6 hgrow6
          have hm6 : Mod W6 W1.heap.size gm L (ms ++ [z]) := Mod.pushed (by rw [HH.out.2.1]; exact hown6)
          have hgmB : ∃ C : Array Value, (W5.alloc (.cells #[.int .i64 z] 3)).heap[gm]? = some (.cells C 3 (0, 0)) := by
            obtain ⟨C, hC⟩ := (HH.out.2.2.1).blk
            have h5 : Mod W5 W1.heap.size gm L ms := by unfold Mod; rw [HH.out.2.1]; exact H5.out.2.2.1
            exact (h5.alloc _).blk
          have hs6 := (H5.out.1.alloc (.cells #[.int .i64 z] 3)).grown hgrow6 (fun b hb => by
            have : b = gm := by simpa using hb.symm
            subst this
            obtain ⟨C, hC⟩ := hgmB
            exact ⟨C, _, _, hC, by decide⟩)
          have hgeM := (HH.out.2.2.1).ge
          have hbz : W1.heap.size ≤ W5.heap.size := by
            have h1 := H5.out.1.bs
            have h2 := H5.out.1.ls
            omega
          have hb6a : Below W1.heap.size W1 (W5.alloc (.cells #[.int .i64 z] 3)) := H5.out.2.2.2.alloc hbz _
          have hb6 : Below W1.heap.size W1 W6 := by
            refine hb6a.grown hgrow6 (by simp; omega) ?_
            intro b hb
            have : b = gm := by simpa using hb.symm
            omega
          clear hbz hb6a
          have hs6' : Stk W1.heap.size W6 s N k2 sp2 g B2 (upd F n (z, 0, 0)) := by
            have := HH.out.2.2.2.1
            rw [this] at hs6; exact hs6
          have hF6 : ∀ j, j < n + 1 → (upd F n (z, 0, 0) j).1 = (ms ++ [z]).getD j 0 := by
            intro j hj
            have hl := HH.out.2.1
            unfold upd
            by_cases hjn : j = n
            · rw [if_pos hjn, hjn, ← hl, getD_snoc_last]
            · rw [if_neg hjn, getD_snoc_lt _ _ (by omega)]
              exact HH.out.2.2.2.2.1 j (by omega)
          have hl6 : (ms ++ [z]).length = n + 1 := by rw [List.length_append, HH.out.2.1]; rfl
          have hq : (((n : Int) + 1) == 0) = false := by simp; omega
          have hd6 := H5.out.2.1
          have hfx : (upd F n (z, 0, 0) n).1 = z := by unfold upd; rw [if_pos rfl]
          have hcm6 := hm6.cell (j := n) (by omega)
          have hgd : (ms ++ [z]).getD n 0 = z := by rw [← HH.out.2.1, getD_snoc_last]
          rw [hgd] at hcm6
          have H6 := Hid_mk (And.intro hm6 (And.intro hb6 (And.intro hF6 hl6)))
          clear hown6 hgrow6 hm6 hgmB hs6 hb6 hF6 hl6 hgeM hgd
          have hlast := zlast_any _ s N _ _ g B2 _ W6 hs6' (by omega)
          have HL := Hid_mk (And.intro hlast hs6')
          clear hlast
          go_wp2_with fail
          refine HL.out.1.mono ?_
          rintro e wl ⟨i, j, rfl, hij, hik, hj8, nd, rfl⟩
          have hijt : 8 * i + j = n := by omega
          have hfr := HL.out.2.frame hik hj8 (by omega)
          rw [hijt] at hfr
          obtain ⟨fi, fp, hx1, hx2⟩ := hfr
          clear hx1 hx2
          rw [hfx] at fp
          have fc := hcm6
          have HD := Hid_mk (show 8 * k2 + sp2 = n + 1 by omega)
          clear hijt hij hik hfx hcm6 hs6' hd6
          generalize B2 i = bk at fi fp
          go_wp2_with fail
          go_quiet (fail)
          go_wp2_with fail
          go_roundg (gk - 1)
          case rel => exact ⟨m + 1, n + 1, k2, sp2, B2, _, ms ++ [z], by have := HH.out.1; omega, rfl, by go_num, H6.out.2.2.2, H6.out.1.heap rfl, HL.out.2.heap rfl, HD.out, by omega, by omega, H6.out.2.2.1, by first | exact below_drewN H6.out.2.1 _ | exact below_drewN (below_drewN H6.out.2.1 _) _⟩
          case measure => have := HH.out.1; omega
        · obtain ⟨q, rfl⟩ : ∃ q, n = q + 1 := ⟨n - 1, by omega⟩
          obtain ⟨ns, x, rfl, hnl⟩ := snoc_of hml
          have hfx := hF q (by omega)
          have hcm6 := hmod.cell (j := q) (by rw [hml]; omega)
          have hgd : (ns ++ [x]).getD q 0 = x := by rw [← hnl, getD_snoc_last]
          rw [hgd] at hcm6 hfx
          have hq : (((q : Nat) : Int) + 1 == 0) = false := by simp; omega
          have HH := Hid_mk (And.intro hmg (And.intro hml (And.intro hmod (And.intro hF hb))))
          clear hmg hml hmod hF hb hz hgd
          have hlast := zlast_any _ s N _ _ g B' _ wr hs (by omega)
          have HL := Hid_mk (And.intro hlast hs)
          clear hlast
          go_wp2_with fail
          refine HL.out.1.mono ?_
          rintro e wl ⟨i, j, rfl, hij, hik, hj8, nd, rfl⟩
          have hijt : 8 * i + j = q := by omega
          have hfr := HL.out.2.frame hik hj8 (by omega)
          rw [hijt] at hfr
          obtain ⟨fi, fp, hx1, hx2⟩ := hfr
          clear hx1 hx2
          rw [hfx] at fp
          have fc := hcm6
          have HD := Hid_mk (show 8 * k + sp = q + 1 by omega)
          clear hijt hij hik hfx hcm6 hs hd
          generalize B' i = bk at fi fp
          go_wp2_with fail
          go_quiet (fail)
          go_wp2_with fail
          go_roundg (gk - 1)
          case rel => exact ⟨m + 1, q + 1, k, sp, B', F, ns ++ [x], by have := HH.out.1; omega, rfl, by go_num, HH.out.2.1, HH.out.2.2.1.heap rfl, HL.out.2.heap rfl, HD.out, by omega, by omega, HH.out.2.2.2.1, by first | exact below_drewN HH.out.2.2.2.2 _ | exact below_drewN (below_drewN HH.out.2.2.2.2 _) _⟩
          case measure => have := HH.out.1; omega
      · cases n with
        | zero =>
          obtain ⟨rfl, rfl⟩ : k = 0 ∧ sp = 0 := by omega
          have hpop := zpop_nil _ s N g B' F wr hs
          have HH := Hid_mk (And.intro hmg (And.intro hml (And.intro hmod (And.intro hF (And.intro hb hpop)))))
          clear hmg hml hmod hs hd hF hb hpop hz
          go_wp2_with fail
          refine HH.out.2.2.2.2.2.mono ?_
          rintro e W5 ⟨rfl, hs5, hk5⟩
          have H5 := Hid_mk (And.intro (HH.out.2.2.1.keeps hk5) (HH.out.2.2.2.2.1.trans hk5.below))
          clear hk5
          have hlast := zlast_nil _ s N g B' F W5 hs5
          have HL := Hid_mk (And.intro hlast hs5)
          clear hlast
          go_wp2_with fail
          refine HL.out.1.mono ?_
          rintro e wl ⟨rfl, nd, rfl⟩
          go_wp2_with fail
          go_roundg (gk - 1)
          case rel => exact ⟨m + 1, 0, 0, 0, B', F, ms, by have := HH.out.1; omega, rfl, by go_num, HH.out.2.1, H5.out.1.heap rfl, HL.out.2.heap rfl, by omega, by omega, by omega, HH.out.2.2.2.1, below_drewN H5.out.2 _⟩
          case measure => have := HH.out.1; omega
        | succ q =>
          obtain ⟨ns, x, rfl, hnl⟩ := snoc_of hml
          have hpop := zpop_any _ s N k sp g B' F wr hs (by omega)
          have HH := Hid_mk (And.intro hmg (And.intro hnl (And.intro hmod (And.intro hd (And.intro hF (And.intro hb hpop))))))
          clear hmg hml hmod hs hd hF hb hpop hz
          go_wp2_with fail
          refine HH.out.2.2.2.2.2.2.mono ?_
          rintro e W5 ⟨k2, sp2, rfl, hs5, hd5, hkk5, h85, hfc, hk5⟩
          have hq5 : 8 * k2 + sp2 = q := by have := HH.out.2.2.2.1; omega
          have hm5 := (HH.out.2.2.1.keeps hk5).pop
          have hF5 : ∀ j, j < q → (F j).1 = ns.getD j 0 := fun j hj => by
            have h1 := HH.out.2.2.2.2.1 j (by omega)
            rw [getD_snoc_lt _ _ (by have := HH.out.2.1; omega)] at h1
            exact h1
          have hb5 := HH.out.2.2.2.2.2.1.trans hk5.below
          clear hd5 hkk5 h85 hfc hk5
          cases q with
          | zero =>
            obtain ⟨rfl, rfl⟩ : k2 = 0 ∧ sp2 = 0 := by omega
            have H5 := Hid_mk (And.intro hm5 (And.intro hb5 hF5))
            clear hm5 hb5 hq5 hF5
            have hlast := zlast_nil _ s N g B' F W5 hs5
            have HL := Hid_mk (And.intro hlast hs5)
            clear hlast
            go_wp2_with fail
            refine HL.out.1.mono ?_
            rintro e wl ⟨rfl, nd, rfl⟩
            go_wp2_with fail
            go_roundg (gk - 1)
            case rel => exact ⟨m + 1, 0, 0, 0, B', F, ns, by have := HH.out.1; omega, rfl, by go_num, HH.out.2.1, H5.out.1.heap rfl, HL.out.2.heap rfl, by omega, by omega, by omega, H5.out.2.2, below_drewN H5.out.2.1 _⟩
            case measure => have := HH.out.1; omega
          | succ r =>
            obtain ⟨ns2, y, rfl, hnl2⟩ := snoc_of HH.out.2.1
            have hfx := hF5 r (by omega)
            have hcm6 := hm5.cell (j := r) (by rw [HH.out.2.1]; omega)
            have hgd : (ns2 ++ [y]).getD r 0 = y := by rw [← hnl2, getD_snoc_last]
            rw [hgd] at hcm6 hfx
            have hq : (((r : Nat) : Int) + 1 == 0) = false := by simp; omega
            have H5 := Hid_mk (And.intro hm5 (And.intro hb5 hF5))
            clear hm5 hb5 hF5 hgd hnl2
            have hlast := zlast_any _ s N _ _ g B' _ W5 hs5 (by omega)
            have HL := Hid_mk (And.intro hlast hs5)
            clear hlast
            go_wp2_with fail
            refine HL.out.1.mono ?_
            rintro e wl ⟨i, j, rfl, hij, hik, hj8, nd, rfl⟩
            have hijt : 8 * i + j = r := by omega
            have hfr := HL.out.2.frame hik hj8 (by omega)
            rw [hijt] at hfr
            obtain ⟨fi, fp, hx1, hx2⟩ := hfr
            clear hx1 hx2
            rw [hfx] at fp
            have fc := hcm6
            have HD := Hid_mk (show 8 * k2 + sp2 = r + 1 by omega)
            clear hijt hij hik hfx hcm6 hs5 hq5
            generalize B' i = bk at fi fp
            go_wp2_with fail
            go_quiet (fail)
            go_wp2_with fail
            go_roundg (gk - 1)
            case rel => exact ⟨m + 1, r + 1, k2, sp2, B', F, ns2 ++ [y], by have := HH.out.1; omega, rfl, by go_num, HH.out.2.1, H5.out.1.heap rfl, HL.out.2.heap rfl, HD.out, by omega, by omega, H5.out.2.2, by first | exact below_drewN H5.out.2.1 _ | exact below_drewN (below_drewN H5.out.2.1 _) _⟩
            case measure => have := HH.out.1; omega
    · have HE := Hid_mk hb
      clear hmg hml hmod hs hd hF hb
      go_wp2_with fail
      go_ret
      refine ⟨rfl, H1.out.2.1.trans ?_⟩
      exact HE.out.mono H1.out.2.1.size

end Go.Proofs.Ytnccihkllpabgaa.fnLastIsTopOfModel
