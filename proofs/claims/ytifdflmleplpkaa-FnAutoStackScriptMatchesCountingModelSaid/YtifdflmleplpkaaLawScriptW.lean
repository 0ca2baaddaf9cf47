/- The walk of the law whose statement is: FnAutoStackScriptMatchesCountingModel: every script of pushes, pops and clears agrees with a plain slice of markers: the law returns true and its arguments read as before. Conditions: none. -/
import Derived.Test.YtifdflmleplpkaaRows
import Derived.WalkKit
import Derived.ProofKit
import Derived.OpenShut
import Derived.ShutString
import Derived.ChangeOld
import Derived.Below
import Derived.ChangeOld
import Derived.Below
import Derived.Deep.LoopGhost
import Derived.Test.YtifdflmleplpkaaOps16
import Derived.Test.YtifdflmleplpkaaBytes
import Derived.Test.YtifdflmleplpkaaModel16
namespace Go.Proofs.Ytifdflmleplpkaa.fnAutoStackScriptMatchesCountingModel
open Go.ChangeShapes Go.WideShapes Go.ChangeAt Go.RowKit
open Go.ChangeMaps (open_string shut_string)
set_option linter.unusedVariables false


/-- What the walk is told of a slice that came in. -/
def IsRow (k : IntKind) (w : World) (a : Option Addr) (len cap : Nat) (zs : List Int) : Prop :=
  (a = none ∧ len = 0 ∧ cap = 0 ∧ zs = []) ∨
  ∃ x, a = some x ∧ len ≤ cap ∧ cap ≤ maxLen ∧ zs.length = cap ∧ (∀ i, i < zs.length → w.cell? (x.add i) = some (.int k (zs.getD i 0))) ∧ ∀ n ∈ zs, (Lit.int k n).wf = true

/-! ### The walk -/
set_option maxRecDepth 100000 in
set_option maxHeartbeats 1000000 in
theorem walk (a0 : Int) (a1 : Option Addr) (len1 cap1 : Nat) (z1 : List Int) (w : World) (w0 : (Lit.int .i64 a0).wf = true) (w1 : IsRow .u8 w a1 len1 cap1 z1) :
    Calls Try.prog 6 #[.int .i64 a0, .slice a1 len1 cap1] w fun e w' => e = .returned (.bool true) ∧ Below w.heap.size w w' := by
  have hr1 : Go.Proofs.Ytifdflmleplpkaa.By.IsRow w a1 len1 cap1 z1 := w1
  obtain ⟨hm1, hl1⟩ := hr1.size
  by_cases g0 : 1048576 < len1
  · go_enter Try.func6, Try.ntmps6
    go_wp2
    go_ret
    exact ⟨rfl, Below.refl _ _⟩
  by_cases g1 : 65536 < len1
  · go_enter Try.func6, Try.ntmps6
    go_wp2
    go_ret
    exact ⟨rfl, Below.refl _ _⟩
  by_cases g2 : a0 < 1
  · go_enter Try.func6, Try.ntmps6
    go_wp2
    go_ret
    exact ⟨rfl, Below.refl _ _⟩
  by_cases g3 : 65536 < a0
  · go_enter Try.func6, Try.ntmps6
    go_wp2
    go_ret
    exact ⟨rfl, Below.refl _ _⟩
  obtain ⟨mx, rfl⟩ : ∃ m : Nat, a0 = (m : Int) := ⟨a0.toNat, by omega⟩
  obtain ⟨L, rfl⟩ : ∃ L, L = len1 := ⟨_, rfl⟩
  obtain ⟨N, hN⟩ : ∃ N, N = (mx + 7) / 8 := ⟨_, rfl⟩
  have hN1 : 1 ≤ N := by omega
  have hN2 : N ≤ 8192 := by omega
  have hnew := fun W => newauto_any mx N W (by omega) (by omega) hN
  have hcap := fun W => capof_any mx N W (by omega) hN
  generalize hC : 8 * N = C at hcap
  have hC2 : C ≤ 65536 := by omega
  have hzl : L ≤ z1.length := by rw [List.length_take] at hl1; omega
  obtain ⟨i1, hi, hz0, hz1, hz2⟩ := info_parts By.infoByte
  have H0 := Hid_mk (And.intro hr1 (And.intro hl1 (And.intro hzl (And.intro hnew (And.intro hcap hC)))))
  clear hl1 hr1 hN hnew hcap hC hzl w0 w1
  go_enter Try.func6, Try.ntmps6
  go_wp2_with (first | (go_at_call 17; go_in) | (at_make; refine wpList_make_full _ rfl (.tmp 28) (.tmp 28) 32 rfl w.heap.size 5 i1 (.int .u8 0) 1 Try.underlying32 hi hz0 hz1 .i64 .i64 (L : Int) (L : Int) L rfl rfl rfl rfl ?c1 ?c2 (Nat.le_refl _) ?_))
  case c1 => first | omega | (rw [hz2]; omega)
  case c2 => unfold maxLen; omega
  intro w1 hown hgrow
  have hf := By.filled_made (z := z1) hown rfl
  have hb : Below w.heap.size w w1 := (Below.refl _ _).grown hgrow (Nat.le_refl _) (fun k h => by cases h)
  have HF := Hid_mk (And.intro hf hb)
  clear hown hgrow hf hb hi hz0 hz1 hz2
  go_wp2_with fail
  go_loopg [6] L (fun gk i wr => ∃ k : Nat, k + gk = L ∧ i = .int .i64 k ∧ By.Filled wr w.heap.size L z1 k ∧ Below w.heap.size w wr)
  case atStart => exact ⟨0, by omega, rfl, HF.out.1, HF.out.2⟩
  case round =>
    obtain ⟨k, hk, rfl, hf, hb⟩ := hrel
    by_cases hlt : k < L
    · obtain ⟨xb, xo, hx1, hx2, hx3⟩ := H0.out.1.cellAt hlt
      subst hx1
      have cx : wr.cell? ⟨xb, xo + k, none⟩ = some (.int .u8 (z1.getD k 0)) := (hb.cell (p := ⟨xb, xo + k, none⟩) hx2).trans hx3
      obtain ⟨y, cy⟩ := hf.cell (j := k) hlt
      have fy := hf.free k
      generalize hzk : z1.getD k 0 = zk at cx
      have HH := Hid_mk (And.intro hf (And.intro hb (And.intro hx2 (And.intro hk hzk))))
      clear hf hb hx2 hx3 hk hzk
      go_wp2_with fail
      go_roundg (gk - 1)
      case rel =>
        refine ⟨k + 1, by have := HH.out.2.2.2.1; omega, by go_num, ?_, HH.out.2.1.setCell (Nat.le_refl _) _⟩
        rw [← HH.out.2.2.2.2]
        exact HH.out.1.step hlt
      case measure => have := HH.out.2.2.2.1; omega
    · rename World => W2
      have hkl : k = L := by omega
      rw [hkl] at hf
      have hrow := hf.row H0.out.2.2.1
      have hbl := H0.out.2.1
      have hbd : ∀ i, i < L → ∃ y : Nat, (z1.take L).getD i 0 = (y : Int) ∧ y ≤ 255 := by
        intro i hi
        obtain ⟨y, h1, h2⟩ := H0.out.1.bounds hi
        refine ⟨y, ?_, h2⟩
        rw [← h1]
        simp [hi]
      generalize z1.take L = bs at hrow hbl hbd
      have HR := Hid_mk (And.intro hrow (And.intro hbl (And.intro hbd (And.intro hb hrow.lt))))
      clear hrow hbl hbd hb hf hk hkl
      go_wp2_with fail
      refine (H0.out.2.2.2.2.1 _).mono ?_
      rintro e w' ⟨rfl, rfl⟩
      go_wp2_with fail
      refine (H0.out.2.2.2.1 _).mono ?_
      rintro e W3 ⟨s, g, B, rfl, hs3, hk3⟩
      have hs30 := hs3 (fun _ => (0, 0, 0))
      have hsp := sp_any _ s N 0 0 g B _ W3 hs30 0 (by omega)
      have HA := Hid_mk (And.intro hk3 hsp)
      clear hs3 hs30 hk3 hsp
      go_wp2_with fail
      refine HA.out.2.mono ?_
      rintro e W4 ⟨rfl, hs4, hk4⟩
      have hem := empty_any _ s N 0 0 g B _ W4 hs4
      have HB := Hid_mk (And.intro hs4 (And.intro (HA.out.1.trans hk4) hem))
      clear hs4 hk4 hem
      go_wp2_with fail
      refine HB.out.2.2.mono ?_
      rintro e w' ⟨rfl, rfl⟩
      go_wp2_with fail
      refine (full_any _ s N 0 0 g B _ _ HB.out.1).mono ?_
      rintro e W5 ⟨rfl, hs5, hk5⟩
      have hlt5 := hs5.ls
      have hge5 := hs5.bs
      have HK := Hid_mk (And.intro hs5 (HB.out.2.1.trans hk5))
      clear hs5 hk5
      obtain ⟨i0, hi, hz0, hz1, hz2⟩ := info_parts infoInt
      go_wp2_with (at_make; refine wpList_make_own _ rfl (.const (.int .i64 0)) (.tmp 61) 34 rfl W2.heap.size 3 i0 (.int .i64 0) 1 Try.underlying34 hi hz0 hz1 .i64 .i64 (L : Int) L rfl rfl rfl ?c3 ?c4 ?c5 ?_)
      case c3 => first | omega | (rw [hz2]; omega)
      case c4 => unfold maxLen; omega
      case c5 => omega
      intro W6 hown hgrow
      have hm6 := Mod.made hown
      have hs6 := HK.out.1.grown hgrow (fun b h => by cases h)
      have hb6 : Below W2.heap.size W2 W6 := HK.out.2.below.grown hgrow (by omega) (fun b h => by cases h)
      generalize hgm : W5.heap.size = gm at hm6
      have H3 := Hid_mk (And.intro H0.out.2.2.2.2.2 (And.intro hm6 (And.intro hs6 (And.intro hb6 (And.intro hgm (And.intro hi hz1))))))
      clear hown hgrow hm6 hs6 hb6 hgm hi hz0 hz1 hz2 hlt5 hge5
      go_wp2_with fail
      go_loopg [9, 10] L (fun gk v i wr => ∃ (m n k sp : Nat) (B' : Nat → Nat) (F : Nat → Frm) (ms : List Int), m + gk = L ∧ v = .slice (some ⟨gm, 0, none⟩) n L ∧ i = .int .i64 m ∧ ms.length = n ∧ Mod wr W2.heap.size gm L ms ∧ Stk W2.heap.size wr s N k sp g B' F ∧ 8 * k + sp = n ∧ n ≤ m ∧ n ≤ C ∧ (∀ j, j < n → (F j).1 = ms.getD j 0) ∧ Below W2.heap.size W2 wr)
      case atStart => exact ⟨0, 0, 0, 0, B, fun _ => (0, 0, 0), [], by omega, rfl, rfl, rfl, H3.out.2.1, H3.out.2.2.1, by omega, by omega, by omega, fun j hj => by omega, H3.out.2.2.2.1⟩
      case round =>
        obtain ⟨m, n, k, sp, B', F, ms, hmg, rfl, rfl, hml, hmod, hs, hd, hnm, hn8, hF, hb⟩ := hrel
        by_cases hlt : m < L
        · obtain ⟨b, hab, hcell⟩ := (HR.out.1.below hb HR.out.2.2.2.2).at (i := m) (by rw [HR.out.2.1]; exact hlt)
          have hb0 : b = w.heap.size := by simpa using hab.symm
          subst hb0
          clear hab
          obtain ⟨y, hy1, hy2⟩ := HR.out.2.2.1 m hlt
          rw [hy1] at hcell
          clear hy1
          by_cases e0 : y % 3 = 0
          · have q0 : (y : Int) % 3 = 0 := by omega
            by_cases hroom : n < C
            · have hq : (((n : Int) + 1) == 0) = false := by simp; omega
              have hpush := push_any _ s N k sp g B' F 0 (m : Int) 0 0 wr hs (by have := H3.out.1; omega)
              have HH := Hid_mk (And.intro hmg (And.intro hml (And.intro hmod (And.intro hd (And.intro hF (And.intro hb hpush))))))
              clear hmg hml hmod hs hd hF hb hpush
              go_wp2_with fail
              refine HH.out.2.2.2.2.2.2.mono ?_
              rintro e W5 ⟨rfl, k2, sp2, B2, hs5, hd5, h12, hkk2, hB2, hk5⟩
              have hm5 := HH.out.2.2.1.keeps hk5
              have hb5 := HH.out.2.2.2.2.2.1.trans hk5.below
              have hml5 := HH.out.2.1
              have hd5' : 8 * k2 + sp2 = n + 1 := by have := HH.out.2.2.2.1; omega
              unfold Mod at hm5
              rw [hml5] at hm5
              have H5 := Hid_mk (And.intro hs5 (And.intro hd5' (And.intro hm5 hb5)))
              clear hs5 hd5 h12 hkk2 hB2 hk5 hm5 hb5 hml5 hd5'
              go_wp2_with (at_builtin; refine wpList_append_fits _ rfl (.tmp 88) (.tmp 90) 34 rfl W2.heap.size 3 i0 1 Try.underlying34 H3.out.2.2.2.2.2.1 H3.out.2.2.2.2.2.2 gm n L (ms.map (Value.int .i64)) rfl (H5.out.2.2.1.alloc _) ⟨W5.heap.size, 0, none⟩ 1 1 [.int .i64 (m : Int)] rfl rfl ?d1 ?d2 ?d3 ?_)
              case d1 => intro j u hj; match j, hj with | 0, hj => simp at hj; subst hj; simp [Addr.add]
              case d2 => intro u hu; simp at hu; subst hu; rfl
              case d3 => have := HH.out.1; omega
              intro W6 hown6 hgrow6
              have hm6 : Mod W6 W2.heap.size gm L (ms ++ [(m : Int)]) := Mod.pushed (by rw [HH.out.2.1]; exact hown6)
              have hgmB : ∃ C : Array Value, (W5.alloc (.cells #[.int .i64 (m : Int)] 3)).heap[gm]? = some (.cells C 3 (0, 0)) := by
                have h5 : Mod W5 W2.heap.size gm L ms := by unfold Mod; rw [HH.out.2.1]; exact H5.out.2.2.1
                exact (h5.alloc _).blk
              have hs6 := (H5.out.1.alloc (.cells #[.int .i64 (m : Int)] 3)).grown hgrow6 (fun b hb => by
                have : b = gm := by simpa using hb.symm
                subst this
                obtain ⟨C, hC⟩ := hgmB
                exact ⟨C, _, _, hC, by decide⟩)
              have hgeM := (HH.out.2.2.1).ge
              have hbz : W2.heap.size ≤ W5.heap.size := by
                have h1 := H5.out.1.bs
                have h2 := H5.out.1.ls
                omega
              have hb6a : Below W2.heap.size W2 (W5.alloc (.cells #[.int .i64 (m : Int)] 3)) := H5.out.2.2.2.alloc hbz _
              have hb6 : Below W2.heap.size W2 W6 := by
                refine hb6a.grown hgrow6 (by simp; omega) ?_
                intro b hb
                have : b = gm := by simpa using hb.symm
                omega
              clear hbz hb6a
              have hs6' : Stk W2.heap.size W6 s N k2 sp2 g B2 (upd F n ((m : Int), 0, 0)) := by
                have := HH.out.2.2.2.1
                rw [this] at hs6; exact hs6
              have hF6 : ∀ j, j < n + 1 → (upd F n ((m : Int), 0, 0) j).1 = (ms ++ [(m : Int)]).getD j 0 := by
                intro j hj
                have hl := HH.out.2.1
                unfold upd
                by_cases hjn : j = n
                · rw [if_pos hjn, hjn, ← hl, getD_snoc_last]
                · rw [if_neg hjn, getD_snoc_lt _ _ (by omega)]
                  exact HH.out.2.2.2.2.1 j (by omega)
              have hl6 : (ms ++ [(m : Int)]).length = n + 1 := by rw [List.length_append, HH.out.2.1]; rfl
              have hfx : (upd F n ((m : Int), 0, 0) n).1 = (m : Int) := by unfold upd; rw [if_pos rfl]
              have hgd : (ms ++ [(m : Int)]).getD n 0 = (m : Int) := by rw [← HH.out.2.1, getD_snoc_last]
              have hd6 := H5.out.2.1
              have H6 := Hid_mk (And.intro hm6 (And.intro hb6 (And.intro hF6 hl6)))
              clear hown6 hgrow6 hm6 hgmB hs6 hb6 hF6 hl6 hgeM
              have HT0 := Hid_mk (show 8 * k2 + sp2 = n + 1 by omega)
              have hsp := sp_any _ s N _ _ g B2 _ W6 hs6' (n + 1) (by omega)
              have hz : decide (8 * k2 + sp2 = 0) = false := decide_eq_false (by omega)
              have hqt : (((n : Nat) : Int) + 1 == 0) = false := by simp; omega
              have HT1 := Hid_mk (And.intro hsp hz)
              clear hsp hz hfx hgd hs6' hd6
              go_wp2_with fail
              refine HT1.out.1.mono ?_
              rintro e w7 ⟨rfl, hs7, hk7⟩
              have hem := empty_any _ s N _ _ g B2 _ w7 hs7
              rw [HT1.out.2] at hem
              have HT2 := Hid_mk (And.intro hs7 (And.intro hk7 hem))
              clear hs7 hk7 hem
              go_wp2_with fail
              refine HT2.out.2.2.mono ?_
              rintro e w' ⟨rfl, rfl⟩
              go_wp2_with fail
              refine (full_any _ s N _ _ g B2 _ _ HT2.out.1).mono ?_
              rintro e w8 ⟨rfl, hs8, hk8⟩
              have HT3 := Hid_mk (And.intro hs8 (HT2.out.2.1.trans hk8))
              clear hs8 hk8
              go_wp2_with fail
              go_roundg (gk - 1)
              case rel => exact ⟨m + 1, n + 1, k2, sp2, B2, _, ms ++ [(m : Int)], by have := HH.out.1; omega, rfl, by go_num, H6.out.2.2.2, H6.out.1.keeps HT3.out.2, HT3.out.1, HT0.out, by omega, by omega, H6.out.2.2.1, H6.out.2.1.trans HT3.out.2.below⟩
              case measure => have := HH.out.1; omega
            · obtain ⟨q, rfl⟩ : ∃ q, n = q + 1 := ⟨n - 1, by have := H3.out.1; omega⟩
              have HH := Hid_mk (And.intro hmg (And.intro hml (And.intro hmod (And.intro hF hb))))
              clear hmg hml hmod hF hb
              have HT0 := Hid_mk (show 8 * k + sp = q + 1 by omega)
              have hsp := sp_any _ s N _ _ g B' _ wr hs (q + 1) (by omega)
              have hz : decide (8 * k + sp = 0) = false := decide_eq_false (by omega)
              have hqt : (((q : Nat) : Int) + 1 == 0) = false := by simp; omega
              have HT1 := Hid_mk (And.intro hsp hz)
              clear hsp hz   hs hd
              go_wp2_with fail
              refine HT1.out.1.mono ?_
              rintro e w7 ⟨rfl, hs7, hk7⟩
              have hem := empty_any _ s N _ _ g B' _ w7 hs7
              rw [HT1.out.2] at hem
              have HT2 := Hid_mk (And.intro hs7 (And.intro hk7 hem))
              clear hs7 hk7 hem
              go_wp2_with fail
              refine HT2.out.2.2.mono ?_
              rintro e w' ⟨rfl, rfl⟩
              go_wp2_with fail
              refine (full_any _ s N _ _ g B' _ _ HT2.out.1).mono ?_
              rintro e w8 ⟨rfl, hs8, hk8⟩
              have HT3 := Hid_mk (And.intro hs8 (HT2.out.2.1.trans hk8))
              clear hs8 hk8
              go_wp2_with fail
              go_roundg (gk - 1)
              case rel => exact ⟨m + 1, q + 1, k, sp, B', F, ms, by have := HH.out.1; omega, rfl, by go_num, HH.out.2.1, HH.out.2.2.1.keeps HT3.out.2, HT3.out.1, HT0.out, by omega, by omega, HH.out.2.2.2.1, HH.out.2.2.2.2.trans HT3.out.2.below⟩
              case measure => have := HH.out.1; omega
          by_cases e1 : y % 3 = 1
          · have q0 : (y : Int) % 3 = 1 := by omega
            cases n with
            | zero =>
              obtain ⟨rfl, rfl⟩ : k = 0 ∧ sp = 0 := by omega
              have hpop := pop_nil _ s N g B' F wr hs
              have HH := Hid_mk (And.intro hmg (And.intro hml (And.intro hmod (And.intro hF (And.intro hb hpop)))))
              clear hmg hml hmod hs hd hF hb hpop
              go_wp2_with fail
              refine HH.out.2.2.2.2.2.mono ?_
              rintro e W7 ⟨rfl, hs7, hk7⟩
              have H5 := Hid_mk (And.intro (HH.out.2.2.1.keeps hk7) (HH.out.2.2.2.2.1.trans hk7.below))
              clear hk7
              have hsp := sp_any _ s N 0 0 g B' F W7 hs7 0 (by omega)
              have HT1 := Hid_mk hsp
              clear hsp
              go_wp2_with fail
              refine HT1.out.mono ?_
              rintro e w7 ⟨rfl, hs7, hk7⟩
              have hem := empty_any _ s N 0 0 g B' _ w7 hs7
              have HT2 := Hid_mk (And.intro hs7 (And.intro hk7 hem))
              clear hs7 hk7 hem
              go_wp2_with fail
              refine HT2.out.2.2.mono ?_
              rintro e w' ⟨rfl, rfl⟩
              go_wp2_with fail
              refine (full_any _ s N 0 0 g B' _ _ HT2.out.1).mono ?_
              rintro e w8 ⟨rfl, hs8, hk8⟩
              have HT3 := Hid_mk (And.intro hs8 (HT2.out.2.1.trans hk8))
              clear hs8 hk8
              go_wp2_with fail
              go_roundg (gk - 1)
              case rel => exact ⟨m + 1, 0, 0, 0, B', F, ms, by have := HH.out.1; omega, rfl, by go_num, HH.out.2.1, H5.out.1.keeps HT3.out.2, HT3.out.1, by omega, by omega, by omega, HH.out.2.2.2.1, H5.out.2.trans HT3.out.2.below⟩
              case measure => have := HH.out.1; omega
            | succ q =>
              obtain ⟨ns, x, rfl, hnl⟩ := snoc_of hml
              have fx := hF q (by omega)
              have hgd0 : (ns ++ [x]).getD q 0 = x := by rw [← hnl, getD_snoc_last]
              rw [hgd0] at fx
              have hpop := pop_any _ s N k sp g B' F wr hs (by omega)
              have HH := Hid_mk (And.intro hmg (And.intro hnl (And.intro hmod (And.intro hd (And.intro hF (And.intro hb hpop))))))
              clear hmg hml hmod hs hd hF hb hpop
              have hq1 : ((((q : Nat) : Int) + 1) == 0) = false := by simp; omega
              go_wp2_with fail
              refine HH.out.2.2.2.2.2.2.mono ?_
              rintro e W7 ⟨k2, sp2, rfl, hs5, hd5, hkk5, h85, hfc, hk5⟩
              have hq5 : 8 * k2 + sp2 = q := by have := HH.out.2.2.2.1; omega
              obtain ⟨fi, fp, hx1, hx2⟩ := hfc
              clear hx1 hx2
              rw [hq5] at fi fp
              rw [fx] at fp
              have hm5 := HH.out.2.2.1.keeps hk5
              have hc5 := hm5.cell (j := q) (by rw [List.length_append, HH.out.2.1]; simp)
              rw [hgd0] at hc5
              have hF5 : ∀ j, j < q → (F j).1 = ns.getD j 0 := fun j hj => by
                have h1 := HH.out.2.2.2.2.1 j (by omega)
                rw [getD_snoc_lt _ _ (by have := HH.out.2.1; omega)] at h1
                exact h1
              have H5 := Hid_mk (And.intro hs5 (And.intro hq5 (And.intro hm5.pop (And.intro (HH.out.2.2.2.2.2.1.trans hk5.below) hF5))))
              clear hs5 hd5 hkk5 hq5 hm5 hk5 fx hgd0 h85 hF5
              generalize B' k2 = bk at fi fp
              go_wp2_with fail
              go_quiet (fail)
              go_wp2_with fail
              generalize hWq : World.drewN W7 _ = Wq
              have hsq : Stk W2.heap.size Wq s N k2 sp2 g B' F := by rw [← hWq]; exact H5.out.1.heap rfl
              have hmq : Mod Wq W2.heap.size gm L ns := by rw [← hWq]; exact H5.out.2.2.1.heap rfl
              have hbq : Below W2.heap.size W2 Wq := by rw [← hWq]; exact below_drewN H5.out.2.2.2.1 _
              have hqq := H5.out.2.1
              clear hWq fi fp hc5
              have H7 := Hid_mk (And.intro hmq hbq)
              clear hmq hbq
              cases q with
              | zero =>
                obtain ⟨rfl, rfl⟩ : k2 = 0 ∧ sp2 = 0 := by omega
                clear hqq
                have hsp := sp_any _ s N 0 0 g B' F Wq hsq 0 (by omega)
                have HT1 := Hid_mk hsp
                clear hsp
                go_wp2_with fail
                refine HT1.out.mono ?_
                rintro e w7 ⟨rfl, hs7, hk7⟩
                have hem := empty_any _ s N 0 0 g B' _ w7 hs7
                have HT2 := Hid_mk (And.intro hs7 (And.intro hk7 hem))
                clear hs7 hk7 hem
                go_wp2_with fail
                refine HT2.out.2.2.mono ?_
                rintro e w' ⟨rfl, rfl⟩
                go_wp2_with fail
                refine (full_any _ s N 0 0 g B' _ _ HT2.out.1).mono ?_
                rintro e w8 ⟨rfl, hs8, hk8⟩
                have HT3 := Hid_mk (And.intro hs8 (HT2.out.2.1.trans hk8))
                clear hs8 hk8
                go_wp2_with fail
                go_roundg (gk - 1)
                case rel => exact ⟨m + 1, 0, 0, 0, B', F, ns, by have := HH.out.1; omega, rfl, by go_num, HH.out.2.1, H7.out.1.keeps HT3.out.2, HT3.out.1, by omega, by omega, by omega, H5.out.2.2.2.2, H7.out.2.trans HT3.out.2.below⟩
                case measure => have := HH.out.1; omega
              | succ r =>
                have HT0 := Hid_mk (show 8 * k2 + sp2 = r + 1 by omega)
                have hsp := sp_any _ s N _ _ g B' _ Wq hsq (r + 1) (by omega)
                have hz : decide (8 * k2 + sp2 = 0) = false := decide_eq_false (by omega)
                have hqt : (((r : Nat) : Int) + 1 == 0) = false := by simp; omega
                have HT1 := Hid_mk (And.intro hsp hz)
                clear hsp hz   hsq hqq
                go_wp2_with fail
                refine HT1.out.1.mono ?_
                rintro e w7 ⟨rfl, hs7, hk7⟩
                have hem := empty_any _ s N _ _ g B' _ w7 hs7
                rw [HT1.out.2] at hem
                have HT2 := Hid_mk (And.intro hs7 (And.intro hk7 hem))
                clear hs7 hk7 hem
                go_wp2_with fail
                refine HT2.out.2.2.mono ?_
                rintro e w' ⟨rfl, rfl⟩
                go_wp2_with fail
                refine (full_any _ s N _ _ g B' _ _ HT2.out.1).mono ?_
                rintro e w8 ⟨rfl, hs8, hk8⟩
                have HT3 := Hid_mk (And.intro hs8 (HT2.out.2.1.trans hk8))
                clear hs8 hk8
                go_wp2_with fail
                go_roundg (gk - 1)
                case rel => exact ⟨m + 1, r + 1, k2, sp2, B', F, ns, by have := HH.out.1; omega, rfl, by go_num, HH.out.2.1, H7.out.1.keeps HT3.out.2, HT3.out.1, HT0.out, by omega, by omega, H5.out.2.2.2.2, H7.out.2.trans HT3.out.2.below⟩
                case measure => have := HH.out.1; omega
          · have q0 : (y : Int) % 3 = 2 := by omega
            have hcl := clear_any _ s N k sp g B' F wr hs
            have HH := Hid_mk (And.intro hmg (And.intro (Mod.zero hmod) (And.intro hb hcl)))
            clear hmg hml hmod hs hd hF hb hcl
            go_wp2_with fail
            refine HH.out.2.2.2.mono ?_
            rintro e W7 ⟨rfl, hs7, hk7⟩
            have H5 := Hid_mk (And.intro (HH.out.2.1.keeps hk7) (HH.out.2.2.1.trans hk7.below))
            clear hk7
            have hsp := sp_any _ s N 0 0 g B' F W7 hs7 0 (by omega)
            have HT1 := Hid_mk hsp
            clear hsp
            go_wp2_with fail
            refine HT1.out.mono ?_
            rintro e w7 ⟨rfl, hs7, hk7⟩
            have hem := empty_any _ s N 0 0 g B' _ w7 hs7
            have HT2 := Hid_mk (And.intro hs7 (And.intro hk7 hem))
            clear hs7 hk7 hem
            go_wp2_with fail
            refine HT2.out.2.2.mono ?_
            rintro e w' ⟨rfl, rfl⟩
            go_wp2_with fail
            refine (full_any _ s N 0 0 g B' _ _ HT2.out.1).mono ?_
            rintro e w8 ⟨rfl, hs8, hk8⟩
            have HT3 := Hid_mk (And.intro hs8 (HT2.out.2.1.trans hk8))
            clear hs8 hk8
            go_wp2_with fail
            go_roundg (gk - 1)
            case rel => exact ⟨m + 1, 0, 0, 0, B', F, [], by have := HH.out.1; omega, rfl, by go_num, rfl, H5.out.1.keeps HT3.out.2, HT3.out.1, by omega, by omega, by omega, (fun j hj => by omega), H5.out.2.trans HT3.out.2.below⟩
            case measure => have := HH.out.1; omega
        · have HE := Hid_mk hb
          clear hmg hml hmod hs hd hF hb
          go_wp2_with fail
          go_ret
          refine ⟨rfl, HR.out.2.2.2.1.trans ?_⟩
          exact HE.out.mono HR.out.2.2.2.1.size

end Go.Proofs.Ytifdflmleplpkaa.fnAutoStackScriptMatchesCountingModel
