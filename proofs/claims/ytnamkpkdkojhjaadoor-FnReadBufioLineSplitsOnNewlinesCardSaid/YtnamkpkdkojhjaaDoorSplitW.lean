/- The walk of FnReadBufioLineSplitsOnNewlines. -/
import Derived.Test.YtnamkpkdkojhjaaDoorSplitL
namespace Go.Proofs.YtnamkpkdkojhjaaDoor
open Go.RowKit

theorem Fr.app {S : List Nat} {w W W' : World} {v : Value} (hf : Fr S w W) (hg : W.grownBy W' v.ownBlock) (hv : ∀ g, v.ownBlock = some g → w.heap.size ≤ g) : Fr S w W' := by
  refine hf.comp (T := match v.ownBlock with | some g => [g] | none => []) ((Fr.refl _ _).grown hg (fun g h => by rw [h]; simp)) ?_
  intro x hx
  cases hb : v.ownBlock with
  | none => rw [hb] at hx; cases hx
  | some g =>
    rw [hb] at hx
    simp at hx
    subst hx
    exact .inr (hv x hb)
theorem Liner.app {W W' : World} {v : Value} {R Bf Y B : Nat} {sv : Value} {bs : List Int} {c : Nat} {ev : Value} (h : Liner W R Bf Y sv bs c ev) (hg : W.grownBy W' v.ownBlock) (hv : ∀ g, v.ownBlock = some g → B ≤ g) (h1 : R < B) (h2 : Bf < B) (h3 : Y < B) :
    Liner W' R Bf Y sv bs c ev := by
  refine h.fr (S := match v.ownBlock with | some g => [g] | none => []) ((Fr.refl _ _).grown hg (fun g h => by rw [h]; simp)) ?_ ?_ ?_
  all_goals
    cases hb : v.ownBlock with
    | none => simp
    | some g =>
      have := hv g hb
      simp; omega

set_option maxRecDepth 100000 in
set_option maxHeartbeats 4000000 in
theorem split_walk (a0 : Option Addr) (len0 cap0 : Nat) (z0 : List Int) (ae af : Addr) (w : World) (w0 : IsRow w a0 len0 cap0 z0) (hg : w.cell? ⟨0, 0, none⟩ = some (.iface 55 (.pointer (some ae)))) (hn : Sen w.heap.size w ae af) :
    Calls Tryd.prog 6 #[.slice a0 len0 cap0] w fun e w' => e = .returned (.bool true) ∧ Below w.heap.size w w' := by
  obtain ⟨hm0, hl0⟩ := w0.size
  obtain ⟨i0, hi, hz0, hz1, hz2⟩ := info_parts infoByte
  by_cases g0 : 1048576 < len0
  · go_enter Tryd.func6, Tryd.ntmps6
    go_wp2
    go_ret
    exact ⟨rfl, Below.refl _ _⟩
  have hcl := clone_any a0 len0 cap0 z0 w (by omega) w0
  have hby := w0.byte
  have hpos := World.block_lt_of_cell? w _ hg
  have hcell : ∀ j, j < len0 → ∃ x, a0 = some x ∧ w.cell? (x.add j) = some (.int .u8 ((z0.take len0).getD j 0)) := by
    intro j hj
    rcases w0 with ⟨_, h1, _, _⟩ | ⟨x, h1, h2, h3, h4, h5, _⟩
    · omega
    · refine ⟨x, h1, ?_⟩
      rw [h5 j (by omega), List.getD_eq_getElem?_getD, List.getD_eq_getElem?_getD, List.getElem?_take, if_pos hj]
  generalize z0.take len0 = bs at hcl hby hl0 hcell
  have H0 := Hid_mk (And.intro hcl (And.intro hby (And.intro hl0 (And.intro hg (And.intro hn hcell)))))
  clear hcl hby hl0 hg w0 hn hcell
  go_enter Tryd.func6, Tryd.ntmps6
  go_wp2_with (go_at_call 15; go_in)
  go_loopg [2, 3] len0 (fun gk v2 v3 wr => w = wr ∧ ∃ k : Nat, k + gk = len0 ∧ v3 = .int .i64 (k : Int) ∧ ∀ j, j < k → bs.getD j 0 ≠ 13)
  case atStart => exact ⟨rfl, 0, by omega, rfl, fun j hj => by omega⟩
  case round =>
    obtain ⟨rfl, k, hk, rfl, hno⟩ := hrel
    by_cases hlt : k < len0
    · obtain ⟨x, rfl, hc⟩ := H0.out.2.2.2.2.2 k hlt
      obtain ⟨z, hzz⟩ : ∃ z, z = bs.getD k 0 := ⟨_, rfl⟩
      rw [← hzz] at hc
      have HK := Hid_mk (And.intro hk (And.intro hno hzz))
      clear hk hno hzz
      by_cases hz : z = 13
      · subst hz
        go_wp2_with fail
        go_ret
        exact ⟨rfl, Below.refl _ _⟩
      · have hzb : (z == 13) = false := by simp [hz]
        go_wp2_with fail
        go_roundg (gk - 1)
        case rel =>
          refine ⟨rfl, k + 1, by have := HK.out.1; omega, by go_num, fun j hj => ?_⟩
          by_cases hjk : j < k
          · exact HK.out.2.1 j hjk
          · obtain rfl : j = k := by omega
            rw [← HK.out.2.2]
            exact hz
        case measure => have := HK.out.1; omega
    · obtain rfl : k = len0 := by omega
      have HCR := Hid_mk hno
      clear hk hno
      go_wp2_with fail
      refine H0.out.1.mono ?_
      rintro e W1 ⟨sa, rfl, hf1, hrow⟩
      have hL := H0.out.2.2.1
      have hsrc : Src W1.heap.size W1 (.slice sa bs.length bs.length) bs (.iface 55 (.pointer (some ae))) := by
        refine ⟨?_, Nat.lt_of_lt_of_le hpos hf1.size, Nat.le_refl _, (World.cell?_of_block (hf1.block 0 hpos (by simp))).trans H0.out.2.2.2.1, by omega, H0.out.2.1⟩
        rcases hrow with ⟨h1, h2⟩ | ⟨Sb, h1, h2⟩
        · subst h1; subst h2; exact .inl ⟨rfl, rfl⟩
        · subst h1; exact .inr ⟨Sb, rfl, h2, lt_of_block h2⟩
      have hsen : Sen W1.heap.size W1 ae af := (H0.out.2.2.2.2.1.below (hf1.below (Nat.le_refl _) (by simp))).up hf1.size
      have hnew := new_any sa bs W1
      have H1 := Hid_mk (And.intro hf1 (And.intro hrow (And.intro hsrc (And.intro hsen hnew))))
      clear hf1 hrow hsrc hnew hsen
      generalize hLL : bs.length = L at hL
      have HL := Hid_mk hLL
      have H1' := H1
      rw [hLL] at H1'
      clear hLL
      subst hL
      go_wp2_with fail
      refine H1'.out.2.2.2.2.mono ?_
      rintro e W2 ⟨R, Bf, Y, rfl, hr2, hf2, hge⟩
      rw [← HL.out] at hr2
      have hlt2 := hr2.ln.lt
      have hs2 := H1.out.2.2.1.below (hf2.below (Nat.le_refl _) (by simp))
      have hn2 := H1.out.2.2.2.1.below (hf2.below (Nat.le_refl _) (by simp))
      have HN := Hid_mk (And.intro hf2 (And.intro hge (And.intro hr2.ln (And.intro hs2 hn2))))
      have HC := Hid_mk (show (L : Int) + 1 = ((L + 1 : Nat) : Int) by omega)
      clear hr2 hf2 hge hs2 hn2
      go_wp2_with (at_make; refine wpList_make_own _ rfl (.const (.int .i64 0)) (.tmp 39) 22 rfl W2.heap.size 5 i0 (.int .u8 0) 1 Tryd.underlying22 hi hz0 hz1 .i64 .i64 ((L : Int) + 1) (L + 1) rfl rfl HC.out ?c1 ?c2 (Nat.le_refl _) ?_)
      case c1 => rw [hz2]; omega
      case c2 => unfold maxLen; omega
      intro W3 hown hgrow
      have hf3 := (Fr.refl [R, Y, Bf] W2).grown hgrow (fun g h => by cases h)
      have hr3 : Liner W3 R Bf Y (.slice sa bs.length bs.length) bs 0 .nilIface := HN.out.2.2.1.fr ((Fr.refl [] W2).grown hgrow (fun g h => by cases h)) (by simp) (by simp) (by simp)
      have H3 := Hid_mk (And.intro hown (And.intro hf3 hr3))
      clear hown hgrow hf3 hr3
      go_wp2_with fail
      go_loopg [5, 6, 7, 8] L (fun gk v5 v6 v7 v8 wr => ∃ t c k : Nat, c + gk = L ∧ SpSt bs t c k ∧ v6 = .int .i64 (t : Int) ∧ v7 = .bool false ∧ v8 = .int .i64 (t : Int) ∧ wr.ownsRow W2.heap.size 5 1 v5 k (seg bs 0 k) ∧ Liner wr R Bf Y (.slice sa bs.length bs.length) bs c .nilIface ∧ Fr [R, Y, Bf] W2 wr)
      case atStart => exact ⟨0, 0, 0, by omega, .inl ⟨rfl, rfl, rfl⟩, rfl, rfl, rfl, H3.out.1, H3.out.2.2, H3.out.2.1⟩
      case round =>
        obtain ⟨t, c, k, hck, hst, rfl, rfl, rfl, ho, hr, hf⟩ := hrel
        obtain ⟨ga, gc, rfl, hga⟩ := own_form ho
        obtain ⟨htc, hkc, _⟩ := hst.le
        have htL : (t : Int) ≤ (L : Int) + 1 := by omega
        have hW2 : W1.heap.size ≤ W2.heap.size := HN.out.1.size
        have hsr : Src W1.heap.size wr (.slice sa bs.length bs.length) bs (.iface 55 (.pointer (some ae))) := HN.out.2.2.2.1.below (hf.below hW2 HN.out.2.1)
        have hsn : Sen W1.heap.size wr ae af := HN.out.2.2.2.2.below (hf.below hW2 HN.out.2.1)
        have hread := zline_any W1.heap.size R Bf Y _ bs ae af c wr hsr hsn hr HN.out.2.1
        have HH := Hid_mk (And.intro hck (And.intro hst (And.intro ho (And.intro hr (And.intro hf (And.intro hga hread))))))
        have hcL : c ≤ L := by omega
        clear hck hst ho hr hf hga hsr hsn hread
        go_wp2_with fail
        refine HH.out.2.2.2.2.2.2.mono ?_
        rintro e W4 ⟨v, n, c2, hvn, rfl, ho4, hl4, hr4, hf4⟩
        obtain ⟨xa, xc, rfl, hxa⟩ := own_form ho4
        have hacc := own_fr HH.out.2.2.1 hf4 (by
          intro g hg
          have := (HH.out.2.2.1.lt g hg).1
          simp; omega)
        have hf5 := HH.out.2.2.2.2.1.trans hf4
        by_cases hcl : c = L
        · have hbe : decide (c = bs.length) = true := decide_eq_true (by rw [hcl, HL.out])
          rw [hbe]
          have hst := HH.out.2.1
          rw [hcl] at hst
          have hFr : ∀ W : World, Fr [R, Y, Bf] W2 W → Fr [] w W := fun W h => (H1.out.1.comp HN.out.1 (by simp)).comp h (fun x hx => .inr (Nat.le_trans H1.out.1.size (HN.out.2.1 x hx)))
          have hLi : ∀ W : World, Fr [R, Y, Bf] W2 W → Lies W sa bs := by
            intro W h
            rcases H1.out.2.1 with ⟨h1, h2⟩ | ⟨Sb, h1, h2⟩
            · rw [h2]; intro i hi; simp at hi
            · rw [h1]
              have hlt := lt_of_block h2
              have hSb := h.at (HN.out.1.at h2 (by simp)) (fun hm => by have := HN.out.2.1 Sb hm; omega)
              have := row_lies (m := bs.length) hSb (Nat.le_refl _)
              rwa [List.take_length] at this
          have F4 := hFr W4 hf5
          have hlB := hLi W4 hf5
          have HFL := Hid_mk (And.intro hFr hLi)
          have hgS : ∀ g, (Value.slice ga k gc).ownBlock = some g → W2.heap.size ≤ g := fun g hg => (HH.out.2.2.1.lt g hg).1
          have HGS := Hid_mk hgS
          clear hFr hLi hgS
          have hW4 : W2.heap.size ≤ W4.heap.size := hf5.size
          have H4 := Hid_mk (And.intro hacc (And.intro hst (And.intro F4 (And.intro hlB hf5))))
          clear hacc hst F4 hlB hf5 ho4 hr4 hf4 hxa hbe hl4 hvn
          go_wp2_with fail
          go_loopg [12, 13] L (fun gk v12 v13 wr => W4 = wr ∧ ∃ j q : Nat, j + gk = L ∧ q ≤ j ∧ q = (bs.take j).count 10 ∧ v12 = .int .i64 (q : Int) ∧ v13 = .int .i64 (j : Int))
          case atStart => exact ⟨rfl, 0, 0, by omega, Nat.le_refl _, rfl, rfl, rfl⟩
          case round =>
            obtain ⟨rfl, j, q, hj, hqj, hq, rfl, rfl⟩ := hrel
            by_cases hjl : j < L
            · obtain ⟨b1, o1, ha1, hc1⟩ := H4.out.2.2.2.1 j (by have := HL.out; omega)
              have hcs := count_succ (bs := bs) (c := j) (by have := HL.out; omega)
              subst ha1
              obtain ⟨z, hzz⟩ : ∃ z, z = bs.getD j 0 := ⟨_, rfl⟩
              rw [← hzz] at hc1 hcs
              have HJ := Hid_mk (And.intro hj (And.intro hq hcs))
              clear hj hq hcs hzz
              by_cases hz : z = 10
              · subst hz
                go_wp2_with fail
                go_roundg (L - (j + 1))
                case rel => exact ⟨rfl, j + 1, q + 1, by omega, by omega, by rw [HJ.out.2.2, ← HJ.out.2.1]; rfl, by go_num, by go_num⟩
                case measure => have := HJ.out.1; omega
              · have hzb : (z == 10) = false := by simp [hz]
                go_wp2_with fail
                go_roundg (L - (j + 1))
                case rel => exact ⟨rfl, j + 1, q, by omega, by omega, by rw [HJ.out.2.2, ← HJ.out.2.1, if_neg hz]; rfl, rfl, by go_num⟩
                case measure => have := HJ.out.1; omega
            · obtain rfl : L = j := by omega
              rcases H4.out.2.1 with ⟨ht0, hL0, hk0⟩ | ⟨ht0, hLk, _, hten, htq⟩ | ⟨ht0, hkL, _, hL0, hten, htq⟩
              · have hq0 : q = 0 := by omega
                have hsame := same_true ga sa gc L bs W4 (by have := HL.out; omega) (by intro i hi; have := HL.out; omega) H4.out.2.2.2.1
                rw [HL.out] at hsame
                subst hq0
                subst ht0
                subst hk0
                subst hL0
                have HS := Hid_mk hsame
                clear hsame hj hqj hq hcl hcL
                go_wp2_with fail
                refine HS.out.mono ?_
                rintro e W5 ⟨rfl, hh5, hf5⟩
                have H5 := Hid_mk (H4.out.2.2.1.comp hf5 (by simp))
                clear hh5 hf5
                go_wp2_with fail
                go_ret
                exact ⟨rfl, H5.out.below (Nat.le_refl _) (by simp)⟩
              · have hk1 : k < bs.length := by have := HL.out; omega
                obtain ⟨b1, o1, ha1, hc1⟩ := H4.out.2.2.2.1 k hk1
                rw [hten] at hc1
                subst ha1
                have htq2 : t = q := by rw [htq, hq]
                subst htq2
                subst hLk
                have HT := Hid_mk (And.intro hten hk1)
                have hkb : k + 1 ≤ 1048576 := by omega
                clear hj hqj hq hcl hcL htq hten hk1
                go_wp2_with (at_builtin; refine wpList_append_own _ rfl (.tmp 108) (.tmp 109) 22 rfl W2.heap.size 5 i0 (.int .u8 0) 1 1 Tryd.underlying22 hi hz0 hz1 hz2 rfl (by omega) (.slice ga k gc) k (seg bs 0 k) rfl (H4.out.1.alloc _) ⟨W4.heap.size, 0, none⟩ 1 1 [.int .u8 10] rfl rfl ?c1 ?c2 ?c3 ?c4 ?c5 ?_)
                case c1 =>
                  intro j u hj
                  match j, hj with
                  | 0, hj =>
                    simp at hj
                    subst hj
                    simp [World.cell?_alloc_new, Addr.add]
                  | j + 1, hj => simp at hj
                case c2 => intro u hu; simp at hu; subst hu; rfl
                case c3 => unfold maxLen; omega
                case c4 => omega
                case c5 => simp; omega
                intro v5 w5 hown5 hgrow5 _
                rw [seg_ten HT.out.2 HT.out.1] at hown5
                have F5 : Fr [R, Y, Bf] W2 w5 := (H4.out.2.2.2.2.alloc _).app hgrow5 HGS.out
                obtain ⟨gb, gd, rfl, hgb⟩ := own_form hown5
                have hlA := own_lies (xs := bs) (by rw [← HL.out, seg_all] at hown5; rw [HL.out] at hown5; exact hown5) HL.out
                have hsame := same_true gb (some ⟨b1, o1, none⟩) gd (k + 1) bs w5 (by have := HL.out; omega) hlA (HFL.out.2 w5 F5)
                rw [HL.out] at hsame
                have HS := Hid_mk (And.intro hsame (HFL.out.1 w5 F5))
                clear hsame hlA F5 hown5 hgrow5 hgb
                go_wp2_with fail
                refine HS.out.1.mono ?_
                rintro e W5 ⟨rfl, hh5, hf5⟩
                have H5 := Hid_mk (HS.out.2.comp hf5 (by simp))
                clear hh5 hf5
                go_wp2_with fail
                go_ret
                exact ⟨rfl, H5.out.below (Nat.le_refl _) (by simp)⟩
              · obtain ⟨m, hm⟩ : ∃ m, L = m + 1 := ⟨L - 1, by omega⟩
                obtain ⟨b1, o1, ha1, hc1⟩ := H4.out.2.2.2.1 m (by have := HL.out; omega)
                subst ha1
                obtain ⟨z, hzz⟩ : ∃ z, z = bs.getD m 0 := ⟨_, rfl⟩
                rw [← hzz] at hc1
                have hz : z ≠ 10 := by rw [hzz]; rw [hm, Nat.add_sub_cancel] at hten; exact hten
                have hzb : (z == 10) = false := by simp [hz]
                have htq2 : t = q + 1 := by rw [htq, hq]
                have hkm : k = L := by rw [hkL]; exact HL.out
                have hlA := own_lies (xs := bs) (by have := H4.out.1; rw [hkL, seg_all] at this; rwa [hkL]) (hkL.symm)
                have hsame := same_true ga (some ⟨b1, o1, none⟩) gc L bs W4 (by have := HL.out; omega) hlA H4.out.2.2.2.1
                rw [HL.out] at hsame
                subst htq2
                subst hkm
                subst hm
                have HS := Hid_mk hsame
                clear hsame hj hqj hq hcl hcL htq hten hkL hlA hzz hz
                go_wp2_with fail
                refine HS.out.mono ?_
                rintro e W5 ⟨rfl, hh5, hf5⟩
                have H5 := Hid_mk (H4.out.2.2.1.comp hf5 (by simp))
                clear hh5 hf5
                go_wp2_with fail
                go_ret
                exact ⟨rfl, H5.out.below (Nat.le_refl _) (by simp)⟩
        · have hcl2 : c < L := by omega
          have hbe : decide (c = bs.length) = false := decide_eq_false (by have := HL.out; omega)
          rw [hbe]
          have hxs : ∃ g, xa = some ⟨g, 0, none⟩ ∧ (Value.slice xa n xc).ownBlock = some g := by
            rcases ho4.2 with ⟨h1, h2⟩ | ⟨g, cap', cur, h1, _⟩
            · exact absurd h1 hvn
            · simp only [Value.slice.injEq] at h1
              exact ⟨g, h1.1, by rw [h1.1]; rfl⟩
          obtain ⟨xg, hxg, hxo⟩ := hxs
          subst hxg
          have hnews := ho4.cells hxo
          have hcn := hl4.le
          have hl : (seg bs c n).length = n := seg_length (by omega)
          have hone := seg_one bs c n
          have hgS : ∀ g, (Value.slice ga k gc).ownBlock = some g → W2.heap.size ≤ g ∧ g < xg := fun g hg => ⟨(HH.out.2.2.1.lt g hg).1, Nat.lt_of_lt_of_le (HH.out.2.2.1.lt g hg).2 (ho4.lt xg hxo).1⟩
          have hstep := HH.out.2.1.step (n := n) (c2 := c2) (by have := HL.out; omega) (by have := HL.out; intro j hj; exact HCR.out j (by omega)) hl4
          have hgat := HH.out.2.1.gather (by have := HL.out; omega)
          have hnL : c + n ≤ L := by have := HL.out; omega
          have hcc := hstep.2
          have hc2L : c2 ≤ L := by have := HL.out; omega
          have H4 := Hid_mk (And.intro hacc (And.intro hnews (And.intro hl (And.intro hone (And.intro hf5 (And.intro hr4 (And.intro hstep.1 hgS)))))))
          clear hacc hnews hl hone hf5 hr4 hstep hgS hxo hxa ho4 hf4 hbe hvn hl4 hcn
          rcases hgat with ⟨ht, hck⟩ | ⟨ht, hck, hten⟩
          · have ht1 : ¬ 0 < t := by omega
            have HT := Hid_mk (And.intro ht hck)
            clear ht hck
            go_wp2_with (at_builtin; refine wpList_append_own _ rfl (.tmp 62) (.tmp 63) 22 rfl W2.heap.size 5 i0 (.int .u8 0) 1 1 Tryd.underlying22 hi hz0 hz1 hz2 rfl (by omega) (.slice ga k gc) k (seg bs 0 k) rfl H4.out.1 ⟨xg, 0, none⟩ n xc (seg bs c n) rfl (by rw [H4.out.2.2.1]; omega) H4.out.2.1 H4.out.2.2.2.1 (by unfold maxLen; omega) (by omega) H4.out.2.2.2.2.1.size ?_)
            intro v' w6 hown6 hgrow6 hnil6
            have F6 : Fr [R, Y, Bf] W2 w6 := H4.out.2.2.2.2.1.app hgrow6 (fun g hg => (H4.out.2.2.2.2.2.2.2 g hg).1)
            have R6 : Liner w6 R Bf Y (.slice sa bs.length bs.length) bs c2 .nilIface := H4.out.2.2.2.2.2.1.app hgrow6 (fun g hg => (H4.out.2.2.2.2.2.2.2 g hg).1) hlt2.1 hlt2.2.1 hlt2.2.2
            have O6 : w6.ownsRow W2.heap.size 5 1 v' (c + n) (seg bs 0 (c + n)) := by
              have := seg_snoc bs 0 c n
              rw [Nat.zero_add] at this
              rw [← this]
              rw [← HT.out.2] at hown6
              exact hown6
            have H6 := Hid_mk (And.intro F6 (And.intro R6 O6))
            clear hown6 hgrow6 hnil6 F6 R6 O6
            go_wp2_with fail
            go_roundg (L - c2)
            case rel => exact ⟨t + 1, c2, c + n, by omega, H4.out.2.2.2.2.2.2.1, by go_num, rfl, by go_num, H6.out.2.2, H6.out.2.1, H6.out.1⟩
            case measure => have := HH.out.1; omega
          · have hk1 : k < bs.length := by have := HL.out; omega
            have HT := Hid_mk (And.intro hck (And.intro hten hk1))
            have hkL : k + 1 + n ≤ 1048576 := by omega
            clear hck hten hk1
            go_wp2_with (at_builtin; refine wpList_append_own _ rfl (.tmp 59) (.tmp 60) 22 rfl W2.heap.size 5 i0 (.int .u8 0) 1 1 Tryd.underlying22 hi hz0 hz1 hz2 rfl (by omega) (.slice ga k gc) k (seg bs 0 k) rfl (H4.out.1.alloc _) ⟨W4.heap.size, 0, none⟩ 1 1 [.int .u8 10] rfl rfl ?c1 ?c2 ?c3 ?c4 ?c5 ?_)
            case c1 =>
              intro j u hj
              match j, hj with
              | 0, hj =>
                simp at hj
                subst hj
                simp [World.cell?_alloc_new, Addr.add]
              | j + 1, hj => simp at hj
            case c2 => intro u hu; simp at hu; subst hu; rfl
            case c3 => unfold maxLen; omega
            case c4 => omega
            case c5 => have := H4.out.2.2.2.2.1.size; simp; omega
            intro v5 w5 hown5 hgrow5 _
            have hG := World.grownBy_alloc W4 (.cells #[.int .u8 10] 5) none
            rw [seg_ten HT.out.2.2 HT.out.2.1] at hown5
            have F5 : Fr [R, Y, Bf] W2 w5 := (H4.out.2.2.2.2.1.alloc _).app hgrow5 (fun g hg => (H4.out.2.2.2.2.2.2.2 g hg).1)
            have R5 : Liner w5 R Bf Y (.slice sa bs.length bs.length) bs c2 .nilIface :=
              (H4.out.2.2.2.2.2.1.fr ((Fr.refl [] W4).alloc _) (by simp) (by simp) (by simp)).app hgrow5 (fun g hg => (H4.out.2.2.2.2.2.2.2 g hg).1) hlt2.1 hlt2.2.1 hlt2.2.2
            have N5 : ∀ j u, (seg bs c n)[j]? = some u → w5.cell? ((⟨xg, 0, none⟩ : Addr).add j) = some u := fun j u hj =>
              hgrow5.cell (hG.cell (H4.out.2.1 j u hj) (by simp)) (by
                intro h
                have := (H4.out.2.2.2.2.2.2.2 xg (by rw [← h, Addr.add_lit])).2
                omega)
            obtain ⟨gb, gd, rfl, hgb⟩ := own_form hown5
            have S5 := fun g hg => (hown5.lt g hg).1
            have H5 := Hid_mk (And.intro hown5 (And.intro F5 (And.intro R5 (And.intro N5 S5))))
            clear hown5 hgrow5 hG F5 R5 N5 S5 hgb
            go_wp2_with (at_builtin; refine wpList_append_own _ rfl (.tmp 62) (.tmp 63) 22 rfl W2.heap.size 5 i0 (.int .u8 0) 1 1 Tryd.underlying22 hi hz0 hz1 hz2 rfl (by omega) (.slice gb (k + 1) gd) (k + 1) (seg bs 0 (k + 1)) rfl H5.out.1 ⟨xg, 0, none⟩ n xc (seg bs c n) rfl (by rw [H4.out.2.2.1]; omega) H5.out.2.2.2.1 H4.out.2.2.2.1 (by unfold maxLen; omega) (by omega) H5.out.2.1.size ?_)
            intro v' w6 hown6 hgrow6 hnil6
            have F6 : Fr [R, Y, Bf] W2 w6 := H5.out.2.1.app hgrow6 H5.out.2.2.2.2
            have R6 : Liner w6 R Bf Y (.slice sa bs.length bs.length) bs c2 .nilIface := H5.out.2.2.1.app hgrow6 H5.out.2.2.2.2 hlt2.1 hlt2.2.1 hlt2.2.2
            have O6 : w6.ownsRow W2.heap.size 5 1 v' (c + n) (seg bs 0 (c + n)) := by
              have := seg_snoc bs 0 c n
              rw [Nat.zero_add] at this
              rw [← this]
              rw [← HT.out.1] at hown6
              exact hown6
            have H6 := Hid_mk (And.intro F6 (And.intro R6 O6))
            clear hown6 hgrow6 hnil6 F6 R6 O6
            go_wp2_with fail
            go_roundg (L - c2)
            case rel => exact ⟨t + 1, c2, c + n, by omega, H4.out.2.2.2.2.2.2.1, by go_num, rfl, by go_num, H6.out.2.2, H6.out.2.1, H6.out.1⟩
            case measure => have := HH.out.1; omega
end Go.Proofs.YtnamkpkdkojhjaaDoor
