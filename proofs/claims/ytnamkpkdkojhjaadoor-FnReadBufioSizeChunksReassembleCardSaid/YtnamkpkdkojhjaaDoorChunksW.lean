/- The walk of FnReadBufioSizeChunksReassemble. -/
import Derived.Test.YtnamkpkdkojhjaaDoorPrefixW
namespace Go.Proofs.YtnamkpkdkojhjaaDoor
open Go.RowKit

/-- How many calls hand out c bytes of L, n at a time. -/
def Count (L n c j : Nat) : Prop := j ≤ c ∧ (c < L → c = j * n) ∧ (c = L → j = (L + n - 1) / n)
theorem Count.zero (L n : Nat) (hn : 1 ≤ n) : Count L n 0 0 := by
  refine ⟨Nat.le_refl _, fun _ => by simp, fun h => ?_⟩
  subst h
  rw [Nat.div_eq_of_lt (by omega)]
theorem Count.step {L n c j : Nat} (h : Count L n c j) (hn : 1 ≤ n) (hc : c < L) : Count L n (c + min n (L - c)) (j + 1) := by
  obtain ⟨h1, h2, _⟩ := h
  have e := h2 hc
  refine ⟨by omega, fun h => ?_, fun h => ?_⟩
  · rw [Nat.add_mul, Nat.one_mul]; omega
  · have h3 : L ≤ j * n + n := by omega
    have h4 : j * n < L := by omega
    symm
    rw [Nat.div_eq_iff (by omega)]
    rw [Nat.add_mul, Nat.one_mul]
    omega

set_option maxRecDepth 100000 in
set_option maxHeartbeats 2000000 in
theorem chunks_walk (a0 : Option Addr) (len0 cap0 : Nat) (z0 : List Int) (a1 : Int) (ae : Addr) (w : World) (w0 : IsRow w a0 len0 cap0 z0) (hg : w.cell? ⟨0, 0, none⟩ = some (.iface 55 (.pointer (some ae)))) :
    Calls Tryd.prog 5 #[.slice a0 len0 cap0, .int .i64 a1] w fun e w' => e = .returned (.bool true) ∧ Below w.heap.size w w' := by
  obtain ⟨hm0, hl0⟩ := w0.size
  by_cases g0 : 1048576 < len0
  · go_enter Tryd.func5, Tryd.ntmps5
    go_wp2
    go_ret
    exact ⟨rfl, Below.refl _ _⟩
  by_cases g3 : 65536 < len0
  · go_enter Tryd.func5, Tryd.ntmps5
    go_wp2
    go_ret
    exact ⟨rfl, Below.refl _ _⟩
  by_cases g1 : a1 < 1
  · go_enter Tryd.func5, Tryd.ntmps5
    go_wp2
    go_ret
    exact ⟨rfl, Below.refl _ _⟩
  by_cases g2 : 65536 < a1
  · go_enter Tryd.func5, Tryd.ntmps5
    go_wp2
    go_ret
    exact ⟨rfl, Below.refl _ _⟩
  obtain ⟨n, rfl⟩ : ∃ n : Nat, a1 = (n : Int) := ⟨a1.toNat, by omega⟩
  have hcl := clone_any a0 len0 cap0 z0 w (by omega) w0
  have hby := w0.byte
  have hpos := World.block_lt_of_cell? w _ hg
  generalize z0.take len0 = bs at hcl hby hl0
  have H0 := Hid_mk (And.intro hcl (And.intro hby (And.intro hl0 hg)))
  clear hcl hby hl0 hg w0
  obtain ⟨i0, hi, hz0, hz1, hz2⟩ := info_parts infoByte
  go_enter Tryd.func5, Tryd.ntmps5
  go_wp2_with (go_at_call 14; go_in)
  refine H0.out.1.mono ?_
  rintro e W1 ⟨sa, rfl, hf1, hrow⟩
  have hL := H0.out.2.2.1
  have hsrc : Src W1.heap.size W1 (.slice sa bs.length bs.length) bs (.iface 55 (.pointer (some ae))) := by
    refine ⟨?_, Nat.lt_of_lt_of_le hpos hf1.size, Nat.le_refl _, (World.cell?_of_block (hf1.block 0 hpos (by simp))).trans H0.out.2.2.2, by omega, H0.out.2.1⟩
    rcases hrow with ⟨h1, h2⟩ | ⟨Sb, h1, h2⟩
    · subst h1; subst h2; exact .inl ⟨rfl, rfl⟩
    · subst h1; exact .inr ⟨Sb, rfl, h2, lt_of_block h2⟩
  have hnew := new_any sa bs W1
  have H1 := Hid_mk (And.intro hf1 (And.intro hrow (And.intro hsrc hnew)))
  clear hf1 hrow hsrc hnew
  generalize hLL : bs.length = L at hL
  have HL := Hid_mk hLL
  have H1' := H1
  rw [hLL] at H1'
  clear hLL
  subst hL
  go_wp2_with fail
  refine H1'.out.2.2.2.mono ?_
  rintro e W2 ⟨R, Bf, Y, rfl, hr2, hf2, hge⟩
  rw [← HL.out] at hr2
  have hlt2 := hr2.lt
  have hs2 := H1.out.2.2.1.below (hf2.below (Nat.le_refl _) (by simp))
  have HN := Hid_mk (And.intro hf2 (And.intro hge (And.intro hr2 hs2)))
  clear hr2 hf2 hge hs2
  go_wp2_with (at_make; refine wpList_make_own _ rfl (.const (.int .i64 0)) (.tmp 34) 22 rfl W2.heap.size 5 i0 (.int .u8 0) 1 Tryd.underlying22 hi hz0 hz1 .i64 .i64 (L : Int) L rfl rfl rfl ?c1 ?c2 (Nat.le_refl _) ?_)
  case c1 => first | omega | (rw [hz2]; omega)
  case c2 => unfold maxLen; omega
  intro W3 hown hgrow
  have hf3 := (Fr.refl [R, Y, Bf] W2).grown hgrow (fun g h => by cases h)
  have hr3 : Reader W3 R Bf Y (.slice sa bs.length bs.length) bs 0 := HN.out.2.2.1.fr ((Fr.refl [] W2).grown hgrow (fun g h => by cases h)) (by simp) (by simp) (by simp)
  have H3 := Hid_mk (And.intro hown (And.intro hf3 hr3))
  clear hown hgrow hf3 hr3
  go_wp2_with fail
  go_loopg [6, 7, 8, 9] L (fun gk v cl dn i wr => ∃ c j : Nat, c + gk = L ∧ Count L n c j ∧ cl = .int .i64 j ∧ dn = .bool false ∧ i = .int .i64 j ∧ wr.ownsRow W2.heap.size 5 1 v c (seg bs 0 c) ∧ Reader wr R Bf Y (.slice sa bs.length bs.length) bs c ∧ Fr [R, Y, Bf] W2 wr)
  case atStart => exact ⟨0, 0, by omega, Count.zero L n (by omega), rfl, rfl, rfl, H3.out.1, H3.out.2.2, H3.out.2.1⟩
  case round =>
    obtain ⟨c, j, hck, hcnt, rfl, rfl, rfl, ho, hr, hf⟩ := hrel
    obtain ⟨ga, gc, rfl, hga⟩ := own_form ho
    have hjc := hcnt.1
    have hsr : Src W1.heap.size wr (.slice sa bs.length bs.length) bs (.iface 55 (.pointer (some ae))) := HN.out.2.2.2.below (hf.below (by have := HN.out.1.size; omega) HN.out.2.1)
    have hread := zread_any W1.heap.size R Bf Y _ bs ae c n wr hsr hr (by omega) HN.out.2.1
    have HH := Hid_mk (And.intro hck (And.intro hcnt (And.intro ho (And.intro hr (And.intro hf (And.intro hga (And.intro hsr hread)))))))
    have hcL : c ≤ L := by omega
    clear hck hcnt ho hr hf hga hsr hread
    go_wp2_with fail
    refine HH.out.2.2.2.2.2.2.2.mono ?_
    rintro e W4 ⟨v, m, hm, rfl, ho4, hr4, hf4⟩
    obtain ⟨xa, xc, rfl, hxa⟩ := own_form ho4
    have hacc := own_fr HH.out.2.2.1 hf4 (by
      intro g hg
      have := (HH.out.2.2.1.lt g hg).1
      simp; omega)
    have hf5 := HH.out.2.2.2.2.1.trans hf4
    by_cases hcl : c = L
    · have hbe : decide (c = bs.length ∧ 0 < n) = true := decide_eq_true ⟨by rw [hcl, HL.out], by omega⟩
      rw [hbe]
      have hcj := HH.out.2.1.2.2 hcl
      have F4 : Fr [] w W4 := (H1.out.1.comp HN.out.1 (by simp)).comp hf5 (fun x hx => .inr (Nat.le_trans H1.out.1.size (HN.out.2.1 x hx)))
      have hseg : seg bs 0 c = bs.map (Value.int .u8) := by
        unfold seg
        rw [List.drop_zero, List.take_of_length_le (by have := HL.out; omega)]
      rw [hseg] at hacc
      have hlA := own_lies hacc (by rw [hcl]; exact HL.out)
      have hlB : Lies W4 sa bs := by
        rcases H1.out.2.1 with ⟨h1, h2⟩ | ⟨Sb, h1, h2⟩
        · rw [h2]; intro i hi; simp at hi
        · rw [h1]
          have hlt := lt_of_block h2
          have hSb := hf5.at (HN.out.1.at h2 (by simp)) (fun hm => by have := HN.out.2.1 Sb hm; omega)
          have := row_lies (m := bs.length) hSb (Nat.le_refl _)
          rwa [List.take_length] at this
      have hsame := same_true ga sa gc L bs W4 (by have := HL.out; omega) hlA hlB
      rw [HL.out, ← hcl] at hsame
      subst hcl
      have HS := Hid_mk (And.intro hsame (And.intro F4 hcj))
      clear hsame F4 hcj hlA hlB hacc hseg ho4 hr4 hf4 hf5 hxa hm hbe
      have hdiv : ((c : Int) + (n : Int) - 1) / (n : Int) = (j : Int) := by
        rw [HS.out.2.2]
        have e : ((c + n - 1 : Nat) : Int) = (c : Int) + n - 1 := by omega
        rw [← e]
        exact (Int.natCast_ediv _ _).symm
      have htdiv : Int.tdiv ((c : Int) + (n : Int) - 1) (n : Int) = (j : Int) := by rw [Int.tdiv_eq_ediv_of_nonneg (by omega)]; exact hdiv
      go_wp2_with fail
      refine HS.out.1.mono ?_
      rintro e W5 ⟨rfl, hh5, hf5⟩
      have H5 := Hid_mk (HS.out.2.1.comp hf5 (by simp))
      clear hh5 hf5
      go_wp2_with fail
      go_ret
      exact ⟨rfl, H5.out.below (Nat.le_refl _) (by simp)⟩
    · have hcl2 : c < L := by omega
      have hbe : decide (c = bs.length ∧ 0 < n) = false := decide_eq_false (by have := HL.out; omega)
      rw [hbe]
      have hmL : m = min n (L - c) := by have := HL.out; omega
      have hm0 : 0 < m := by omega
      have hmn : m ≤ n := by omega
      have hcnt2 := HH.out.2.1.step (by omega) hcl2
      rw [← hmL] at hcnt2
      have hxs : ∃ g, xa = some ⟨g, 0, none⟩ ∧ (Value.slice xa m xc).ownBlock = some g := by
        rcases ho4.2 with ⟨h1, h2⟩ | ⟨g, cap', cur, h1, _⟩
        · omega
        · simp only [Value.slice.injEq] at h1
          exact ⟨g, h1.1, by rw [h1.1]; rfl⟩
      obtain ⟨xg, hxg, hxo⟩ := hxs
      subst hxg
      have hnews := ho4.cells hxo
      have hl : (seg bs c m).length = m := seg_length (by have := HL.out; omega)
      have hone := seg_one bs c m
      have hgS : ∀ g, (Value.slice ga c gc).ownBlock = some g → W2.heap.size ≤ g := fun g hg => (HH.out.2.2.1.lt g hg).1
      have H4 := Hid_mk (And.intro hacc (And.intro hnews (And.intro hl (And.intro hone (And.intro hf5 (And.intro hr4 (And.intro hcnt2 hgS)))))))
      clear hacc hnews hl hone hf5 hr4 hcnt2 hgS hxo hxa ho4 hf4 hm hbe
      have hq : ((m : Int) == 0) = false := by simp; omega
      by_cases hcmp : (n : Int) < (L : Int) - (c : Int)
      · obtain rfl : n = m := by omega
        clear hmL
        go_wp2_with (at_builtin; refine wpList_append_own _ rfl (.tmp 71) (.tmp 72) 22 rfl W2.heap.size 5 i0 (.int .u8 0) 1 1 Tryd.underlying22 hi hz0 hz1 hz2 rfl (by omega) (.slice ga c gc) c (seg bs 0 c) rfl H4.out.1 ⟨xg, 0, none⟩ n xc (seg bs c n) rfl (by rw [H4.out.2.2.1]; omega) H4.out.2.1 H4.out.2.2.2.1 (by unfold maxLen; omega) (by omega) H4.out.2.2.2.2.1.size ?_)
        intro v' w6 hown6 hgrow6 hnil6
        have F6 : Fr [R, Y, Bf] W2 w6 := by
          refine H4.out.2.2.2.2.1.comp (T := match (Value.slice ga c gc).ownBlock with | some g => [g] | none => []) ((Fr.refl _ _).grown hgrow6 (fun g hg => by rw [hg]; simp)) ?_
          intro x hx
          cases hb : (Value.slice ga c gc).ownBlock with
          | none => rw [hb] at hx; cases hx
          | some g =>
            rw [hb] at hx
            simp at hx
            subst hx
            exact .inr (H4.out.2.2.2.2.2.2.2 x hb)
        have R6 : Reader w6 R Bf Y (.slice sa bs.length bs.length) bs (c + n) := by
          refine H4.out.2.2.2.2.2.1.fr (S := match (Value.slice ga c gc).ownBlock with | some g => [g] | none => []) ((Fr.refl _ _).grown hgrow6 (fun g hg => by rw [hg]; simp)) ?_ ?_ ?_
          all_goals
            cases hb : (Value.slice ga c gc).ownBlock with
            | none => simp
            | some g =>
              have := H4.out.2.2.2.2.2.2.2 g hb
              simp; omega
        have O6 : w6.ownsRow W2.heap.size 5 1 v' (c + n) (seg bs 0 (c + n)) := by
          have := seg_snoc bs 0 c n
          rw [Nat.zero_add] at this
          rw [← this]; exact hown6
        have H6 := Hid_mk (And.intro F6 (And.intro R6 O6))
        clear hown6 hgrow6 hnil6 F6 R6 O6
        go_wp2_with fail
        go_roundg (gk - n)
        case rel => exact ⟨c + n, j + 1, by have := HH.out.1; omega, H4.out.2.2.2.2.2.2.1, by go_num, rfl, by go_num, H6.out.2.2, H6.out.2.1, H6.out.1⟩
        case measure => have := HH.out.1; omega
      · have hwant : (L : Int) - (c : Int) = (m : Int) := by omega
        have hHmL := Hid_mk hmL
        clear hmL
        go_wp2_with (at_builtin; refine wpList_append_own _ rfl (.tmp 71) (.tmp 72) 22 rfl W2.heap.size 5 i0 (.int .u8 0) 1 1 Tryd.underlying22 hi hz0 hz1 hz2 rfl (by omega) (.slice ga c gc) c (seg bs 0 c) rfl H4.out.1 ⟨xg, 0, none⟩ m xc (seg bs c m) rfl (by rw [H4.out.2.2.1]; omega) H4.out.2.1 H4.out.2.2.2.1 (by unfold maxLen; omega) (by omega) H4.out.2.2.2.2.1.size ?_)
        intro v' w6 hown6 hgrow6 hnil6
        have F6 : Fr [R, Y, Bf] W2 w6 := by
          refine H4.out.2.2.2.2.1.comp (T := match (Value.slice ga c gc).ownBlock with | some g => [g] | none => []) ((Fr.refl _ _).grown hgrow6 (fun g hg => by rw [hg]; simp)) ?_
          intro x hx
          cases hb : (Value.slice ga c gc).ownBlock with
          | none => rw [hb] at hx; cases hx
          | some g =>
            rw [hb] at hx
            simp at hx
            subst hx
            exact .inr (H4.out.2.2.2.2.2.2.2 x hb)
        have R6 : Reader w6 R Bf Y (.slice sa bs.length bs.length) bs (c + m) := by
          refine H4.out.2.2.2.2.2.1.fr (S := match (Value.slice ga c gc).ownBlock with | some g => [g] | none => []) ((Fr.refl _ _).grown hgrow6 (fun g hg => by rw [hg]; simp)) ?_ ?_ ?_
          all_goals
            cases hb : (Value.slice ga c gc).ownBlock with
            | none => simp
            | some g =>
              have := H4.out.2.2.2.2.2.2.2 g hb
              simp; omega
        have O6 : w6.ownsRow W2.heap.size 5 1 v' (c + m) (seg bs 0 (c + m)) := by
          have := seg_snoc bs 0 c m
          rw [Nat.zero_add] at this
          rw [← this]; exact hown6
        have H6 := Hid_mk (And.intro F6 (And.intro R6 O6))
        clear hown6 hgrow6 hnil6 F6 R6 O6
        go_wp2_with fail
        go_roundg (gk - m)
        case rel => exact ⟨c + m, j + 1, by have := HH.out.1; omega, H4.out.2.2.2.2.2.2.1, by go_num, rfl, by go_num, H6.out.2.2, H6.out.2.1, H6.out.1⟩
        case measure => have := HH.out.1; omega
end Go.Proofs.YtnamkpkdkojhjaaDoor
