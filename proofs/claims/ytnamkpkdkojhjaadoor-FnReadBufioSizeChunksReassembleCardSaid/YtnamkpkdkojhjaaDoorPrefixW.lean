/- The walk of FnReadBufioSizeReturnsPrefix. -/
import Derived.Test.YtnamkpkdkojhjaaDoorRdSize
import Derived.Test.YtnamkpkdkojhjaaDoorBytes
namespace Go.Proofs.YtnamkpkdkojhjaaDoor
open Go.RowKit

theorem own_lies {w : World} {base : Nat} {a : Option Addr} {n cap : Nat} {xs : List Int} (h : w.ownsRow base 5 1 (.slice a n cap) n (xs.map (Value.int .u8))) (hn : xs.length = n) : Lies w a xs := by
  intro i hi
  rcases h.2 with ⟨h1, h2⟩ | ⟨g, cap', cur, h1, _, hg, _, _, _, ht⟩
  · omega
  · simp only [Value.slice.injEq] at h1
    refine ⟨g, 0, h1.1, ?_⟩
    rw [Nat.zero_add]
    refine cellAt hg ?_
    have h2 : (cur.toList.take (n * 1))[i]? = (xs.map (Value.int .u8))[i]? := by rw [ht]
    rw [List.getElem?_take, if_pos (by omega)] at h2
    simp only [Array.getElem?_toList] at h2
    rw [h2]
    simp [hi]
theorem row_lies {w : World} {Sb : Nat} {bs : List Int} {m : Nat} (h : w.heap[Sb]? = some (.cells (bs.map (Value.int .u8)).toArray 5 (0, 0))) (hm : m ≤ bs.length) : Lies w (some ⟨Sb, 0, none⟩) (bs.take m) := by
  intro i hi
  have h1 : i < m := by rw [List.length_take] at hi; omega
  have h2 : i < bs.length := by omega
  refine ⟨Sb, 0, rfl, ?_⟩
  rw [Nat.zero_add]
  refine cellAt h ?_
  simp [h1, h2]

theorem zread_any (base R Bf Y : Nat) (sv : Value) (bs : List Int) (ae : Addr) (c n : Nat) (w : World) (hs : Src base w sv bs (.iface 55 (.pointer (some ae)))) (h : Reader w R Bf Y sv bs c)
    (hn : n ≤ 65536) (hSS : ∀ x, x ∈ [R, Y, Bf] → base ≤ x) :
    Calls Tryd.prog 10 #[.pointer (some ⟨R, 0, none⟩), .int .i64 n] w (SizePost w R Bf Y sv bs c n) := by
  have H := Hid_mk (size_any base R Bf Y sv bs ae c n w hs h hn hSS)
  clear hs h hSS
  go_enter Tryd.func10, Tryd.ntmps10
  go_wp2_with fail
  refine H.out.mono ?_
  rintro e w' ⟨v, m, hm, rfl, ho, hr, hf⟩
  have H1 := Hid_mk (And.intro hm (And.intro ho (And.intro hr hf)))
  clear hm ho hr hf
  obtain ⟨be, hbe⟩ : ∃ be, be = decide (c = bs.length ∧ 0 < n) := ⟨_, rfl⟩
  rw [← hbe]
  have HB := Hid_mk hbe
  clear hbe
  go_wp2_with fail
  go_ret3
  refine ⟨v, m, H1.out.1, ?_, H1.out.2.1, H1.out.2.2.1, H1.out.2.2.2⟩
  rw [← HB.out]
  rfl

set_option maxRecDepth 100000 in
set_option maxHeartbeats 2000000 in
theorem prefix_walk (a0 : Option Addr) (len0 cap0 : Nat) (z0 : List Int) (a1 : Int) (ae : Addr) (w : World) (w0 : IsRow w a0 len0 cap0 z0) (hg : w.cell? ⟨0, 0, none⟩ = some (.iface 55 (.pointer (some ae)))) :
    Calls Tryd.prog 3 #[.slice a0 len0 cap0, .int .i64 a1] w fun e w' => e = .returned (.bool true) ∧ Below w.heap.size w w' := by
  obtain ⟨hm0, hl0⟩ := w0.size
  by_cases g0 : 1048576 < len0
  · go_enter Tryd.func3, Tryd.ntmps3
    go_wp2
    go_ret
    exact ⟨rfl, Below.refl _ _⟩
  by_cases g1 : a1 < 0
  · go_enter Tryd.func3, Tryd.ntmps3
    go_wp2
    go_ret
    exact ⟨rfl, Below.refl _ _⟩
  by_cases g2 : 65536 < a1
  · go_enter Tryd.func3, Tryd.ntmps3
    go_wp2
    go_ret
    exact ⟨rfl, Below.refl _ _⟩
  obtain ⟨n, rfl⟩ : ∃ n : Nat, a1 = (n : Int) := ⟨a1.toNat, by omega⟩
  have hcl := clone_any a0 len0 cap0 z0 w (by omega) w0
  have hby := w0.byte
  have hpos := World.block_lt_of_cell? w _ hg
  generalize z0.take len0 = bs at hcl hby hl0
  have H0 := Hid_mk (And.intro hcl (And.intro hby (And.intro hl0 hg)))
  clear hcl hby hl0 hg w0
  go_enter Tryd.func3, Tryd.ntmps3
  go_wp2_with (go_at_call 7; go_in)
  refine H0.out.1.mono ?_
  rintro e W1 ⟨sa, rfl, hf1, hrow⟩
  have hL := H0.out.2.2.1
  have hsrc : Src W1.heap.size W1 (.slice sa bs.length bs.length) bs (.iface 55 (.pointer (some ae))) := by
    refine ⟨?_, Nat.lt_of_lt_of_le hpos hf1.size, Nat.le_refl _, (World.cell?_of_block (hf1.block 0 hpos (by simp))).trans H0.out.2.2.2, by omega, H0.out.2.1⟩
    rcases hrow with ⟨h1, h2⟩ | ⟨Sb, h1, h2⟩
    · subst h1; subst h2; exact .inl ⟨rfl, rfl⟩
    · subst h1; exact .inr ⟨Sb, rfl, h2, lt_of_block h2⟩
  have hnew := new_any sa bs W1
  have H1 := Hid_mk (And.intro hf1 (And.intro hrow (And.intro hsrc hnew)))
  clear hf1 hrow hsrc hnew
  generalize hLL : bs.length = L at hL
  have HL := Hid_mk hLL
  have H1' := H1
  rw [hLL] at H1'
  clear hLL
  subst hL
  go_wp2_with fail
  refine H1'.out.2.2.2.mono ?_
  rintro e W2 ⟨R, Bf, Y, rfl, hr2, hf2, hge⟩
  have hs2 := H1.out.2.2.1.below (hf2.below (Nat.le_refl _) (by simp))
  rw [← HL.out] at hr2
  have hread := zread_any W1.heap.size R Bf Y _ bs ae 0 n W2 hs2 hr2 (by omega) hge
  have HN := Hid_mk (And.intro hf2 (And.intro hge hread))
  clear hr2 hf2 hge hs2 hread
  go_wp2_with fail
  refine HN.out.2.2.mono ?_
  rintro e W3 ⟨v, m, hm, rfl, ho, hr3, hf3⟩
  obtain ⟨ga, gc, rfl, hga⟩ := own_form ho
  obtain ⟨be, hbe⟩ : ∃ be, be = decide (0 = bs.length ∧ 0 < n) := ⟨_, rfl⟩
  rw [← hbe]
  have F3 : Fr [] w W3 := (H1.out.1.comp HN.out.1 (by simp)).comp hf3 (fun x hx => .inr (Nat.le_trans H1.out.1.size (HN.out.2.1 x hx)))
  have hseg : seg bs 0 m = (bs.take m).map (Value.int .u8) := by simp [seg]
  rw [hseg] at ho
  have hmL : m = min n L := by have := HL.out; omega
  have hx : (bs.take m).length = m := by rw [List.length_take]; have := HL.out; omega
  have hlies := own_lies ho hx
  rcases H1.out.2.1 with ⟨h1, h2⟩ | ⟨Sb, h1, h2⟩
  · subst h1
    have hL0 : L = 0 := by rw [← HL.out, h2]; rfl
    have hm0 : m = 0 := by omega
    have hsame := same_true ga none gc 0 (bs.take m) W3 (by omega) hlies (by rw [h2]; intro i hi; simp at hi)
    rw [hx] at hsame
    subst hm0
    subst hL0
    have HS := Hid_mk hsame
    have H2 := Hid_mk (And.intro hm (And.intro F3 hbe))
    clear hm F3 hbe hx hlies hsame hseg ho hr3 hf3 hga hmL h2
    go_wp2_with fail
    refine HS.out.mono ?_
    rintro e W4 ⟨rfl, hh4, hf4⟩
    have H4 := Hid_mk (H2.out.2.1.comp hf4 (by simp))
    clear hh4 hf4
    by_cases hn0 : 0 < n
    · have hb1 : be = true := by rw [H2.out.2.2]; exact decide_eq_true ⟨HL.out.symm, hn0⟩
      subst hb1
      go_wp2_with fail
      go_ret
      exact ⟨rfl, H4.out.below (Nat.le_refl _) (by simp)⟩
    · have hb1 : be = false := by rw [H2.out.2.2]; exact decide_eq_false (by omega)
      subst hb1
      go_wp2_with fail
      go_ret
      exact ⟨rfl, H4.out.below (Nat.le_refl _) (by simp)⟩
  · subst h1
    have hSb : W3.heap[Sb]? = some (.cells (bs.map (Value.int .u8)).toArray 5 (0, 0)) := by
      have hlt := lt_of_block h2
      refine hf3.at (HN.out.1.at h2 (by simp)) (fun hm => ?_)
      have := HN.out.2.1 Sb hm
      omega
    have hsame := same_true ga (some ⟨Sb, 0, none⟩) gc L (bs.take m) W3 (by omega) hlies (row_lies hSb (by have := HL.out; omega))
    rw [hx] at hsame
    have HS := Hid_mk hsame
    have H2 := Hid_mk (And.intro hm (And.intro F3 hbe))
    clear hm F3 hbe hx hlies hsame hseg ho hr3 hf3 hga h2 hSb
    by_cases hcmp : n < L
    · obtain rfl : n = m := by omega
      clear hmL
      go_wp2_with fail
      refine HS.out.mono ?_
      rintro e W4 ⟨rfl, hh4, hf4⟩
      have H4 := Hid_mk (H2.out.2.1.comp hf4 (by simp))
      clear hh4 hf4
      by_cases hL0 : L = 0
      · have hz : ((L : Int) == 0) = true := by simp; omega
        by_cases hn0 : 0 < n
        · have hb1 : be = true := by rw [H2.out.2.2]; exact decide_eq_true ⟨by have := HL.out; omega, hn0⟩
          subst hb1
          go_wp2_with fail
          go_ret
          exact ⟨rfl, H4.out.below (Nat.le_refl _) (by simp)⟩
        · have hb1 : be = false := by rw [H2.out.2.2]; exact decide_eq_false (by omega)
          subst hb1
          go_wp2_with fail
          go_ret
          exact ⟨rfl, H4.out.below (Nat.le_refl _) (by simp)⟩
      · have hz : ((L : Int) == 0) = false := by simp; omega
        have hb1 : be = false := by rw [H2.out.2.2]; exact decide_eq_false (by have := HL.out; omega)
        subst hb1
        go_wp2_with fail
        go_ret
        exact ⟨rfl, H4.out.below (Nat.le_refl _) (by simp)⟩
    · obtain rfl : L = m := by omega
      clear hmL
      go_wp2_with fail
      refine HS.out.mono ?_
      rintro e W4 ⟨rfl, hh4, hf4⟩
      have H4 := Hid_mk (H2.out.2.1.comp hf4 (by simp))
      clear hh4 hf4
      by_cases hL0 : L = 0
      · have hz : ((L : Int) == 0) = true := by simp; omega
        by_cases hn0 : 0 < n
        · have hb1 : be = true := by rw [H2.out.2.2]; exact decide_eq_true ⟨by have := HL.out; omega, hn0⟩
          subst hb1
          go_wp2_with fail
          go_ret
          exact ⟨rfl, H4.out.below (Nat.le_refl _) (by simp)⟩
        · have hb1 : be = false := by rw [H2.out.2.2]; exact decide_eq_false (by omega)
          subst hb1
          go_wp2_with fail
          go_ret
          exact ⟨rfl, H4.out.below (Nat.le_refl _) (by simp)⟩
      · have hz : ((L : Int) == 0) = false := by simp; omega
        have hb1 : be = false := by rw [H2.out.2.2]; exact decide_eq_false (by have := HL.out; omega)
        subst hb1
        go_wp2_with fail
        go_ret
        exact ⟨rfl, H4.out.below (Nat.le_refl _) (by simp)⟩
end Go.Proofs.YtnamkpkdkojhjaaDoor
