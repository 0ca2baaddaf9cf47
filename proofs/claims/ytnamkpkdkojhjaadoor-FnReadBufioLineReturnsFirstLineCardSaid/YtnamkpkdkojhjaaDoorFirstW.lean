/- The walk of FnReadBufioLineReturnsFirstLine. -/
import Derived.Test.YtnamkpkdkojhjaaDoorZLn
import Derived.Deep.Cut
import Derived.Deep.CutBlock
import Derived.Deep.DeepCutAuto
namespace Go.Proofs.YtnamkpkdkojhjaaDoor
open Go.RowKit

def FirstEnd (bs : List Int) (v : Value) : Prop := ∃ n c2 : Nat, v = .int .i64 (n : Int) ∧ LineIs bs 0 n c2

set_option maxRecDepth 100000 in
set_option maxHeartbeats 2000000 in
theorem first_walk (a0 : Option Addr) (len0 cap0 : Nat) (z0 : List Int) (ae af : Addr) (w : World) (w0 : IsRow w a0 len0 cap0 z0) (hg : w.cell? ⟨0, 0, none⟩ = some (.iface 55 (.pointer (some ae)))) (hn : Sen w.heap.size w ae af) :
    Calls Tryd.prog 4 #[.slice a0 len0 cap0] w fun e w' => e = .returned (.bool true) ∧ Below w.heap.size w w' := by
  obtain ⟨hm0, hl0⟩ := w0.size
  by_cases g0 : 1048576 < len0
  · go_enter Tryd.func4, Tryd.ntmps4
    go_wp2
    go_ret
    exact ⟨rfl, Below.refl _ _⟩
  have hcl := clone_any a0 len0 cap0 z0 w (by omega) w0
  have hby := w0.byte
  have hpos := World.block_lt_of_cell? w _ hg
  generalize z0.take len0 = bs at hcl hby hl0
  have H0 := Hid_mk (And.intro hcl (And.intro hby (And.intro hl0 (And.intro hg hn))))
  clear hcl hby hl0 hg w0 hn
  go_enter Tryd.func4, Tryd.ntmps4
  go_wp2_with (go_at_call 12; go_in)
  refine H0.out.1.mono ?_
  rintro e W1 ⟨sa, rfl, hf1, hrow⟩
  have hL := H0.out.2.2.1
  have hsrc : Src W1.heap.size W1 (.slice sa bs.length bs.length) bs (.iface 55 (.pointer (some ae))) := by
    refine ⟨?_, Nat.lt_of_lt_of_le hpos hf1.size, Nat.le_refl _, (World.cell?_of_block (hf1.block 0 hpos (by simp))).trans H0.out.2.2.2.1, by omega, H0.out.2.1⟩
    rcases hrow with ⟨h1, h2⟩ | ⟨Sb, h1, h2⟩
    · subst h1; subst h2; exact .inl ⟨rfl, rfl⟩
    · subst h1; exact .inr ⟨Sb, rfl, h2, lt_of_block h2⟩
  have hsen : Sen W1.heap.size W1 ae af := (H0.out.2.2.2.2.below (hf1.below (Nat.le_refl _) (by simp))).up hf1.size
  have hnew := new_any sa bs W1
  have hlies : Lies W1 sa bs := by
    rcases hrow with ⟨h1, h2⟩ | ⟨Sb, h1, h2⟩
    · subst h2; intro i hi; simp at hi
    · subst h1; have := row_lies h2 (Nat.le_refl bs.length); rwa [List.take_length] at this
  have hbat := hsrc.at
  have H1 := Hid_mk (And.intro hf1 (And.intro hrow (And.intro hsrc (And.intro hsen hnew))))
  clear hf1 hrow hsrc hnew hsen
  generalize hLL : bs.length = L at hL
  have HL := Hid_mk hLL
  have H1' := H1
  rw [hLL] at H1'
  clear hLL
  subst hL
  go_upto_block 0 with fail
  go_cut [3] (fun v3 wx => W1 = wx ∧ FirstEnd bs v3)
  case first =>
    go_wp2_with fail
    go_loopg [3, 4] L (fun gk v3 v4 wr => W1 = wr ∧ v3 = .int .i64 (L : Int) ∧ ∃ k : Nat, k + gk = L ∧ v4 = .int .i64 (k : Int) ∧ ∀ j, j < k → bs.getD (0 + j) 0 ≠ 10)
    case atStart => exact ⟨rfl, rfl, 0, by omega, rfl, fun j hj => by omega⟩
    case round =>
      obtain ⟨rfl, rfl, k, hk, rfl, hno⟩ := hrel
      by_cases hlt : k < L
      · obtain ⟨b1, o1, ha1, hc1⟩ := hlies k (by have := HL.out; omega)
        subst ha1
        obtain ⟨z, hzz⟩ : ∃ z, z = bs.getD k 0 := ⟨_, rfl⟩
        rw [← hzz] at hc1
        by_cases hz : z = 10
        · subst hz
          by_cases hk0 : k = 0
          · subst hk0
            have hc0 : W1.cell? ⟨b1, o1, none⟩ = some (.int .u8 10) := hc1
            have HK := Hid_mk (And.intro hk (And.intro hno hzz))
            clear hk hno hzz hlies hbat
            go_wp2_with fail
            go_meet
            case rel => exact ⟨rfl, 0, 0 + 0 + 1, rfl, .inr ⟨0, rfl, by have := HL.out; omega, by rw [Nat.zero_add]; exact HK.out.2.2.symm, HK.out.2.1, .inl ⟨rfl, .inl rfl⟩⟩⟩
          · obtain ⟨m, rfl⟩ : ∃ m, k = m + 1 := ⟨k - 1, by omega⟩
            obtain ⟨b2, o2, ha2, hc2⟩ := hlies m (by have := HL.out; omega)
            cases ha2
            obtain ⟨y, hyy⟩ : ∃ y, y = bs.getD m 0 := ⟨_, rfl⟩
            rw [← hyy] at hc2
            have HK := Hid_mk (And.intro hk (And.intro hno (And.intro hzz hyy)))
            clear hk hno hzz hyy hlies hbat hk0
            by_cases hy : y = 13
            · subst hy
              go_wp2_with fail
              go_meet
              case rel => exact ⟨rfl, m, 0 + (m + 1) + 1, by go_num, .inr ⟨m + 1, rfl, by have := HL.out; omega, by rw [Nat.zero_add]; exact HK.out.2.2.1.symm, HK.out.2.1, .inr ⟨rfl, by rw [Nat.zero_add]; exact HK.out.2.2.2.symm⟩⟩⟩
            · have hyb : (y == 13) = false := by simp [hy]
              go_wp2_with fail
              go_meet
              case rel => exact ⟨rfl, m + 1, 0 + (m + 1) + 1, by go_num, .inr ⟨m + 1, rfl, by have := HL.out; omega, by rw [Nat.zero_add]; exact HK.out.2.2.1.symm, HK.out.2.1, .inl ⟨rfl, .inr (by rw [Nat.zero_add, Nat.add_sub_cancel, ← HK.out.2.2.2]; exact hy)⟩⟩⟩
        · have hzb : (z == 10) = false := by simp [hz]
          have HK := Hid_mk (And.intro hk (And.intro hno hzz))
          clear hk hno hzz hlies hbat
          go_wp2_with fail
          go_roundg (gk - 1)
          case rel =>
            refine ⟨rfl, rfl, k + 1, by have := HK.out.1; omega, by go_num, fun j hj => ?_⟩
            by_cases hjk : j < k
            · exact HK.out.2.1 j hjk
            · obtain rfl : j = k := by omega
              rw [Nat.zero_add, ← HK.out.2.2]
              exact hz
          case measure => have := HK.out.1; omega
      · obtain rfl : k = L := by omega
        have HK := Hid_mk (And.intro hk hno)
        clear hk hno hlies hbat
        go_wp2_with fail
        go_meet
        case rel => exact ⟨rfl, k, bs.length, rfl, .inl ⟨rfl, by have := HL.out; omega, HK.out.2⟩⟩
  case rest =>
    obtain ⟨rfl, m0, c0, rfl, hl0⟩ := hcut
    go_wp2_with fail
    refine H1'.out.2.2.2.2.mono ?_
    rintro e W2 ⟨R, Bf, Y, rfl, hr2, hf2, hge⟩
    have hs2 := H1.out.2.2.1.below (hf2.below (Nat.le_refl _) (by simp))
    have hn2 := H1.out.2.2.2.1.below (hf2.below (Nat.le_refl _) (by simp))
    rw [← HL.out] at hr2
    have hread := zline_any W1.heap.size R Bf Y _ bs ae af 0 W2 hs2 hn2 hr2.ln hge
    have HN := Hid_mk (And.intro hf2 (And.intro hge (And.intro hread hl0)))
    clear hr2 hf2 hge hs2 hn2 hread hl0 hlies hbat
    go_wp2_with fail
    refine HN.out.2.2.1.mono ?_
    rintro e W3 ⟨v, m, c2, _, rfl, ho, hl, hr3, hf3⟩
    obtain ⟨ga, gc, rfl, hga⟩ := own_form ho
    obtain rfl : m0 = m := (HN.out.2.2.2.one hl).1
    obtain ⟨be, hbe⟩ : ∃ be, be = decide (0 = bs.length) := ⟨_, rfl⟩
    rw [← hbe]
    have F3 : Fr [] w W3 := (H1.out.1.comp HN.out.1 (by simp)).comp hf3 (fun x hx => .inr (Nat.le_trans H1.out.1.size (HN.out.2.1 x hx)))
    have hseg : seg bs 0 m0 = (bs.take m0).map (Value.int .u8) := by simp [seg]
    rw [hseg] at ho
    have hmL : m0 ≤ L := by have := hl.le; have := HL.out; omega
    have hx : (bs.take m0).length = m0 := by rw [List.length_take]; have := HL.out; omega
    have hlies := own_lies ho hx
    rcases H1.out.2.1 with ⟨h1, h2⟩ | ⟨Sb, h1, h2⟩
    · subst h1
      have hL0 : L = 0 := by rw [← HL.out, h2]; rfl
      have hm0 : m0 = 0 := by omega
      have hsame := same_true ga none gc 0 (bs.take m0) W3 (by omega) hlies (by rw [h2]; intro i hi; simp at hi)
      rw [hx] at hsame
      have hb1 : be = true := by rw [hbe]; exact decide_eq_true (by rw [h2]; rfl)
      subst hm0
      subst hL0
      subst hb1
      have HS := Hid_mk hsame
      have H2 := Hid_mk F3
      clear F3 hbe hx hlies hsame hseg ho hr3 hf3 hga hmL h2 hl
      go_wp2_with fail
      refine HS.out.mono ?_
      rintro e W4 ⟨rfl, hh4, hf4⟩
      have H4 := Hid_mk (H2.out.comp hf4 (by simp))
      clear hh4 hf4
      go_wp2_with fail
      go_ret
      exact ⟨rfl, H4.out.below (Nat.le_refl _) (by simp)⟩
    · subst h1
      have hSb : W3.heap[Sb]? = some (.cells (bs.map (Value.int .u8)).toArray 5 (0, 0)) := by
        have hlt := lt_of_block h2
        refine hf3.at (HN.out.1.at h2 (by simp)) (fun hm => ?_)
        have := HN.out.2.1 Sb hm
        omega
      have hsame := same_true ga (some ⟨Sb, 0, none⟩) gc L (bs.take m0) W3 (by omega) hlies (row_lies hSb (by have := HL.out; omega))
      rw [hx] at hsame
      have HS := Hid_mk hsame
      have H2 := Hid_mk (And.intro F3 hbe)
      clear F3 hbe hx hlies hsame hseg ho hr3 hf3 hga h2 hSb hl
      go_wp2_with fail
      refine HS.out.mono ?_
      rintro e W4 ⟨rfl, hh4, hf4⟩
      have H4 := Hid_mk (H2.out.1.comp hf4 (by simp))
      clear hh4 hf4
      by_cases hL0 : L = 0
      · have hz : ((L : Int) == 0) = true := by simp; omega
        have hb1 : be = true := by rw [H2.out.2]; exact decide_eq_true (by have := HL.out; omega)
        subst hb1
        go_wp2_with fail
        go_ret
        exact ⟨rfl, H4.out.below (Nat.le_refl _) (by simp)⟩
      · have hz : ((L : Int) == 0) = false := by simp; omega
        have hb1 : be = false := by rw [H2.out.2]; exact decide_eq_false (by have := HL.out; omega)
        subst hb1
        go_wp2_with fail
        go_ret
        exact ⟨rfl, H4.out.below (Nat.le_refl _) (by simp)⟩
end Go.Proofs.YtnamkpkdkojhjaaDoor
