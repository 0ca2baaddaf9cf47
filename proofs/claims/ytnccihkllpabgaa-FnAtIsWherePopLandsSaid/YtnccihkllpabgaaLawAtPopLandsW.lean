/- The walk of the law whose statement is: FnAtIsWherePopLands: for every slice and nseg the pointer that At(k) gives is the pointer that Pop hands back at depth k: the law returns true and its arguments read as before. Conditions: none. -/
import Derived.Test.YtnccihkllpabgaaRows
import Derived.WalkKit
import Derived.ProofKit
import Derived.OpenShut
import Derived.ShutString
import Derived.ChangeOld
import Derived.Below
import Derived.Test.YtnccihkllpabgaaOps141
import Derived.Test.YtnccihkllpabgaaPtrs
namespace Go.Proofs.Ytnccihkllpabgaa.fnAtIsWherePopLands
open Go.ChangeShapes Go.WideShapes Go.ChangeAt Go.RowKit
open Go.ChangeMaps (open_string shut_string)
set_option linter.unusedVariables false


/-- What the walk is told of a slice that came in. -/
def IsRow (k : IntKind) (w : World) (a : Option Addr) (len cap : Nat) (zs : List Int) : Prop :=
  (a = none ∧ len = 0 ∧ cap = 0 ∧ zs = []) ∨
  ∃ x, a = some x ∧ len ≤ cap ∧ cap ≤ maxLen ∧ zs.length = cap ∧ (∀ i, i < zs.length → w.cell? (x.add i) = some (.int k (zs.getD i 0))) ∧ ∀ n ∈ zs, (Lit.int k n).wf = true

theorem infoPF : (Try.prog.info? 34).map (fun i => (i.zero, i.size, i.bytes)) = some (some (.pointer none), 1, 8) := by kernel_rfl

/-! ### The walk -/
theorem walk (a0 : Option Addr) (len0 cap0 : Nat) (z0 : List Int) (a1 : Int) (w : World) (w0 : IsRow .i64 w a0 len0 cap0 z0) (w1 : (Lit.int .i64 a1).wf = true) :
    Calls Try.prog 5 #[.slice a0 len0 cap0, .int .i64 a1] w fun e w' => e = .returned (.bool true) ∧ Below w.heap.size w w' := by
  have hm0 : len0 ≤ 9223372036854775807 := by
    rcases w0 with ⟨_, h, _⟩ | ⟨_, _, h1, h2, _⟩
    · omega
    · unfold maxLen at h2; omega
  by_cases g0 : 1048576 < len0
  · go_enter Try.func5, Try.ntmps5
    go_wp2
    go_ret
    exact ⟨rfl, Below.refl _ _⟩
  by_cases g1 : 65536 < len0
  · go_enter Try.func5, Try.ntmps5
    go_wp2
    go_ret
    exact ⟨rfl, Below.refl _ _⟩
  by_cases g2 : a1 < 1
  · go_enter Try.func5, Try.ntmps5
    go_wp2
    go_ret
    exact ⟨rfl, Below.refl _ _⟩
  by_cases g3 : 8192 < a1
  · go_enter Try.func5, Try.ntmps5
    go_wp2
    go_ret
    exact ⟨rfl, Below.refl _ _⟩
  obtain ⟨N, rfl⟩ : ∃ N : Nat, a1 = (N : Int) := ⟨a1.toNat, by omega⟩
  by_cases g5 : 8 * N < len0
  · go_enter Try.func5, Try.ntmps5
    go_wp2
    go_ret
    exact ⟨rfl, Below.refl _ _⟩
  have hcl := clone_any a0 len0 cap0 z0 w (by omega) w0
  have hzl : (z0.take len0).length = len0 := by
    rcases w0 with ⟨_, h, _⟩ | ⟨_, _, h1, h2, h3, _⟩
    · subst h; simp
    · rw [List.length_take]; omega
  generalize z0.take len0 = zs at hcl hzl
  have H0 := Hid_mk (And.intro hcl hzl)
  clear hcl hzl w0 w1
  go_enter Try.func5, Try.ntmps5
  go_wp2_with (go_at_call 20; go_in)
  refine H0.out.1.mono ?_
  rintro e W1 ⟨v, rfl, hrow, hb1⟩
  obtain ⟨a, rfl, hx⟩ := hrow.form
  clear hx
  have hL := H0.out.2
  have hnew := new_any N W1 (by omega) (by omega)
  generalize hzl : zs.length = L at hL hrow
  have H1 := Hid_mk (And.intro hrow (And.intro hb1 (And.intro hzl hnew)))
  clear hrow hb1 hzl hnew
  subst hL
  go_wp2_with fail
  refine H1.out.2.2.2.mono ?_
  rintro e W2 ⟨s, g, B, rfl, hs2, hk2⟩
  have hrow2 := H1.out.1.keeps hk2
  have hpa := pushall_any W1.heap.size s N 0 0 g B (fun _ => (0, 0, 0)) zs _ W2 (hs2 _) hrow2 (by have := H1.out.2.2.1; omega) (by have := H1.out.2.2.1; omega)
  have H2 := Hid_mk (And.intro hk2 (And.intro hrow2 hpa))
  clear hk2 hrow2 hpa hs2
  go_wp2_with fail
  refine H2.out.2.2.mono ?_
  rintro e W3 ⟨rfl, k3, sp3, B3, hs3, hd3, hor3, hBx, hk3⟩
  clear hBx
  have hrow3 := H2.out.2.1.keeps hk3
  have hd3' : 8 * k3 + sp3 = L := by have := H1.out.2.2.1; omega
  have hor3' : 1 ≤ sp3 ∨ (L = 0 ∧ k3 = 0 ∧ sp3 = 0) := by have := H1.out.2.2.1; omega
  clear hd3 hor3
  have h8 := hs3.hsp
  have HS := Hid_mk (And.intro hs3 (And.intro hk3 hrow3))
  have hlt3 := hs3.ls
  have hb3 := hs3.bs
  clear hs3 hk3 hrow3
  obtain ⟨i0, hi, hz0, hz1, hz2⟩ := info_parts infoPF
  go_wp2_with (at_make; refine wpList_make_full _ rfl (.tmp 36) (.tmp 36) 33 rfl W3.heap.size 34 i0 (.pointer none) 1 Try.underlying33 hi hz0 hz1 .i64 .i64 (L : Int) (L : Int) L rfl rfl rfl rfl ?c1 ?c2 (Nat.le_refl _) ?_)
  case c1 => rw [hz2]; omega
  case c2 => unfold maxLen; omega
  intro W4 hown hgrow
  have hf4 := filledV_made (f := fun i => .pointer (some ⟨B3 (i / 8), i % 8 * 10, none⟩)) hown rfl
  have hs4 := HS.out.1.grown hgrow (fun b h => by cases h)
  have hb4 : Below W1.heap.size W3 W4 := (Below.refl _ _).grown hgrow (by omega) (fun b h => by cases h)
  have H4 := Hid_mk (And.intro hf4 (And.intro hs4 hb4))
  clear hown hgrow hf4 hs4 hb4 hi hz0 hz1 hz2
  generalize hpb : W3.heap.size = pb at H4
  have hpb' : W1.heap.size ≤ pb := by omega
  have HP := Hid_mk hpb
  clear hpb
  go_wp2_with fail
  go_loopg [7] L (fun gk i wr => ∃ m : Nat, m + gk = L ∧ i = .int .i64 m ∧ FilledV wr pb 34 L (fun i => .pointer (some ⟨B3 (i / 8), i % 8 * 10, none⟩)) m ∧ Stk W1.heap.size wr s N k3 sp3 g B3 (app (fun _ => (0, 0, 0)) (8 * 0 + 0) zs) ∧ Below W1.heap.size W3 wr)
  case atStart => exact ⟨0, by omega, rfl, H4.out.1, H4.out.2.1, H4.out.2.2⟩
  case round =>
    obtain ⟨m, hk, rfl, hf, hs, hb⟩ := hrel
    by_cases hlt : m < L
    · have hat := zat_any _ _ _ _ _ _ m _ _ wr hs (by omega)
      obtain ⟨y, cy⟩ := hf.some (j := m) hlt
      have fy := hf.free m
      have HH := Hid_mk (And.intro hk (And.intro hf (And.intro hs (And.intro hb hat))))
      clear hk hf hs hb hat
      generalize hq : (⟨B3 (m / 8), m % 8 * 10, none⟩ : Addr) = q at HH
      have HQ := Hid_mk hq
      clear hq
      go_wp2_with fail
      refine HH.out.2.2.2.2.mono ?_
      rintro e w' ⟨rfl, rfl⟩
      go_wp2_with fail
      go_roundg (gk - 1)
      case rel =>
        obtain ⟨C, hC⟩ := HH.out.2.1.blk
        refine ⟨m + 1, by have := HH.out.1; omega, by go_num, HH.out.2.1.step hlt (by rw [← HQ.out]), HH.out.2.2.1.setOther (p := ⟨pb, m, none⟩) hC (by decide) _, HH.out.2.2.2.1.setCell (p := ⟨pb, m, none⟩) hpb' _⟩
      case measure => have := HH.out.1; omega
    · have hml : m = L := by omega
      subst hml
      have HH := Hid_mk (And.intro hf (And.intro hs hb))
      clear hk hf hs hb H4 hlt
      go_wp2_with fail
      go_loopg [8, 9] m (fun gk i f wr => ∃ (k' sp' : Nat), 8 * k' + sp' = gk ∧ gk ≤ m ∧ i = .int .i64 ((gk : Int) - 1) ∧ Stk W1.heap.size wr s N k' sp' g B3 (app (fun _ => (0, 0, 0)) (8 * 0 + 0) zs) ∧ FilledV wr pb 34 m (fun i => .pointer (some ⟨B3 (i / 8), i % 8 * 10, none⟩)) m ∧ Below W1.heap.size W3 wr)
      case atStart => exact ⟨k3, sp3, hd3', Nat.le_refl _, rfl, HH.out.2.1, HH.out.1, HH.out.2.2⟩
      case round =>
        obtain ⟨k', sp', hk, hgn, rfl, hs, hf, hb⟩ := hrel
        by_cases hlt : 0 < gk
        · obtain ⟨x, rfl⟩ : ∃ x, gk = x + 1 := ⟨gk - 1, by omega⟩
          have hpop := zpop_any _ s N k' sp' g B3 _ _ hs (by omega)
          have em : ((x + 1 : Nat) : Int) - 1 = (x : Int) := by omega
          have hxm : x < m := by omega
          rw [em]
          have H5 := Hid_mk (And.intro hk (And.intro hgn (And.intro hf (And.intro hb (And.intro hpop hs)))))
          clear hk hgn hs hf hb hpop em hlt
          go_wp2_with fail
          refine H5.out.2.2.2.2.1.mono ?_
          rintro e w' ⟨k2, sp2, rfl, hs2, hd2, hkk2, h82, hfc, hkp2⟩
          clear hfc
          have hx2 : 8 * k2 + sp2 = x := by have := H5.out.1; omega
          have hf2 := H5.out.2.2.1.keeps hkp2 (by decide)
          have hc := hf2.cell hxm
          rw [show x / 8 = k2 by omega, show x % 8 = sp2 by omega] at hc
          have hne := neq_frame ⟨B3 k2, sp2 * 10, none⟩
          have H6 := Hid_mk (And.intro hs2 (And.intro hx2 (And.intro hkp2 hf2)))
          clear hs2 hd2 hkk2 hkp2 hx2 hf2
          generalize (⟨B3 k2, sp2 * 10, none⟩ : Addr) = q at hc hne
          go_wp2_with fail
          go_roundg x
          case rel => exact ⟨k2, sp2, H6.out.2.1, by omega, rfl, H6.out.1, H6.out.2.2.2, H5.out.2.2.2.1.trans H6.out.2.2.1.below⟩
          case measure => omega
        · have h0 : gk = 0 := by omega
          subst h0
          obtain ⟨rfl, rfl⟩ : k' = 0 ∧ sp' = 0 := by omega
          have hpop := zpop_nil _ s N g B3 _ _ hs
          have H5 := Hid_mk (And.intro hb hpop)
          clear hk hgn hs hf hb hpop hlt
          go_wp2_with fail
          refine H5.out.2.mono ?_
          rintro e w' ⟨rfl, hs2, hkp2⟩
          have H6 := Hid_mk hkp2
          clear hs2 hkp2
          go_wp2_with fail
          go_ret
          refine ⟨rfl, H1.out.2.1.trans ?_⟩
          exact (((H2.out.1.trans HS.out.2.1).below).trans (H5.out.1.trans H6.out.below)).mono H1.out.2.1.size

end Go.Proofs.Ytnccihkllpabgaa.fnAtIsWherePopLands
