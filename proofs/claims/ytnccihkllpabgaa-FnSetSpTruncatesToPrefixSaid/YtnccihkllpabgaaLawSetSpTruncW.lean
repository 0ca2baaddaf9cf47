/- The walk of the law whose statement is: FnSetSpTruncatesToPrefix: for every slice, nseg and k SetSp(k) leaves the first d frames, d from the law's own table: the law returns true and its arguments read as before. Conditions: none. -/
import Derived.Test.YtnccihkllpabgaaRows
import Derived.WalkKit
import Derived.ProofKit
import Derived.OpenShut
import Derived.ShutString
import Derived.ChangeOld
import Derived.Below
import Derived.Test.YtnccihkllpabgaaOps141
import Derived.Test.YtnccihkllpabgaaDepth
namespace Go.Proofs.Ytnccihkllpabgaa.fnSetSpTruncatesToPrefix
open Go.ChangeShapes Go.WideShapes Go.ChangeAt Go.RowKit
open Go.ChangeMaps (open_string shut_string)
set_option linter.unusedVariables false


/-- What the walk is told of a slice that came in. -/
def IsRow (k : IntKind) (w : World) (a : Option Addr) (len cap : Nat) (zs : List Int) : Prop :=
  (a = none ∧ len = 0 ∧ cap = 0 ∧ zs = []) ∨
  ∃ x, a = some x ∧ len ≤ cap ∧ cap ≤ maxLen ∧ zs.length = cap ∧ (∀ i, i < zs.length → w.cell? (x.add i) = some (.int k (zs.getD i 0))) ∧ ∀ n ∈ zs, (Lit.int k n).wf = true

/-! ### The walk -/
theorem walk (a0 : Option Addr) (len0 cap0 : Nat) (z0 : List Int) (a1 : Int) (a2 : Int) (w : World) (w0 : IsRow .i64 w a0 len0 cap0 z0) (w1 : (Lit.int .i64 a1).wf = true) (w2 : (Lit.int .i64 a2).wf = true) :
    Calls Try.prog 4 #[.slice a0 len0 cap0, .int .i64 a1, .int .i64 a2] w fun e w' => e = .returned (.bool true) ∧ Below w.heap.size w w' := by
  have hm0 : len0 ≤ 9223372036854775807 := by
    rcases w0 with ⟨_, h, _⟩ | ⟨_, _, h1, h2, _⟩
    · omega
    · unfold maxLen at h2; omega
  by_cases g0 : 1048576 < len0
  · go_enter Try.func4, Try.ntmps4
    go_wp2
    go_ret
    exact ⟨rfl, Below.refl _ _⟩
  by_cases g1 : 65536 < len0
  · go_enter Try.func4, Try.ntmps4
    go_wp2
    go_ret
    exact ⟨rfl, Below.refl _ _⟩
  by_cases g2 : a1 < 1
  · go_enter Try.func4, Try.ntmps4
    go_wp2
    go_ret
    exact ⟨rfl, Below.refl _ _⟩
  by_cases g3 : 8192 < a1
  · go_enter Try.func4, Try.ntmps4
    go_wp2
    go_ret
    exact ⟨rfl, Below.refl _ _⟩
  obtain ⟨N, rfl⟩ : ∃ N : Nat, a1 = (N : Int) := ⟨a1.toNat, by omega⟩
  by_cases g5 : 8 * N < len0
  · go_enter Try.func4, Try.ntmps4
    go_wp2
    go_ret
    exact ⟨rfl, Below.refl _ _⟩
  by_cases g6 : a2 < 0
  · go_enter Try.func4, Try.ntmps4
    go_wp2
    go_ret
    exact ⟨rfl, Below.refl _ _⟩
  by_cases g7 : (len0 : Int) < a2
  · go_enter Try.func4, Try.ntmps4
    go_wp2
    go_ret
    exact ⟨rfl, Below.refl _ _⟩
  obtain ⟨t, rfl⟩ : ∃ t : Nat, a2 = (t : Int) := ⟨a2.toNat, by omega⟩
  have hcl := clone_any a0 len0 cap0 z0 w (by omega) w0
  have hzl : (z0.take len0).length = len0 := by
    rcases w0 with ⟨_, h, _⟩ | ⟨_, _, h1, h2, h3, _⟩
    · subst h; simp
    · rw [List.length_take]; omega
  generalize z0.take len0 = zs at hcl hzl
  have H0 := Hid_mk (And.intro hcl hzl)
  clear hcl hzl w0 w1 w2
  go_enter Try.func4, Try.ntmps4
  go_wp2_with (go_at_call 17; go_in)
  refine H0.out.1.mono ?_
  rintro e W1 ⟨v, rfl, hrow, hb1⟩
  obtain ⟨a, rfl, hx⟩ := hrow.form
  clear hx
  have hL := H0.out.2
  have hnew := new_any N W1 (by omega) (by omega)
  generalize hzl : zs.length = L at hL hrow
  have H1 := Hid_mk (And.intro hrow (And.intro hb1 (And.intro hzl hnew)))
  clear hrow hb1 hzl hnew
  subst hL
  go_wp2_with fail
  refine H1.out.2.2.2.mono ?_
  rintro e W2 ⟨s, g, B, rfl, hs2, hk2⟩
  have hrow2 := H1.out.1.keeps hk2
  have hpa := pushall_any W1.heap.size s N 0 0 g B (fun _ => (0, 0, 0)) zs _ W2 (hs2 _) hrow2 (by have := H1.out.2.2.1; omega) (by have := H1.out.2.2.1; omega)
  have H2 := Hid_mk (And.intro hk2 (And.intro hrow2 hpa))
  clear hk2 hrow2 hpa hs2
  go_wp2_with fail
  refine H2.out.2.2.mono ?_
  rintro e W3 ⟨rfl, k3, sp3, B3, hs3, hd3, hor3, hBx, hk3⟩
  clear hBx
  have hrow3 := H2.out.2.1.keeps hk3
  have hd3' : 8 * k3 + sp3 = L := by have := H1.out.2.2.1; omega
  have hor3' : 1 ≤ sp3 ∨ (L = 0 ∧ k3 = 0 ∧ sp3 = 0) := by have := H1.out.2.2.1; omega
  clear hd3 hor3
  have htl : t ≤ L := by omega
  have h8 := hs3.hsp
  have hset := zsetsp_any _ _ _ _ _ _ t _ _ W3 hs3 (by omega)
  have H3 := Hid_mk (And.intro hk3 (And.intro hrow3 (And.intro hd3' (And.intro hor3' hset))))
  clear hk3 hrow3 hd3' hor3' hset hs3
  go_wp2_with fail
  refine H3.out.2.2.2.2.mono ?_
  rintro e W4 ⟨rfl, k4, hs4, hk4, hor4, hkp4⟩
  have hdep := depth_any L t W4 (by omega) htl
  have hrow4 := H3.out.2.1.keeps hkp4
  have hdd : 8 * k4 + t % 8 = depthOf L t := by
    have h1 := H3.out.2.2.1
    have h2 := H3.out.2.2.2.1
    unfold depthOf
    split <;> omega
  have hdr := drain_any _ _ _ _ _ _ _ _ zs _ W4 hs4 hrow4 (by have := H1.out.2.2.1; have h1 := H3.out.2.2.1; omega) (fun m hm => by unfold app; simp) (depthOf L t) hdd.symm (by unfold depthOf; split <;> omega)
  have H4 := Hid_mk (And.intro hkp4 (And.intro hdep hdr))
  clear hs4 hk4 hor4 hkp4 hdep hrow4 hdd hdr
  generalize depthOf L t = d at H4
  go_wp2_with fail
  refine H4.out.2.1.mono ?_
  rintro e W5 ⟨rfl, rfl⟩
  go_wp2_with fail
  refine H4.out.2.2.mono ?_
  rintro e W6 ⟨rfl, hk6⟩
  have H6 := Hid_mk hk6
  clear hk6
  go_wp2_with fail
  go_ret
  refine ⟨rfl, H1.out.2.1.trans ?_⟩
  exact ((H2.out.1.trans (H3.out.1.trans (H4.out.1.trans H6.out))).below).mono H1.out.2.1.size

end Go.Proofs.Ytnccihkllpabgaa.fnSetSpTruncatesToPrefix
