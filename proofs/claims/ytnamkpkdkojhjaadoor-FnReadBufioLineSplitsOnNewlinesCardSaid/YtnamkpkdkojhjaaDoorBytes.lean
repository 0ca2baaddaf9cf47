/- The contracts of the laws' own clone of a slice of bytes and of their comparison of two slices that hold the same bytes. -/
import Derived.Test.YtnamkpkdkojhjaaDoorRdNew
import Derived.BigQuiet
import Derived.Deep.QuietTactic
import Derived.Deep.LoopGhost
import Derived.Laws.CopyOwn
import Derived.WalkSpells
import Derived.OpenShut
namespace Go.Proofs.YtnamkpkdkojhjaaDoor
open Go.RowKit

/-- What the walk is told of a slice of bytes that came in. -/
def IsRow (w : World) (a : Option Addr) (len cap : Nat) (zs : List Int) : Prop :=
  (a = none ∧ len = 0 ∧ cap = 0 ∧ zs = []) ∨
  ∃ x, a = some x ∧ len ≤ cap ∧ cap ≤ maxLen ∧ zs.length = cap ∧ (∀ i, i < zs.length → w.cell? (x.add i) = some (.int .u8 (zs.getD i 0))) ∧ ∀ n ∈ zs, (Lit.int .u8 n).wf = true

theorem IsRow.size {w : World} {a : Option Addr} {len cap : Nat} {zs : List Int} (h : IsRow w a len cap zs) : len ≤ 9223372036854775807 ∧ (zs.take len).length = len := by
  rcases h with ⟨_, h, _, h2⟩ | ⟨_, _, h1, h2, h3, _⟩
  · subst h; subst h2; simp
  · unfold maxLen at h2
    rw [List.length_take]
    omega
theorem IsRow.byte {w : World} {a : Option Addr} {len cap : Nat} {zs : List Int} (h : IsRow w a len cap zs) : ∀ z, z ∈ zs.take len → 0 ≤ z ∧ z ≤ 255 := by
  intro z hz
  rcases h with ⟨_, _, _, h2⟩ | ⟨_, _, _, _, _, _, h5⟩
  · subst h2; simp at hz
  · exact Go.bounds_u8 (h5 z (List.mem_of_mem_take hz))

def ClonePost (w : World) (bs : List Int) (e : Ending) (w' : World) : Prop :=
  ∃ sa, e = .returned (.slice sa bs.length bs.length) ∧ Fr [] w w' ∧
    ((sa = none ∧ bs = []) ∨ ∃ Sb, sa = some ⟨Sb, 0, none⟩ ∧ w'.heap[Sb]? = some (.cells (bs.map (Value.int .u8)).toArray 5 (0, 0)))

set_option maxRecDepth 100000 in
theorem clone_nil (w : World) : Calls Tryd.prog 8 #[.slice none 0 0] w (ClonePost w []) := by
  have hq := fun (w : World) (a : Option Addr) (l c : Nat) => Lib.run_eql_slice_nil (P := Tryd.prog) w 22 5 a l c 0 0 Tryd.underlying22
  go_enter Tryd.func8, Tryd.ntmps8
  go_wp2_with fail
  go_ret
  exact ⟨none, rfl, Fr.refl _ _, .inl ⟨rfl, rfl⟩⟩

set_option maxHeartbeats 400000 in
theorem clone_some (x : Addr) (len cap : Nat) (z : List Int) (w : World) (hl : len ≤ 1048576) (hz : len ≤ z.length) (hc : ∀ i, i < len → w.cell? (x.add i) = some (.int .u8 (z.getD i 0))) :
    Calls Tryd.prog 8 #[.slice (some x) len cap] w (ClonePost w (z.take len)) := by
  have hq := fun (w : World) (a : Option Addr) (l c : Nat) => Lib.run_eql_slice_nil (P := Tryd.prog) w 22 5 a l c 0 0 Tryd.underlying22
  obtain ⟨i0, hi, hz0, hz1, hz2⟩ := info_parts infoByte
  have hlen : ((z.take len).map (Value.int .u8)).length = len := by simp; omega
  obtain ⟨cs, hcs⟩ : ∃ cs, cs = (z.take len).map (Value.int .u8) := ⟨_, rfl⟩
  have hone : ∀ v ∈ cs, v.oneCell' = true := by rw [hcs]; exact ints_oneCell .u8 _
  rw [← hcs] at hlen
  have hsrc : ∀ j v, cs[j]? = some v → j < len ∧ w.cell? (x.add j) = some v := by
    intro j v hj
    have hjl : j < len := by rw [← hlen]; exact (List.getElem?_eq_some_iff.1 hj).1
    refine ⟨hjl, (hc j hjl).trans ?_⟩
    rw [← hj, hcs]
    have : j < z.length := by omega
    simp [hjl, this]
  have H := Hid_mk (And.intro hcs (And.intro hone (And.intro hlen hsrc)))
  clear hcs hone hlen hsrc hc
  go_enter Tryd.func8, Tryd.ntmps8
  go_wp2_with (at_make; refine wpList_make_full _ rfl (.tmp 7) (.tmp 7) 22 rfl w.heap.size 5 i0 (.int .u8 0) 1 Tryd.underlying22 hi hz0 hz1 .i64 .i64 (len : Int) (len : Int) len rfl rfl rfl rfl ?c1 ?c2 (Nat.le_refl _) ?_)
  case c1 => first | omega | (rw [hz2]; omega)
  case c2 => unfold maxLen; omega
  intro w1 hown hgrow
  obtain ⟨C, hB, hC⟩ := made_row hown rfl
  have F1 := (Fr.refl [] w).grown hgrow (fun g h => by cases h)
  have hsrc1 : ∀ j v, cs[j]? = some v → w1.cell? (x.add j) = some v := fun j v hj => hgrow.cell (H.out.2.2.2 j v hj).2 (by simp)
  have H1 := Hid_mk (And.intro hB (And.intro hC (And.intro F1 hsrc1)))
  clear hown hgrow hi hz0 hz1 hz2 hB hC F1 hsrc1
  go_wp2_with (refine wpList_copy_own (o := ⟨some 11, _, _, _, _, _⟩) rfl (.tmp 9) (.tmp 10) 22 22 rfl 5 Tryd.underlying22 run_info5 w.heap.size 0 len len x len cap (by simp [Act.eval]) (by simp [Act.eval]) C 5 H1.out.1 cs (by rw [H.out.2.2.1]; simp) H1.out.2.2.2 (by rw [H.out.2.2.1, H1.out.2.1]; omega) H.out.2.1 ?_)
  generalize hX : (cs ++ List.drop cs.length C.toList).toArray = X
  have hX2 : X = ((z.take len).map (Value.int .u8)).toArray := by
    rw [← hX, ← H.out.1]
    have : C.toList.drop cs.length = [] := by
      apply List.drop_eq_nil_of_le
      rw [H.out.2.2.1]; simp [H1.out.2.1]
    rw [this]; simp
  generalize hWs : World.setRow w1 w.heap.size X = W2
  have hp2 : W2.heap[w.heap.size]? = some (.cells X 5 (0, 0)) := by rw [← hWs]; exact setRow_heap _ _ _ _ _ _ H1.out.1
  have F2 : Fr [] w W2 := by
    rw [← hWs]
    have F1 := H1.out.2.2.1
    exact ⟨F1.os, F1.tape, F1.output, Nat.le_trans F1.size (by simp [World.setRow]), fun b hb h => (setRow_other _ _ _ _ (by omega)).trans (F1.block b hb h)⟩
  have H2 := Hid_mk (And.intro hp2 (And.intro hX2 F2))
  clear hp2 hX2 F2 hWs hX
  go_wp2_with fail
  go_ret
  have e : (z.take len).length = len := by rw [List.length_take]; omega
  refine ⟨some ⟨w.heap.size, 0, none⟩, by rw [e]; rfl, H2.out.2.2, .inr ⟨_, rfl, ?_⟩⟩
  rw [H2.out.1, H2.out.2.1]

theorem clone_any (a : Option Addr) (len cap : Nat) (z : List Int) (w : World) (hl : len ≤ 1048576) (h : IsRow w a len cap z) :
    Calls Tryd.prog 8 #[.slice a len cap] w (ClonePost w (z.take len)) := by
  rcases h with ⟨rfl, rfl, rfl, rfl⟩ | ⟨x, rfl, h1, h2, h3, h4, h5⟩
  · exact clone_nil w
  · exact clone_some x len cap z w hl (by omega) (fun i hi => h4 i (by omega))

/-- Where the bytes xs lie from address a on. -/
def Lies (w : World) (a : Option Addr) (xs : List Int) : Prop := ∀ i, i < xs.length → ∃ b o, a = some ⟨b, o, none⟩ ∧ w.cell? ⟨b, o + i, none⟩ = some (.int .u8 (xs.getD i 0))

set_option maxHeartbeats 400000 in
theorem same_true (aa ba : Option Addr) (ca cb : Nat) (xs : List Int) (w : World) (hl : xs.length ≤ 1048576) (hA : Lies w aa xs) (hB : Lies w ba xs) :
    Calls Tryd.prog 11 #[.slice aa xs.length ca, .slice ba xs.length cb] w fun e w' => e = .returned (.bool true) ∧ w'.heap = w.heap ∧ Fr [] w w' := by
  obtain ⟨n, hn⟩ : ∃ n, xs.length = n := ⟨_, rfl⟩
  unfold Lies at hA hB
  rw [hn] at hl hA hB ⊢
  have H := Hid_mk (And.intro hn (And.intro hA hB))
  clear hn hA hB
  go_enter Tryd.func11, Tryd.ntmps11
  go_wp2_with fail
  go_loopg [5] n (fun gk i wr => ∃ k : Nat, k + gk = n ∧ i = .int .i64 k ∧ wr.heap = w.heap ∧ Fr [] w wr)
  case atStart => exact ⟨0, by omega, rfl, rfl, Fr.refl _ _⟩
  case round =>
    obtain ⟨k, hk, rfl, hh, hf⟩ := hrel
    by_cases hlt : k < n
    · obtain ⟨b1, o1, ha1, hc1⟩ := H.out.2.1 k hlt
      obtain ⟨b2, o2, ha2, hc2⟩ := H.out.2.2 k hlt
      subst ha1
      subst ha2
      generalize xs.getD k 0 = z at hc1 hc2
      have d1 : wr.cell? ⟨b1, o1 + k, none⟩ = some (.int .u8 z) := (World.cell?_of_block (by rw [hh])).trans hc1
      have d2 : wr.cell? ⟨b2, o2 + k, none⟩ = some (.int .u8 z) := (World.cell?_of_block (by rw [hh])).trans hc2
      have HH := Hid_mk (And.intro hk (And.intro hh hf))
      clear hk hh hf hc1 hc2
      go_wp2_with fail
      go_quiet (fail)
      go_wp2_with fail
      go_roundg (gk - 1)
      case rel => exact ⟨k + 1, by have := HH.out.1; omega, by go_num, HH.out.2.1, HH.out.2.2.drewN _⟩
      case measure => have := HH.out.1; omega
    · have HH := Hid_mk (And.intro hh hf)
      clear hk hh hf
      go_wp2_with fail
      go_ret
      exact ⟨rfl, HH.out.1, HH.out.2⟩
end Go.Proofs.YtnamkpkdkojhjaaDoor
