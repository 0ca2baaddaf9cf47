/- The contract of the package's own maker of an empty stack for maxSize frames, for maxSize from 1 to 65536. -/
import Derived.Test.YtifdflmleplpkaaStkGrow
import Derived.Deep.RegionWith
namespace Go.Proofs.Ytifdflmleplpkaa
open Go.RowKit

theorem infoSeg : (Try.prog.info? 48).map (fun i => (i.zero, i.size, i.bytes)) = some (some (.pointer none), 1, 8) := by kernel_rfl

def NewPost (w : World) (N : Nat) (e : Ending) (w' : World) : Prop :=
  ∃ s g B, e = .returned (.pointer (some ⟨s, 0, none⟩)) ∧ (∀ F, Stk w.heap.size w' s N 0 0 g B F) ∧ Keeps w.heap.size w w'

theorem made_row {w : World} {base n g cap : Nat} {xs : List Value} {e : TypeId} (h : w.ownsRow base e 1 (.slice (some ⟨g, 0, none⟩) n cap) n xs) (hc : cap = n) : ∃ P : Array Value, w.heap[g]? = some (.cells P e (0, 0)) ∧ P.size = n := by
  rcases h.2 with ⟨h', _⟩ | ⟨g', cap', cur, h', _, hg, _, _, hs, _⟩
  · simp at h'
  · simp only [Value.slice.injEq, Option.some.injEq, Addr.mk.injEq, and_true, true_and] at h'
    obtain ⟨rfl, rfl⟩ := h'
    exact ⟨cur, hg, by omega⟩

theorem new_fin {w w1 : World} {N : Nat} (hN : N ≤ 8192) (h0 : 0 < N) (C : Array Value) (hC : C.size = 80) (P : Array Value) (hP : P.size = N)
    (hb : Below w.heap.size w w1) (hg : w1.heap[w.heap.size]? = some (.cells P 48 (0, 0))) :
    NewPost w N (.returned (.pointer (some ⟨w1.heap.size, 0, none⟩))) (((w1.setCell ⟨w.heap.size, 0, none⟩ (.pointer (some ⟨w1.heap.size + 1, 0, none⟩))).alloc (.cells #[.slice (some ⟨w.heap.size, 0, none⟩) N N, .int .u16 0, .int .u8 0] 46)).alloc (.cells C 51)).drew := by
  have hlt := lt_of_block hg
  have q : (w1.setCell ⟨w.heap.size, 0, none⟩ (.pointer (some ⟨w1.heap.size + 1, 0, none⟩))).heap.size = w1.heap.size := by simp
  have gg := heap_setCell_same w1 w.heap.size 0 _ _ (.pointer (some ⟨w1.heap.size + 1, 0, none⟩)) hg
  have K0 : Keeps w.heap.size w w1 := ⟨hb, fun x c t f e _ => by rw [hb.block x (lt_of_block e)]; exact e⟩
  have K1 := K0.setCell (p := ⟨w.heap.size, 0, none⟩) (Nat.le_refl _) hg (by decide) (.pointer (some ⟨w1.heap.size + 1, 0, none⟩))
  generalize w1.setCell ⟨w.heap.size, 0, none⟩ (.pointer (some ⟨w1.heap.size + 1, 0, none⟩)) = u at q gg K1
  have n1 := heap_alloc_new u (.cells #[.slice (some ⟨w.heap.size, 0, none⟩) N N, .int .u16 0, .int .u8 0] 46)
  rw [q] at n1
  have K2 := K1.alloc (by omega) (.cells #[.slice (some ⟨w.heap.size, 0, none⟩) N N, .int .u16 0, .int .u8 0] 46)
  have g2 : (u.alloc (.cells #[.slice (some ⟨w.heap.size, 0, none⟩) N N, .int .u16 0, .int .u8 0] 46)).heap[w.heap.size]? = _ := (Below.heap_alloc _ _ _ (by omega)).trans gg
  have q2 : (u.alloc (.cells #[.slice (some ⟨w.heap.size, 0, none⟩) N N, .int .u16 0, .int .u8 0] 46)).heap.size = w1.heap.size + 1 := by simp [q]
  generalize u.alloc (.cells #[.slice (some ⟨w.heap.size, 0, none⟩) N N, .int .u16 0, .int .u8 0] 46) = x at n1 K2 g2 q2
  have n2 := heap_alloc_new x (.cells C 51)
  rw [q2] at n2
  have K3 := K2.alloc (by omega) (.cells C 51)
  have g3 : (x.alloc (.cells C 51)).heap[w.heap.size]? = _ := (Below.heap_alloc _ _ _ (by omega)).trans g2
  have s3 : (x.alloc (.cells C 51)).heap[w1.heap.size]? = _ := (Below.heap_alloc _ _ _ (by omega)).trans n1
  generalize x.alloc (.cells C 51) = y at n2 K3 g3 s3
  refine ⟨w1.heap.size, w.heap.size, fun _ => w1.heap.size + 1, rfl, fun F => ⟨h0, hN, by omega, by omega, Nat.le_refl _, fun _ _ => by omega, s3, ?_, ?_, ?_⟩, K3.alike rfl rfl rfl rfl⟩
  · refine ⟨_, g3, by simpa using hP, ?_⟩
    intro i hi
    have : i = 0 := by omega
    subst this
    rw [Array.getElem?_setIfInBounds, if_pos rfl, if_pos (by omega)]
  · intro i hi
    exact ⟨C, n2, hC, fun j _ hm => by omega⟩
  · intro i j hi hj _
    omega

theorem assert_any (a : Addr) (w : World) : (Instr.typeAssert (.iface 23 (.pointer (some a))) 40 23 false).run Try.prog w = .ok (.pointer (some a)) w := by kernel_rfl

theorem newseg_x (w : World) : Calls Try.prog 21 #[] w fun e w' => e = .returned (.pointer (some ⟨w.heap.size, 0, none⟩)) ∧ w.alloc (.cells segZ 51) = w' := by
  have hz := zeroSeg
  go_enter Try.func21, Try.ntmps21
  go_wp2_with fail
  go_ret
  exact ⟨rfl, rfl⟩

set_option maxRecDepth 100000 in
set_option maxHeartbeats 400000 in
theorem newauto_any (m N : Nat) (w : World) (h0 : 1 ≤ m) (hm : m ≤ 65536) (hN : N = (m + 7) / 8) : Calls Try.prog 8 #[.int .i64 m] w (NewPost w N) := by
  obtain ⟨i0, hi, hz0, hz1, hz2⟩ := info_parts infoSeg
  have hN1 : 0 < N := by omega
  have hN2 : N ≤ 8192 := by omega
  have hq : ((m : Int) + 7) / 8 = (N : Int) := by omega
  have HQ := Hid_mk hq
  clear hN hq
  go_enter Try.func8, Try.ntmps8
  go_wp2_with (first | (at_make; refine wpList_make_full _ rfl (.tmp 6) (.tmp 6) 44 rfl w.heap.size 48 i0 (.pointer none) 1 Try.underlying44 hi hz0 hz1 .i64 .i64 (((m : Int) + 7) / 8) (((m : Int) + 7) / 8) N rfl rfl HQ.out HQ.out ?c1 ?c2 (Nat.le_refl _) ?_) | (go_at_call 19; go_in))
  case c1 => rw [hz2]; omega
  case c2 => unfold maxLen; omega
  intro w1 hown hgrow
  obtain ⟨P, hP, hPs⟩ := made_row hown rfl
  have hb : Below w.heap.size w w1 := (Below.refl _ _).grown hgrow (Nat.le_refl _) (fun k h => by cases h)
  have hlt := lt_of_block hP
  have cz : w1.cell? ⟨w.heap.size, 0, none⟩ = some (P[0]'(by omega)) := by rw [cell_of_row _ _ _ _ _ _ hP]; simp [show 0 < P.size by omega]
  have fz : w1.frozen? ⟨w.heap.size, 0, none⟩ = false := frozen_of_row _ _ _ _ _ hP
  have HF := Hid_mk (And.intro hb (And.intro hP hPs))
  have hta := assert_any
  clear hown hgrow hb hP hi hz0 hz1 hz2
  go_wp2_with fail
  go_region_with (go_at_call 21; refine (newseg_x _).mono ?_; rintro e w' ⟨rfl, rfl⟩)
  all_goals go_wp2_with fail
  all_goals go_ret
  all_goals exact new_fin hN2 hN1 segZ segZ_size P HF.out.2.2 HF.out.1 HF.out.2.1
end Go.Proofs.Ytifdflmleplpkaa
