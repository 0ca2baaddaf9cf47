/- The contract of the maker of an empty stack with room for nseg segments, for nseg from 1 to 8192. -/
import Derived.Test.YtnccihkllpabgaaStkBase
namespace Go.Proofs.Ytnccihkllpabgaa
open Go.RowKit

theorem infoSeg : (Try.prog.info? 42).map (fun i => (i.zero, i.size, i.bytes)) = some (some (.pointer none), 1, 8) := by kernel_rfl

def NewPost (w : World) (N : Nat) (e : Ending) (w' : World) : Prop :=
  ∃ s g B, e = .returned (.pointer (some ⟨s, 0, none⟩)) ∧ (∀ F, Stk w.heap.size w' s N 0 0 g B F) ∧ Keeps w.heap.size w w'

theorem new_fin {w w1 : World} {N : Nat} (hN : N ≤ 8192) (h0 : 0 < N) (C : Array Value) (hC : C.size = 80) (P : Array Value) (hP : P.size = N)
    (hb : Below w.heap.size w w1) (hg : w1.heap[w.heap.size]? = some (.cells P 42 (0, 0))) :
    NewPost w N (.returned (.pointer (some ⟨w1.heap.size + 1, 0, none⟩))) (((w1.setCell ⟨w.heap.size, 0, none⟩ (.pointer (some ⟨w1.heap.size, 0, none⟩))).alloc (.cells C 45)).alloc (.cells #[.slice (some ⟨w.heap.size, 0, none⟩) N N, .int .u16 0, .int .u8 0] 49)) := by
  have hlt := lt_of_block hg
  have q : (w1.setCell ⟨w.heap.size, 0, none⟩ (.pointer (some ⟨w1.heap.size, 0, none⟩))).heap.size = w1.heap.size := by simp
  have gg := heap_setCell_same w1 w.heap.size 0 _ _ (.pointer (some ⟨w1.heap.size, 0, none⟩)) hg
  have K0 : Keeps w.heap.size w w1 := ⟨hb, fun x c t f e _ => by rw [hb.block x (lt_of_block e)]; exact e⟩
  have K1 := K0.setCell (p := ⟨w.heap.size, 0, none⟩) (Nat.le_refl _) hg (by decide) (.pointer (some ⟨w1.heap.size, 0, none⟩))
  generalize w1.setCell ⟨w.heap.size, 0, none⟩ (.pointer (some ⟨w1.heap.size, 0, none⟩)) = u at q gg K1
  have q2 : (u.alloc (.cells C 45)).heap.size = w1.heap.size + 1 := by simp [q]
  refine ⟨w1.heap.size + 1, w.heap.size, fun _ => w1.heap.size, rfl, fun F => ⟨h0, hN, by omega, by omega, Nat.le_refl _, fun _ _ => by omega, ?_, ?_, ?_, ?_⟩, (K1.alloc (by omega) _).alloc (by omega) _⟩
  · have := heap_alloc_new (u.alloc (.cells C 45)) (.cells #[.slice (some ⟨w.heap.size, 0, none⟩) N N, .int .u16 0, .int .u8 0] 49)
    rw [q2] at this
    rw [this]
    rfl
  · refine ⟨_, by rw [Below.heap_alloc _ _ _ (by omega), Below.heap_alloc _ _ _ (by omega)]; exact gg, by simpa using hP, ?_⟩
    intro i hi
    have : i = 0 := by omega
    subst this
    rw [Array.getElem?_setIfInBounds, if_pos rfl, if_pos (by omega)]
  · intro i hi
    refine ⟨C, ?_, hC, fun j _ hm => by omega⟩
    rw [Below.heap_alloc _ _ _ (by omega)]
    have := heap_alloc_new u (.cells C 45)
    rw [q] at this
    exact this
  · intro i j hi hj _
    omega

theorem made_row {w : World} {base n g cap : Nat} {xs : List Value} {e : TypeId} (h : w.ownsRow base e 1 (.slice (some ⟨g, 0, none⟩) n cap) n xs) (hc : cap = n) : ∃ P : Array Value, w.heap[g]? = some (.cells P e (0, 0)) ∧ P.size = n := by
  rcases h.2 with ⟨h', _⟩ | ⟨g', cap', cur, h', _, hg, _, _, hs, _⟩
  · simp at h'
  · simp only [Value.slice.injEq, Option.some.injEq, Addr.mk.injEq, and_true, true_and] at h'
    obtain ⟨rfl, rfl⟩ := h'
    exact ⟨cur, hg, by omega⟩

set_option maxRecDepth 100000 in
set_option maxHeartbeats 400000 in
theorem new_any (N : Nat) (w : World) (h0 : 0 < N) (hN : N ≤ 8192) : Calls Try.prog 13 #[.int .i64 N] w (NewPost w N) := by
  obtain ⟨i0, hi, hz0, hz1, hz2⟩ := info_parts infoSeg
  go_enter Try.func13, Try.ntmps13
  go_wp2_with (at_make; refine wpList_make_full _ rfl (.tmp 4) (.tmp 4) 41 rfl w.heap.size 42 i0 (.pointer none) 1 Try.underlying41 hi hz0 hz1 .i64 .i64 (N : Int) (N : Int) N rfl rfl rfl rfl ?c1 ?c2 (Nat.le_refl _) ?_)
  case c1 => rw [hz2]; omega
  case c2 => unfold maxLen; omega
  intro w1 hown hgrow
  obtain ⟨P, hP, hPs⟩ := made_row hown rfl
  have hb : Below w.heap.size w w1 := (Below.refl _ _).grown hgrow (Nat.le_refl _) (fun k h => by cases h)
  have hlt := lt_of_block hP
  have cz : w1.cell? ⟨w.heap.size, 0, none⟩ = some (P[0]'(by omega)) := by rw [cell_of_row _ _ _ _ _ _ hP]; simp [show 0 < P.size by omega]
  have fz : w1.frozen? ⟨w.heap.size, 0, none⟩ = false := frozen_of_row _ _ _ _ _ hP
  have hfin := fun C hC => new_fin hN h0 C hC P hPs hb hP
  have HF := Hid_mk hfin
  clear hown hgrow hb hfin hP
  go_wp2_with fail
  go_ret
  exact HF.out _ rfl
end Go.Proofs.Ytnccihkllpabgaa
