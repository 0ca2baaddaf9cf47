/- A row of values being filled in order; pointers compared with themselves. -/
import Derived.Test.YtnccihkllpabgaaStkBase
import Derived.LaidEqlPtr
namespace Go.Proofs.Ytnccihkllpabgaa
open Go.RowKit

/-- The first k cells of a block of n cells of kind e hold f. -/
def FilledV (wr : World) (nb : Nat) (e : TypeId) (n : Nat) (f : Nat → Value) (k : Nat) : Prop := ∃ C : Array Value, wr.heap[nb]? = some (.cells C e (0, 0)) ∧ C.size = n ∧ ∀ i, i < k → C[i]? = some (f i)

section
variable {wr w' : World} {nb n k : Nat} {e : TypeId} {f : Nat → Value}
theorem FilledV.step (h : FilledV wr nb e n f k) (hk : k < n) {v : Value} (hv : v = f k) : FilledV (wr.setCell ⟨nb, k, none⟩ v) nb e n f (k + 1) := by
  subst hv
  obtain ⟨C, h1, h2, h3⟩ := h
  refine ⟨C.setIfInBounds k (f k), heap_setCell_same _ _ _ _ _ _ h1, by simpa using h2, ?_⟩
  intro i hi
  rw [Array.getElem?_setIfInBounds]
  by_cases hik : k = i
  · subst hik
    rw [if_pos rfl, if_pos (by omega)]
  · rw [if_neg hik]; exact h3 i (by omega)
theorem FilledV.free (h : FilledV wr nb e n f k) (j : Nat) : wr.frozen? ⟨nb, j, none⟩ = false := by
  obtain ⟨C, h1, _⟩ := h
  exact frozen_of_row _ _ _ _ _ h1
theorem FilledV.some (h : FilledV wr nb e n f k) {j : Nat} (hj : j < n) : ∃ v, wr.cell? ⟨nb, j, none⟩ = some v := by
  obtain ⟨C, h1, h2, _⟩ := h
  rw [cell_of_row _ _ _ _ _ _ h1]
  exact ⟨C[j]'(by omega), by simp [show j < C.size by omega]⟩
theorem FilledV.cell (h : FilledV wr nb e n f k) {j : Nat} (hj : j < k) : wr.cell? ⟨nb, j, none⟩ = Option.some (f j) := by
  obtain ⟨C, h1, _, h3⟩ := h
  rw [cell_of_row _ _ _ _ _ _ h1]
  exact h3 j hj
theorem FilledV.keeps {base : Nat} (h : FilledV wr nb e n f k) (hk : Keeps base wr w') (hm : mine e = false) : FilledV w' nb e n f k := by
  obtain ⟨C, h1, h2⟩ := h
  exact ⟨C, hk.other _ _ _ _ h1 hm, h2⟩
theorem FilledV.heap (h : FilledV wr nb e n f k) (hh : w'.heap = wr.heap) : FilledV w' nb e n f k := by
  obtain ⟨C, h1, h2⟩ := h
  exact ⟨C, by rw [hh]; exact h1, h2⟩
theorem FilledV.blk (h : FilledV wr nb e n f k) : ∃ C : Array Value, wr.heap[nb]? = Option.some (.cells C e (0, 0)) := by
  obtain ⟨C, h1, _⟩ := h
  exact ⟨C, h1⟩
end

theorem filledV_made {w : World} {base n g cap : Nat} {xs : List Value} {e : TypeId} {f : Nat → Value} (h : w.ownsRow base e 1 (.slice (some ⟨g, 0, none⟩) n cap) n xs) (hc : cap = n) : FilledV w g e n f 0 := by
  rcases h.2 with ⟨h', _⟩ | ⟨g', cap', cur, h', _, hg, _, _, hs, _⟩
  · simp at h'
  · simp only [Value.slice.injEq, Option.some.injEq, Addr.mk.injEq, and_true, true_and] at h'
    obtain ⟨rfl, rfl⟩ := h'
    exact ⟨cur, hg, by omega, fun i hi => by omega⟩

theorem run_neq_ptr_same {P : Program} (w : World) {tp te : TypeId} {j : TypeInfo} (a : Addr) (hp : P.underlying tp = some (.pointer te)) (hte : P.info? te = some j) :
    (binOp .neq tp (.pointer (some a)) (.pointer (some a))).run P w = .ok (.bool false) w := by
  have h : ∀ d : Nat, (Op.equalIn (d + 1) tp (.pointer (some a)) (.pointer (some a))).run P w = .ok true w := fun d => by
    simp [Op.equalIn, run_underlying hp, sizeOf, typeInfo, hte, run_sameAddr_same]
  simp only [binOp]
  simp [Op.equal, Op.maxDepth, h 9999]

theorem infoFrame : ∃ j, Try.prog.info? 39 = some j := by
  have h : (Try.prog.info? 39).isSome = true := by kernel_rfl
  exact Option.isSome_iff_exists.1 h

/-- A pointer to a frame is not unequal to itself. -/
theorem neq_frame (a : Addr) (w : World) : (binOp .neq 34 (.pointer (some a)) (.pointer (some a))).run Try.prog w = .ok (.bool false) w := by
  obtain ⟨j, hj⟩ := infoFrame
  exact run_neq_ptr_same w a Try.underlying34 hj
end Go.Proofs.Ytnccihkllpabgaa
