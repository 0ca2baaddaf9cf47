/- The law's own model, a slice of ints with capacity cap in a block of its own: what it holds, and how a push or a pop of the stack, an append and a cut leave it. -/
import Derived.Test.YtifdflmleplpkaaStkBase
import Derived.WalkSpells
namespace Go.Proofs.Ytifdflmleplpkaa
open Go.RowKit

theorem infoInt : (Try.prog.info? 3).map (fun i => (i.zero, i.size, i.bytes)) = some (some (.int .i64 0), 1, 8) := by kernel_rfl

/-- The model's value and what it holds. -/
def Mod (w : World) (base gm cap : Nat) (ms : List Int) : Prop := w.ownsRow base 3 1 (.slice (some ⟨gm, 0, none⟩) ms.length cap) ms.length (ms.map (Value.int .i64))

theorem Mod.blk {w : World} {base gm cap : Nat} {ms : List Int} (h : Mod w base gm cap ms) : ∃ C : Array Value, w.heap[gm]? = some (.cells C 3 (0, 0)) := by
  rcases h.2 with ⟨h', _⟩ | ⟨g', cap', cur, h', _, hg, _⟩
  · simp at h'
  · simp only [Value.slice.injEq, Option.some.injEq, Addr.mk.injEq, and_true, true_and] at h'
    obtain ⟨rfl, rfl⟩ := h'
    exact ⟨cur, hg⟩
theorem Mod.ge {w : World} {base gm cap : Nat} {ms : List Int} (h : Mod w base gm cap ms) : base ≤ gm := (h.lt gm rfl).1
theorem Mod.carry {w w' : World} {base gm cap : Nat} {ms : List Int} (h : Mod w base gm cap ms) (hk : ∀ C : Array Value, w.heap[gm]? = some (.cells C 3 (0, 0)) → w'.heap[gm]? = some (.cells C 3 (0, 0))) : Mod w' base gm cap ms := by
  refine ⟨h.1, ?_⟩
  rcases h.2 with ⟨h', _⟩ | ⟨g', cap', cur, h', hb, hg, hn, hm, hs, ht⟩
  · simp at h'
  · have h2 := h'
    simp only [Value.slice.injEq, Option.some.injEq, Addr.mk.injEq, and_true, true_and] at h2
    obtain ⟨rfl, rfl⟩ := h2
    exact .inr ⟨gm, cap, cur, rfl, hb, hk cur hg, hn, hm, hs, ht⟩
theorem Mod.keeps {w w' : World} {base b2 gm cap : Nat} {ms : List Int} (h : Mod w base gm cap ms) (hk : Keeps b2 w w') : Mod w' base gm cap ms :=
  h.carry fun C hC => hk.other _ _ _ _ hC (by decide)
theorem Mod.heap {w w' : World} {base gm cap : Nat} {ms : List Int} (h : Mod w base gm cap ms) (e : w'.heap = w.heap) : Mod w' base gm cap ms :=
  h.carry fun C hC => by rw [e]; exact hC
theorem Mod.alloc {w : World} {base gm cap : Nat} {ms : List Int} (h : Mod w base gm cap ms) (o : Obj) : Mod (w.alloc o) base gm cap ms :=
  h.carry fun C hC => by rw [Below.heap_alloc _ _ _ (lt_of_block hC)]; exact hC
/-- Its cells. -/
theorem Mod.cell {w : World} {base gm cap : Nat} {ms : List Int} (h : Mod w base gm cap ms) {j : Nat} (hj : j < ms.length) : w.cell? ⟨gm, j, none⟩ = some (.int .i64 (ms.getD j 0)) := by
  have := World.ownsRow.cellAt h j (by omega)
  rw [this]
  simp [hj]
/-- One element less. -/
theorem Mod.pop {w : World} {base gm cap : Nat} {ms : List Int} {x : Int} (h : Mod w base gm cap (ms ++ [x])) : Mod w base gm cap ms := by
  unfold Mod at h ⊢
  rw [List.map_append, List.length_append] at h
  exact ownsRow_pop (size := 1) (by simp) h
/-- One element more. -/
theorem Mod.pushed {w : World} {base gm cap : Nat} {ms : List Int} {x : Int} (h : w.ownsRow base 3 1 (.slice (some ⟨gm, 0, none⟩) (ms.length + 1) cap) (ms.length + 1) (ms.map (Value.int .i64) ++ [.int .i64 x])) : Mod w base gm cap (ms ++ [x]) := by
  unfold Mod
  rw [List.map_append, List.length_append]
  exact h
theorem Mod.made {w : World} {base gm cap : Nat} (h : w.ownsRow base 3 1 (.slice (some ⟨gm, 0, none⟩) 0 cap) 0 []) : Mod w base gm cap [] := h

/-- A list that is not empty, cut at its last. -/
theorem snoc_of {ms : List Int} {q : Nat} (h : ms.length = q + 1) : ∃ ns x, ms = ns ++ [x] ∧ ns.length = q := by
  rcases List.eq_nil_or_concat ms with rfl | ⟨ns, x, rfl⟩
  · simp at h
  · refine ⟨ns, x, by simp, ?_⟩
    simpa using h
theorem getD_snoc_last (ns : List Int) (x : Int) : (ns ++ [x]).getD ns.length 0 = x := by simp
theorem getD_snoc_lt (ns : List Int) (x : Int) {j : Nat} (h : j < ns.length) : (ns ++ [x]).getD j 0 = ns.getD j 0 := by
  rw [List.getD_eq_getElem?_getD, List.getD_eq_getElem?_getD, List.getElem?_append_left h]
/-- None of them. -/
theorem Mod.zero {w : World} {base gm cap : Nat} {ms : List Int} (h : Mod w base gm cap ms) : Mod w base gm cap [] := by
  obtain ⟨n, hn⟩ : ∃ n, ms.length = n := ⟨_, rfl⟩
  induction n generalizing ms with
  | zero => rwa [List.length_eq_zero_iff.mp hn] at h
  | succ q ih =>
    obtain ⟨ns, x, rfl, hl⟩ := snoc_of hn
    exact ih h.pop hl
end Go.Proofs.Ytifdflmleplpkaa
