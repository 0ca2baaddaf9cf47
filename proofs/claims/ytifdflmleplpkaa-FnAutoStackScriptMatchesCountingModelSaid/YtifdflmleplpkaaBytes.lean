/- Slices of bytes: what a row holds, and how it is filled cell by cell. -/
import Derived.Test.YtifdflmleplpkaaStkBase
import Derived.Deep.LoopGhost
import Derived.WalkSpells
import Derived.OpenShut
namespace Go.Proofs.Ytifdflmleplpkaa.By
open Go.RowKit

/-- A slice value that is nil and empty, or a whole block of its own holding the numbers zs. -/
def Row (w : World) (v : Value) (zs : List Int) : Prop :=
  (v = .slice none 0 0 ∧ zs = []) ∨ ∃ b, v = .slice (some ⟨b, 0, none⟩) zs.length zs.length ∧ w.heap[b]? = some (.cells (zs.map (Value.int .u8)).toArray 5 (0, 0))

theorem Row.keeps {base : Nat} {w w' : World} {v : Value} {zs : List Int} (h : Row w v zs) (k : Keeps base w w') : Row w' v zs := by
  rcases h with h | ⟨b, h1, h2⟩
  · exact .inl h
  · exact .inr ⟨b, h1, k.other _ _ _ _ h2 (by decide)⟩
theorem Row.below {base : Nat} {w w' : World} {v : Value} {zs : List Int} (h : Row w v zs) (k : Below base w w') (hb : ∀ b, v.ownBlock = some b → b < base) : Row w' v zs := by
  rcases h with h | ⟨b, h1, h2⟩
  · exact .inl h
  · exact .inr ⟨b, h1, (k.block b (hb b (by rw [h1]; rfl))).trans h2⟩
theorem Row.lt {w : World} {v : Value} {zs : List Int} (h : Row w v zs) : ∀ b, v.ownBlock = some b → b < w.heap.size := by
  intro b hb
  rcases h with ⟨h, _⟩ | ⟨c, h1, h2⟩
  · rw [h] at hb; simp [Value.ownBlock] at hb
  · rw [h1] at hb
    simp [Value.ownBlock] at hb
    subst hb
    exact lt_of_block h2
/-- The value as the walk reads it. -/
theorem Row.form {w : World} {v : Value} {zs : List Int} (h : Row w v zs) : ∃ a : Option Addr, v = .slice a zs.length zs.length ∧ ∀ i, i < zs.length → ∃ b, a = some ⟨b, 0, none⟩ ∧ w.cell? ⟨b, i, none⟩ = some (.int .u8 (zs.getD i 0)) := by
  rcases h with ⟨h, e⟩ | ⟨b, h1, h2⟩
  · subst e
    exact ⟨none, h, fun i hi => by simp at hi⟩
  · refine ⟨_, h1, fun i hi => ⟨b, rfl, ?_⟩⟩
    rw [cell_of_row _ _ _ _ _ _ h2]
    simp [hi]

theorem Row.at {w : World} {a : Option Addr} {n c : Nat} {zs : List Int} (h : Row w (.slice a n c) zs) {i : Nat} (hi : i < zs.length) : ∃ b, a = some ⟨b, 0, none⟩ ∧ w.cell? ⟨b, i, none⟩ = some (.int .u8 (zs.getD i 0)) := by
  obtain ⟨a', e, hf⟩ := h.form
  simp only [Value.slice.injEq] at e
  obtain ⟨b, h1, h2⟩ := hf i hi
  exact ⟨b, e.1.trans h1, h2⟩

/-- What the walk is told of a slice of ints that came in. -/
def IsRow (w : World) (a : Option Addr) (len cap : Nat) (zs : List Int) : Prop :=
  (a = none ∧ len = 0 ∧ cap = 0 ∧ zs = []) ∨
  ∃ x, a = some x ∧ len ≤ cap ∧ cap ≤ maxLen ∧ zs.length = cap ∧ (∀ i, i < zs.length → w.cell? (x.add i) = some (.int .u8 (zs.getD i 0))) ∧ ∀ n ∈ zs, (Lit.int .u8 n).wf = true

theorem IsRow.below {w w' : World} {a : Option Addr} {len cap : Nat} {zs : List Int} (h : IsRow w a len cap zs) (hb : Below w.heap.size w w') : IsRow w' a len cap zs := by
  rcases h with h | ⟨x, h1, h2, h3, h4, h5, h6⟩
  · exact .inl h
  · exact .inr ⟨x, h1, h2, h3, h4, fun i hi => (hb.cell (World.block_lt_of_cell? w _ (h5 i hi))).trans (h5 i hi), h6⟩
theorem IsRow.size {w : World} {a : Option Addr} {len cap : Nat} {zs : List Int} (h : IsRow w a len cap zs) : len ≤ 9223372036854775807 ∧ (zs.take len).length = len := by
  rcases h with ⟨_, h, _, h2⟩ | ⟨_, _, h1, h2, h3, _⟩
  · subst h; subst h2; simp
  · unfold maxLen at h2
    rw [List.length_take]
    omega

theorem infoByte : (Try.prog.info? 5).map (fun i => (i.zero, i.size, i.bytes)) = some (some (.int .u8 0), 1, 1) := by kernel_rfl

/-- The cells written so far. -/
def Filled (wr : World) (nb n : Nat) (z : List Int) (k : Nat) : Prop := ∃ C : Array Value, wr.heap[nb]? = some (.cells C 5 (0, 0)) ∧ C.size = n ∧ ∀ i, i < k → C[i]? = some (.int .u8 (z.getD i 0))

theorem Filled.row {wr : World} {nb n : Nat} {z : List Int} (h : Filled wr nb n z n) (hn : n ≤ z.length) : Row wr (.slice (some ⟨nb, 0, none⟩) n n) (z.take n) := by
  obtain ⟨C, h1, h2, h3⟩ := h
  have hl : (z.take n).length = n := by rw [List.length_take]; omega
  refine .inr ⟨nb, by rw [hl], ?_⟩
  rw [h1]
  have e : C = ((z.take n).map (Value.int .u8)).toArray := by
    apply Array.ext_getElem?
    intro i
    by_cases hi : i < n
    · rw [h3 i hi]
      have hz : i < z.length := by omega
      simp [hi, hz]
    · rw [Array.getElem?_eq_none (by omega), Array.getElem?_eq_none (by simp; omega)]
  rw [e]

theorem Filled.step {wr : World} {nb n k : Nat} {z : List Int} (h : Filled wr nb n z k) (hk : k < n) : Filled (wr.setCell ⟨nb, k, none⟩ (.int .u8 (z.getD k 0))) nb n z (k + 1) := by
  obtain ⟨C, h1, h2, h3⟩ := h
  refine ⟨C.setIfInBounds k (.int .u8 (z.getD k 0)), heap_setCell_same _ _ _ _ _ _ h1, by simpa using h2, ?_⟩
  intro i hi
  rw [Array.getElem?_setIfInBounds]
  by_cases hik : k = i
  · subst hik
    rw [if_pos rfl, if_pos (by omega)]
  · rw [if_neg hik]; exact h3 i (by omega)
theorem Filled.free {wr : World} {nb n k : Nat} {z : List Int} (h : Filled wr nb n z k) (j : Nat) : wr.frozen? ⟨nb, j, none⟩ = false := by
  obtain ⟨C, h1, _⟩ := h
  exact frozen_of_row _ _ _ _ _ h1
theorem Filled.cell {wr : World} {nb n k j : Nat} {z : List Int} (h : Filled wr nb n z k) (hj : j < n) : ∃ v, wr.cell? ⟨nb, j, none⟩ = some v := by
  obtain ⟨C, h1, h2, _⟩ := h
  rw [cell_of_row _ _ _ _ _ _ h1]
  exact ⟨C[j]'(by omega), by simp [show j < C.size by omega]⟩
theorem filled_made {w : World} {base n : Nat} {g cap : Nat} {xs : List Value} {z : List Int} (h : w.ownsRow base 5 1 (.slice (some ⟨g, 0, none⟩) n cap) n xs) (hc : cap = n) : Filled w g n z 0 := by
  rcases h.2 with ⟨h', _⟩ | ⟨g', cap', cur, h', _, hg, _, _, hs, _⟩
  · simp at h'
  · simp only [Value.slice.injEq, Option.some.injEq, Addr.mk.injEq, and_true, true_and] at h'
    obtain ⟨rfl, rfl⟩ := h'
    exact ⟨cur, hg, by omega, fun i hi => by omega⟩

/-- A row that came in, cell by cell, at a plain address. -/
theorem IsRow.cellAt {w : World} {a : Option Addr} {len cap : Nat} {z : List Int} (h : IsRow w a len cap z) {i : Nat} (hi : i < len) : ∃ xb xo, a = some ⟨xb, xo, none⟩ ∧ xb < w.heap.size ∧ w.cell? ⟨xb, xo + i, none⟩ = some (.int .u8 (z.getD i 0)) := by
  rcases h with ⟨rfl, rfl, rfl, rfl⟩ | ⟨x, rfl, h1, h2, h3, h4, h5⟩
  · omega
  · have hc := h4 i (by omega)
    obtain ⟨xb, xo, xs⟩ := x
    have hs : xs = none := by
      have h0 := h4 0 (by omega)
      simpa [Addr.add] using World.cell?_spot h0
    subst hs
    have hlt := World.block_lt_of_cell? w _ hc
    unfold Addr.add at hc hlt
    split at hc
    · rename_i h0; subst h0; exact ⟨xb, xo, rfl, by simpa using hlt, by simpa using hc⟩
    · rename_i h0
      rw [if_neg h0] at hlt
      exact ⟨xb, xo, rfl, hlt, hc⟩
theorem IsRow.bounds {w : World} {a : Option Addr} {len cap : Nat} {z : List Int} (h : IsRow w a len cap z) {i : Nat} (hi : i < len) : ∃ y : Nat, z.getD i 0 = (y : Int) ∧ y ≤ 255 := by
  rcases h with ⟨rfl, rfl, rfl, rfl⟩ | ⟨x, rfl, h1, h2, h3, h4, h5⟩
  · omega
  · have := Go.range_u8 h5 i
    rw [← List.getD_eq_getElem?_getD] at this
    exact ⟨(z.getD i 0).toNat, by omega, by omega⟩
end Go.Proofs.Ytifdflmleplpkaa.By
