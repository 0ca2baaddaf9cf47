/- Slices of bools: what a row holds; the contract of the law's own clone of a slice, for every slice of at most 65536 elements. -/
import Derived.Test.YtgmlgkfhmdiknaaStkBase
import Derived.Deep.LoopGhost
import Derived.WalkSpells
namespace Go.Proofs.Ytgmlgkfhmdiknaa.Bs
open Go.RowKit

/-- A slice value that is nil and empty, or a whole block of its own holding the numbers zs. -/
def Row (w : World) (v : Value) (zs : List Bool) : Prop :=
  (v = .slice none 0 0 ∧ zs = []) ∨ ∃ b, v = .slice (some ⟨b, 0, none⟩) zs.length zs.length ∧ w.heap[b]? = some (.cells (zs.map Value.bool).toArray 4 (0, 0))

theorem Row.keeps {base : Nat} {w w' : World} {v : Value} {zs : List Bool} (h : Row w v zs) (k : Keeps base w w') : Row w' v zs := by
  rcases h with h | ⟨b, h1, h2⟩
  · exact .inl h
  · exact .inr ⟨b, h1, k.other _ _ _ _ h2 (by decide)⟩
theorem Row.below {base : Nat} {w w' : World} {v : Value} {zs : List Bool} (h : Row w v zs) (k : Below base w w') (hb : ∀ b, v.ownBlock = some b → b < base) : Row w' v zs := by
  rcases h with h | ⟨b, h1, h2⟩
  · exact .inl h
  · exact .inr ⟨b, h1, (k.block b (hb b (by rw [h1]; rfl))).trans h2⟩
theorem Row.lt {w : World} {v : Value} {zs : List Bool} (h : Row w v zs) : ∀ b, v.ownBlock = some b → b < w.heap.size := by
  intro b hb
  rcases h with ⟨h, _⟩ | ⟨c, h1, h2⟩
  · rw [h] at hb; simp [Value.ownBlock] at hb
  · rw [h1] at hb
    simp [Value.ownBlock] at hb
    subst hb
    exact lt_of_block h2
/-- The value as the walk reads it. -/
theorem Row.form {w : World} {v : Value} {zs : List Bool} (h : Row w v zs) : ∃ a : Option Addr, v = .slice a zs.length zs.length ∧ ∀ i, i < zs.length → ∃ b, a = some ⟨b, 0, none⟩ ∧ w.cell? ⟨b, i, none⟩ = some (.bool (zs.getD i false)) := by
  rcases h with ⟨h, e⟩ | ⟨b, h1, h2⟩
  · subst e
    exact ⟨none, h, fun i hi => by simp at hi⟩
  · refine ⟨_, h1, fun i hi => ⟨b, rfl, ?_⟩⟩
    rw [cell_of_row _ _ _ _ _ _ h2]
    simp [hi]

theorem Row.at {w : World} {a : Option Addr} {n c : Nat} {zs : List Bool} (h : Row w (.slice a n c) zs) {i : Nat} (hi : i < zs.length) : ∃ b, a = some ⟨b, 0, none⟩ ∧ w.cell? ⟨b, i, none⟩ = some (.bool (zs.getD i false)) := by
  obtain ⟨a', e, hf⟩ := h.form
  simp only [Value.slice.injEq] at e
  obtain ⟨b, h1, h2⟩ := hf i hi
  exact ⟨b, e.1.trans h1, h2⟩

/-- What the walk is told of a slice of ints that came in. -/
def IsRow (w : World) (a : Option Addr) (len cap : Nat) (zs : List Bool) : Prop :=
  (a = none ∧ len = 0 ∧ cap = 0 ∧ zs = []) ∨
  ∃ x, a = some x ∧ len ≤ cap ∧ cap ≤ maxLen ∧ zs.length = cap ∧ (∀ i, i < zs.length → w.cell? (x.add i) = some (.bool (zs.getD i false)))

theorem IsRow.below {w w' : World} {a : Option Addr} {len cap : Nat} {zs : List Bool} (h : IsRow w a len cap zs) (hb : Below w.heap.size w w') : IsRow w' a len cap zs := by
  rcases h with h | ⟨x, h1, h2, h3, h4, h5⟩
  · exact .inl h
  · exact .inr ⟨x, h1, h2, h3, h4, fun i hi => (hb.cell (World.block_lt_of_cell? w _ (h5 i hi))).trans (h5 i hi)⟩
theorem IsRow.size {w : World} {a : Option Addr} {len cap : Nat} {zs : List Bool} (h : IsRow w a len cap zs) : len ≤ 9223372036854775807 ∧ (zs.take len).length = len := by
  rcases h with ⟨_, h, _, h2⟩ | ⟨_, _, h1, h2, h3, _⟩
  · subst h; subst h2; simp
  · unfold maxLen at h2
    rw [List.length_take]
    omega

theorem infoBool : (Try.prog.info? 4).map (fun i => (i.zero, i.size, i.bytes)) = some (some (.bool false), 1, 1) := by kernel_rfl

def ClonePost (w : World) (zs : List Bool) (e : Ending) (w' : World) : Prop := ∃ v, e = .returned v ∧ Row w' v zs ∧ Below w.heap.size w w'

/-- The cells written so far. -/
def Filled (wr : World) (nb n : Nat) (z : List Bool) (k : Nat) : Prop := ∃ C : Array Value, wr.heap[nb]? = some (.cells C 4 (0, 0)) ∧ C.size = n ∧ ∀ i, i < k → C[i]? = some (.bool (z.getD i false))

theorem Filled.row {wr : World} {nb n : Nat} {z : List Bool} (h : Filled wr nb n z n) (hn : n ≤ z.length) : Row wr (.slice (some ⟨nb, 0, none⟩) n n) (z.take n) := by
  obtain ⟨C, h1, h2, h3⟩ := h
  have hl : (z.take n).length = n := by rw [List.length_take]; omega
  refine .inr ⟨nb, by rw [hl], ?_⟩
  rw [h1]
  have e : C = ((z.take n).map Value.bool).toArray := by
    apply Array.ext_getElem?
    intro i
    by_cases hi : i < n
    · rw [h3 i hi]
      have hz : i < z.length := by omega
      simp [hi, hz]
    · rw [Array.getElem?_eq_none (by omega), Array.getElem?_eq_none (by simp; omega)]
  rw [e]

theorem Filled.step {wr : World} {nb n k : Nat} {z : List Bool} (h : Filled wr nb n z k) (hk : k < n) : Filled (wr.setCell ⟨nb, k, none⟩ (.bool (z.getD k false))) nb n z (k + 1) := by
  obtain ⟨C, h1, h2, h3⟩ := h
  refine ⟨C.setIfInBounds k (.bool (z.getD k false)), heap_setCell_same _ _ _ _ _ _ h1, by simpa using h2, ?_⟩
  intro i hi
  rw [Array.getElem?_setIfInBounds]
  by_cases hik : k = i
  · subst hik
    rw [if_pos rfl, if_pos (by omega)]
  · rw [if_neg hik]; exact h3 i (by omega)
theorem Filled.free {wr : World} {nb n k : Nat} {z : List Bool} (h : Filled wr nb n z k) (j : Nat) : wr.frozen? ⟨nb, j, none⟩ = false := by
  obtain ⟨C, h1, _⟩ := h
  exact frozen_of_row _ _ _ _ _ h1
theorem Filled.cell {wr : World} {nb n k j : Nat} {z : List Bool} (h : Filled wr nb n z k) (hj : j < n) : ∃ v, wr.cell? ⟨nb, j, none⟩ = some v := by
  obtain ⟨C, h1, h2, _⟩ := h
  rw [cell_of_row _ _ _ _ _ _ h1]
  exact ⟨C[j]'(by omega), by simp [show j < C.size by omega]⟩
theorem filled_made {w : World} {base n : Nat} {g cap : Nat} {xs : List Value} {z : List Bool} (h : w.ownsRow base 4 1 (.slice (some ⟨g, 0, none⟩) n cap) n xs) (hc : cap = n) : Filled w g n z 0 := by
  rcases h.2 with ⟨h', _⟩ | ⟨g', cap', cur, h', _, hg, _, _, hs, _⟩
  · simp at h'
  · simp only [Value.slice.injEq, Option.some.injEq, Addr.mk.injEq, and_true, true_and] at h'
    obtain ⟨rfl, rfl⟩ := h'
    exact ⟨cur, hg, by omega, fun i hi => by omega⟩

set_option maxRecDepth 100000 in
theorem clone_nil (w : World) : Calls Try.prog 21 #[.slice none 0 0] w (ClonePost w []) := by
  have hq := fun (w : World) (a : Option Addr) (l c : Nat) => Lib.run_eql_slice_nil (P := Try.prog) w 40 4 a l c 0 0 Try.underlying40
  go_enter Try.func21, Try.ntmps21
  go_wp2_with fail
  go_ret
  exact ⟨_, rfl, .inl ⟨rfl, rfl⟩, Below.refl _ _⟩

set_option maxHeartbeats 400000 in
theorem clone_some (x : Addr) (len cap : Nat) (z : List Bool) (w : World) (hl : len ≤ 1048576) (hz : len ≤ z.length) (hx : 0 < len → x.spot = none ∧ x.block < w.heap.size) (hc : ∀ i, i < len → w.cell? ⟨x.block, x.off + i, none⟩ = some (.bool (z.getD i false))) :
    Calls Try.prog 21 #[.slice (some x) len cap] w (ClonePost w (z.take len)) := by
  have hq := fun (w : World) (a : Option Addr) (l c : Nat) => Lib.run_eql_slice_nil (P := Try.prog) w 40 4 a l c 0 0 Try.underlying40
  obtain ⟨i0, hi, hz0, hz1, hz2⟩ := info_parts infoBool
  obtain ⟨xb, xo, xs⟩ := x
  dsimp only at hx hc
  have H := Hid_mk (And.intro hx hc)
  clear hx hc
  go_enter Try.func21, Try.ntmps21
  go_wp2_with (at_make; refine wpList_make_full _ rfl (.tmp 8) (.tmp 8) 40 rfl w.heap.size 4 i0 (.bool false) 1 Try.underlying40 hi hz0 hz1 .i64 .i64 (len : Int) (len : Int) len rfl rfl rfl rfl ?c1 ?c2 (Nat.le_refl _) ?_)
  case c1 => rw [hz2]; omega
  case c2 => unfold maxLen; omega
  intro w1 hown hgrow
  have hf := filled_made (z := z) hown rfl
  have hb : Below w.heap.size w w1 := (Below.refl _ _).grown hgrow (Nat.le_refl _) (fun k h => by cases h)
  have HF := Hid_mk (And.intro hf hb)
  clear hown hgrow hf hb hi hz0 hz1 hz2
  go_wp2_with fail
  go_loopg [4] len (fun gk i wr => ∃ k : Nat, k + gk = len ∧ i = .int .i64 k ∧ Filled wr w.heap.size len z k ∧ Below w.heap.size w wr)
  case atStart => exact ⟨0, by omega, rfl, HF.out.1, HF.out.2⟩
  case round =>
    obtain ⟨k, hk, rfl, hf, hb⟩ := hrel
    by_cases hlt : k < len
    · obtain ⟨h1, h2⟩ := H.out.1 (by omega)
      subst h1
      have cx : wr.cell? ⟨xb, xo + k, none⟩ = some (.bool (z.getD k false)) := (hb.cell (p := ⟨xb, xo + k, none⟩) h2).trans (H.out.2 k hlt)
      obtain ⟨y, cy⟩ := hf.cell (j := k) hlt
      have fy := hf.free k
      generalize hzk : z.getD k false = zk at cx
      have HH := Hid_mk (And.intro hf (And.intro hb (And.intro h2 (And.intro hk hzk))))
      clear hf hb h2 hk hzk
      go_wp2_with fail
      go_roundg (gk - 1)
      case rel =>
        refine ⟨k + 1, by have := HH.out.2.2.2.1; omega, by go_num, ?_, HH.out.2.1.setCell (Nat.le_refl _) _⟩
        rw [← HH.out.2.2.2.2]
        exact HH.out.1.step hlt
      case measure => have := HH.out.2.2.2.1; omega
    · have hkl : k = len := by omega
      subst hkl
      have HH := Hid_mk (And.intro hf hb)
      clear hf hb hk
      go_wp2_with fail
      go_ret
      exact ⟨_, rfl, HH.out.1.row hz, HH.out.2⟩

theorem clone_any (a : Option Addr) (len cap : Nat) (z : List Bool) (w : World) (hl : len ≤ 1048576) (h : IsRow w a len cap z) :
    Calls Try.prog 21 #[.slice a len cap] w (ClonePost w (z.take len)) := by
  rcases h with ⟨rfl, rfl, rfl, rfl⟩ | ⟨x, rfl, h1, h2, h3, h4⟩
  · exact clone_nil w
  · have hsp : ∀ i, i < len → x.spot = none → w.cell? ⟨x.block, x.off + i, none⟩ = some (.bool (z.getD i false)) := by
      intro i hi hs
      have := h4 i (by omega)
      obtain ⟨xb, xo, xs⟩ := x
      dsimp only at hs
      subst hs
      unfold Addr.add at this
      split at this
      · rename_i h0; subst h0; simpa using this
      · exact this
    have hs0 : 0 < len → x.spot = none := by
      intro hp
      have hc := h4 0 (by omega)
      simpa [Addr.add] using World.cell?_spot hc
    refine clone_some x len cap z w hl (by omega) (fun hp => ⟨hs0 hp, ?_⟩) (fun i hi => hsp i hi (hs0 (by omega)))
    have hc := h4 0 (by omega)
    have := World.block_lt_of_cell? w _ hc
    simpa [Addr.add] using this
end Go.Proofs.Ytgmlgkfhmdiknaa.Bs
