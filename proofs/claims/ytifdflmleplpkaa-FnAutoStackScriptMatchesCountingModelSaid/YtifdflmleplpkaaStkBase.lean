/- What an auto-growing call-frame stack is in memory (its own block, the row of its segments, one block of eight frames for each segment in use), and how a store or a new block changes that. Plain lemmas on worlds; no code is run. -/
import Derived.Test.YtifdflmleplpkaaRows
import Derived.WalkKit
import Derived.WalkSmall
namespace Go.Proofs.Ytifdflmleplpkaa
open Go.RowKit

theorem Hid_mk {p : Prop} (h : p) : Hid p := h

/-- The element types of a stack's own blocks: its struct, its row of segments, a segment. -/
def mine (t : Nat) : Bool := t == 46 || t == 48 || t == 51

/-- Below base nothing has turned; nor has any block that is none of a stack's kinds. -/
structure Keeps (base : Nat) (w w' : World) : Prop where
  below : Below base w w'
  other : ∀ (b : Nat) (c : Array Value) (t : TypeId) (f : Nat × Nat), w.heap[b]? = some (.cells c t f) → mine t = false → w'.heap[b]? = some (.cells c t f)

theorem Keeps.refl (base : Nat) (w : World) : Keeps base w w := ⟨Below.refl _ _, fun _ _ _ _ h _ => h⟩
theorem Keeps.trans {base : Nat} {a b c : World} (h : Keeps base a b) (k : Keeps base b c) : Keeps base a c :=
  ⟨h.below.trans k.below, fun x d t f e m => k.other x d t f (h.other x d t f e m) m⟩
theorem Keeps.mono {base base' : Nat} {a b : World} (h : Keeps base a b) (hb : base' ≤ base) : Keeps base' a b := ⟨h.below.mono hb, h.other⟩
theorem Keeps.alloc {base : Nat} {a w : World} (h : Keeps base a w) (hB : base ≤ w.heap.size) (o : Obj) : Keeps base a (w.alloc o) :=
  ⟨h.below.alloc hB o, fun x d t f e m => by
    have k := h.other x d t f e m
    rw [Below.heap_alloc _ _ _ (lt_of_block k)]; exact k⟩
theorem Keeps.setCell {base : Nat} {a w : World} (h : Keeps base a w) {p : Addr} (hp : base ≤ p.block) {c : Array Value} {t : TypeId} {f : Nat × Nat}
    (hc : w.heap[p.block]? = some (.cells c t f)) (hm : mine t = true) (v : Value) : Keeps base a (w.setCell p v) :=
  ⟨h.below.setCell hp v, fun x d u g e m => by
    have k := h.other x d u g e m
    have hx : x ≠ p.block := by
      intro hx
      rw [hx, hc] at k
      simp only [Option.some.injEq, Obj.cells.injEq] at k
      rw [k.2.1] at hm
      rw [hm] at m
      exact absurd m (by decide)
    rw [heap_setCell_other _ _ _ _ hx]; exact k⟩
/-- The same heap, the same streams: a draw. -/
theorem Keeps.alike {base : Nat} {a w w' : World} (h : Keeps base a w) (e1 : w'.heap = w.heap) (e2 : w'.os = w.os) (e3 : w'.tape = w.tape) (e4 : w'.output = w.output) : Keeps base a w' :=
  ⟨h.below.trans ⟨e2, e3, e4, by rw [e1]; exact Nat.le_refl _, fun k _ => by rw [e1]⟩, fun x d t f e m => by rw [e1]; exact h.other x d t f e m⟩

abbrev Frm := Int × Int × Int

/-- Frame number m with the data F m lies at place j of a segment's cells. -/
structure FrameAt (c : Array Value) (j m : Nat) (F : Nat → Frm) : Prop where
  idx : c[j * 10]? = some (.int .i64 m)
  pc : c[j * 10 + 3]? = some (.int .i64 (F m).1)
  ba : c[j * 10 + 4]? = some (.int .i64 (F m).2.1)
  nr : c[j * 10 + 8]? = some (.int .i64 (F m).2.2)

structure Stk (base : Nat) (w : World) (s N k sp g : Nat) (B : Nat → Nat) (F : Nat → Frm) : Prop where
  hk : k < N
  hN : N ≤ 8192
  hsp : sp ≤ 8
  bs : base ≤ s
  bg : base ≤ g
  bB : ∀ i, i ≤ k → base ≤ B i
  hs : w.heap[s]? = some (.cells #[.slice (some ⟨g, 0, none⟩) N N, .int .u16 (k : Int), .int .u8 (sp : Int)] 46 (0, 0))
  hg : ∃ P : Array Value, w.heap[g]? = some (.cells P 48 (0, 0)) ∧ P.size = N ∧ ∀ i, i ≤ k → P[i]? = some (.pointer (some ⟨B i, 0, none⟩))
  hB : ∀ i, i ≤ k → ∃ c : Array Value, w.heap[B i]? = some (.cells c 51 (0, 0)) ∧ c.size = 80 ∧ ∀ j, j < 8 → 8 * i + j < 8 * k + sp → FrameAt c j (8 * i + j) F
  inj : ∀ i j, i ≤ k → j ≤ k → B i = B j → i = j

section
variable {base s N k sp g : Nat} {w w' : World} {B : Nat → Nat} {F G : Nat → Frm}

/-- Only the frames below the depth count. -/
theorem Stk.congr (h : Stk base w s N k sp g B F) (hf : ∀ m, m < 8 * k + sp → F m = G m) : Stk base w s N k sp g B G :=
  ⟨h.hk, h.hN, h.hsp, h.bs, h.bg, h.bB, h.hs, h.hg, fun i hi => by
    obtain ⟨c, h1, h2, h3⟩ := h.hB i hi
    exact ⟨c, h1, h2, fun j hj hm => by
      have x := h3 j hj hm
      have y := hf _ hm
      exact ⟨x.idx, by rw [← y]; exact x.pc, by rw [← y]; exact x.ba, by rw [← y]; exact x.nr⟩⟩, h.inj⟩

/-- A world in which the stack's own kinds of blocks, from base on, are as they were. -/
theorem Stk.carry (h : Stk base w s N k sp g B F) (hw : ∀ (b : Nat) (c : Array Value) (t : TypeId), base ≤ b → w.heap[b]? = some (.cells c t (0, 0)) → mine t = true → w'.heap[b]? = some (.cells c t (0, 0))) : Stk base w' s N k sp g B F := by
  refine ⟨h.hk, h.hN, h.hsp, h.bs, h.bg, h.bB, hw _ _ _ h.bs h.hs (by decide), ?_, ?_, h.inj⟩
  · obtain ⟨P, h1, h2⟩ := h.hg
    exact ⟨P, hw _ _ _ h.bg h1 (by decide), h2⟩
  · intro i hi
    obtain ⟨c, h1, h2⟩ := h.hB i hi
    exact ⟨c, hw _ _ _ (h.bB i hi) h1 (by decide), h2⟩

theorem Stk.alloc (h : Stk base w s N k sp g B F) (o : Obj) : Stk base (w.alloc o) s N k sp g B F :=
  h.carry fun b c t _ e _ => by rw [Below.heap_alloc _ _ _ (lt_of_block e)]; exact e
theorem Stk.heap (h : Stk base w s N k sp g B F) (e : w'.heap = w.heap) : Stk base w' s N k sp g B F :=
  h.carry fun b c t _ x _ => by rw [e]; exact x
/-- Writes to a block of another kind (a slice of the caller's own), new blocks. -/
theorem Stk.grown {row : Option Nat} (h : Stk base w s N k sp g B F) (hg : w.grownBy w' row) (hr : ∀ b, row = some b → ∃ c t f, w.heap[b]? = some (.cells c t f) ∧ mine t = false) : Stk base w' s N k sp g B F :=
  h.carry fun b c t _ e m => by
    rw [hg.block b (lt_of_block e) (fun x => by
      obtain ⟨c', t', f', e', m'⟩ := hr b x.symm
      rw [e] at e'
      simp only [Option.some.injEq, Obj.cells.injEq] at e'
      rw [e'.2.1] at m
      rw [m] at m'
      exact absurd m' (by decide))]
    exact e
/-- The same for a store. -/
theorem Stk.setOther (h : Stk base w s N k sp g B F) {p : Addr} {c : Array Value} {t : TypeId} {f : Nat × Nat} (hc : w.heap[p.block]? = some (.cells c t f)) (hm : mine t = false) (v : Value) : Stk base (w.setCell p v) s N k sp g B F :=
  h.carry fun b c' t' _ e m => by
    have hx : b ≠ p.block := by
      intro hx
      rw [← hx, e] at hc
      simp only [Option.some.injEq, Obj.cells.injEq] at hc
      rw [hc.2.1] at m
      rw [m] at hm
      exact absurd hm (by decide)
    rw [heap_setCell_other _ _ _ _ hx]; exact e

theorem Stk.sg (h : Stk base w s N k sp g B F) : s ≠ g := by
  intro e
  obtain ⟨P, h1, _⟩ := h.hg
  have := h.hs
  rw [e, h1] at this
  simp at this
theorem Stk.sB (h : Stk base w s N k sp g B F) {i : Nat} (hi : i ≤ k) : s ≠ B i := by
  intro e
  obtain ⟨c, h1, _⟩ := h.hB i hi
  have := h.hs
  rw [e, h1] at this
  simp at this
theorem Stk.gB (h : Stk base w s N k sp g B F) {i : Nat} (hi : i ≤ k) : g ≠ B i := by
  intro e
  obtain ⟨c, h1, _⟩ := h.hB i hi
  obtain ⟨P, h2, _⟩ := h.hg
  rw [e, h1] at h2
  simp at h2

/-- The cells that a method reads. -/
theorem Stk.c0 (h : Stk base w s N k sp g B F) : w.cell? ⟨s, 0, none⟩ = some (.slice (some ⟨g, 0, none⟩) N N) := by rw [cell_of_row _ _ _ _ _ _ h.hs]; rfl
theorem Stk.c1 (h : Stk base w s N k sp g B F) : w.cell? ⟨s, 1, none⟩ = some (.int .u16 k) := by rw [cell_of_row _ _ _ _ _ _ h.hs]; rfl
theorem Stk.c2 (h : Stk base w s N k sp g B F) : w.cell? ⟨s, 2, none⟩ = some (.int .u8 sp) := by rw [cell_of_row _ _ _ _ _ _ h.hs]; rfl
theorem Stk.fs (h : Stk base w s N k sp g B F) (j : Nat) : w.frozen? ⟨s, j, none⟩ = false := frozen_of_row _ _ _ _ _ h.hs
theorem Stk.cg (h : Stk base w s N k sp g B F) {i : Nat} (hi : i ≤ k) : w.cell? ⟨g, i, none⟩ = some (.pointer (some ⟨B i, 0, none⟩)) := by
  obtain ⟨P, h1, _, h3⟩ := h.hg
  rw [cell_of_row _ _ _ _ _ _ h1]; exact h3 i hi
theorem Stk.cgs (h : Stk base w s N k sp g B F) {i : Nat} (hi : i < N) : ∃ v, w.cell? ⟨g, i, none⟩ = some v := by
  obtain ⟨P, h1, h2, _⟩ := h.hg
  rw [cell_of_row _ _ _ _ _ _ h1]
  exact ⟨P[i]'(by omega), by simp [show i < P.size by omega]⟩
theorem Stk.fg (h : Stk base w s N k sp g B F) (j : Nat) : w.frozen? ⟨g, j, none⟩ = false := by
  obtain ⟨P, h1, _⟩ := h.hg
  exact frozen_of_row _ _ _ _ _ h1
theorem Stk.cB (h : Stk base w s N k sp g B F) {i j : Nat} (hi : i ≤ k) (hj : j < 80) : ∃ v, w.cell? ⟨B i, j, none⟩ = some v := by
  obtain ⟨c, h1, h2, _⟩ := h.hB i hi
  rw [cell_of_row _ _ _ _ _ _ h1]
  exact ⟨c[j]'(by omega), by simp [show j < c.size by omega]⟩
theorem Stk.fB (h : Stk base w s N k sp g B F) {i : Nat} (hi : i ≤ k) (j : Nat) : w.frozen? ⟨B i, j, none⟩ = false := by
  obtain ⟨c, h1, _⟩ := h.hB i hi
  exact frozen_of_row _ _ _ _ _ h1
/-- The cells of frame m. -/
theorem Stk.frame (h : Stk base w s N k sp g B F) {i j : Nat} (hi : i ≤ k) (hj : j < 8) (hm : 8 * i + j < 8 * k + sp) :
    w.cell? ⟨B i, j * 10, none⟩ = some (.int .i64 ((8 * i + j : Nat) : Int)) ∧ w.cell? ⟨B i, j * 10 + 3, none⟩ = some (.int .i64 (F (8 * i + j)).1) ∧
    w.cell? ⟨B i, j * 10 + 4, none⟩ = some (.int .i64 (F (8 * i + j)).2.1) ∧ w.cell? ⟨B i, j * 10 + 8, none⟩ = some (.int .i64 (F (8 * i + j)).2.2) := by
  obtain ⟨c, h1, _, h3⟩ := h.hB i hi
  have x := h3 j hj hm
  rw [cell_of_row _ _ _ _ _ _ h1, cell_of_row _ _ _ _ _ _ h1, cell_of_row _ _ _ _ _ _ h1, cell_of_row _ _ _ _ _ _ h1]
  exact ⟨x.idx, x.pc, x.ba, x.nr⟩
theorem Stk.ls (h : Stk base w s N k sp g B F) : s < w.heap.size := lt_of_block h.hs
theorem Stk.lg (h : Stk base w s N k sp g B F) : g < w.heap.size := by obtain ⟨P, h1, _⟩ := h.hg; exact lt_of_block h1
theorem Stk.lB (h : Stk base w s N k sp g B F) {i : Nat} (hi : i ≤ k) : B i < w.heap.size := by obtain ⟨c, h1, _⟩ := h.hB i hi; exact lt_of_block h1
end

/-- The eleven stores of a push into a segment's block. -/
def stf (w : World) (b o : Nat) (v0 v1 v2 v3 v4 v5 v6 v7 v8 v9 v : Value) : World :=
  ((((((((((w.setCell ⟨b, o, none⟩ v0).setCell ⟨b, o + 1, none⟩ v1).setCell ⟨b, o + 2, none⟩ v2).setCell ⟨b, o + 3, none⟩ v3).setCell ⟨b, o + 4, none⟩ v4).setCell ⟨b, o + 5, none⟩ v5).setCell ⟨b, o + 6, none⟩ v6).setCell ⟨b, o + 7, none⟩ v7).setCell ⟨b, o + 8, none⟩ v8).setCell ⟨b, o + 9, none⟩ v9).setCell ⟨b, o, none⟩ v
def stc (c : Array Value) (o : Nat) (v0 v1 v2 v3 v4 v5 v6 v7 v8 v9 v : Value) : Array Value :=
  ((((((((((c.setIfInBounds o v0).setIfInBounds (o + 1) v1).setIfInBounds (o + 2) v2).setIfInBounds (o + 3) v3).setIfInBounds (o + 4) v4).setIfInBounds (o + 5) v5).setIfInBounds (o + 6) v6).setIfInBounds (o + 7) v7).setIfInBounds (o + 8) v8).setIfInBounds (o + 9) v9).setIfInBounds o v

section
variable {w : World} {b o : Nat} {v0 v1 v2 v3 v4 v5 v6 v7 v8 v9 v : Value} {c : Array Value} {t : TypeId}
theorem stf_other (x : Nat) (h : x ≠ b) : (stf w b o v0 v1 v2 v3 v4 v5 v6 v7 v8 v9 v).heap[x]? = w.heap[x]? := by
  unfold stf
  simp only [heap_setCell_other _ (⟨b, _, none⟩ : Addr) x _ h]
theorem stf_same (h : w.heap[b]? = some (.cells c t (0, 0))) : (stf w b o v0 v1 v2 v3 v4 v5 v6 v7 v8 v9 v).heap[b]? = some (.cells (stc c o v0 v1 v2 v3 v4 v5 v6 v7 v8 v9 v) t (0, 0)) := by
  unfold stf stc
  exact heap_setCell_same _ _ _ _ _ _ (heap_setCell_same _ _ _ _ _ _ (heap_setCell_same _ _ _ _ _ _ (heap_setCell_same _ _ _ _ _ _ (heap_setCell_same _ _ _ _ _ _ (heap_setCell_same _ _ _ _ _ _ (heap_setCell_same _ _ _ _ _ _ (heap_setCell_same _ _ _ _ _ _ (heap_setCell_same _ _ _ _ _ _ (heap_setCell_same _ _ _ _ _ _ (heap_setCell_same _ _ _ _ _ _ h))))))))))
theorem stf_keeps {base : Nat} {a : World} (h : Keeps base a w) (hb : base ≤ b) (hc : w.heap[b]? = some (.cells c t (0, 0))) (hm : mine t = true) : Keeps base a (stf w b o v0 v1 v2 v3 v4 v5 v6 v7 v8 v9 v) := by
  unfold stf
  have st : ∀ (x : World) (d : Array Value) (j : Nat) (u : Value), Keeps base a x → x.heap[b]? = some (.cells d t (0, 0)) → Keeps base a (x.setCell ⟨b, j, none⟩ u) ∧ (x.setCell ⟨b, j, none⟩ u).heap[b]? = some (.cells (d.setIfInBounds j u) t (0, 0)) :=
    fun x d j u k e => ⟨k.setCell (p := ⟨b, j, none⟩) hb e hm u, heap_setCell_same _ _ _ _ _ _ e⟩
  have h0 := st _ _ o v0 h hc
  have h1 := st _ _ (o + 1) v1 h0.1 h0.2
  have h2 := st _ _ (o + 2) v2 h1.1 h1.2
  have h3 := st _ _ (o + 3) v3 h2.1 h2.2
  have h4 := st _ _ (o + 4) v4 h3.1 h3.2
  have h5 := st _ _ (o + 5) v5 h4.1 h4.2
  have h6 := st _ _ (o + 6) v6 h5.1 h5.2
  have h7 := st _ _ (o + 7) v7 h6.1 h6.2
  have h8 := st _ _ (o + 8) v8 h7.1 h7.2
  have h9 := st _ _ (o + 9) v9 h8.1 h8.2
  exact (st _ _ o v h9.1 h9.2).1
theorem stf_size : (stf w b o v0 v1 v2 v3 v4 v5 v6 v7 v8 v9 v).heap.size = w.heap.size := by unfold stf; simp
theorem stc_size : (stc c o v0 v1 v2 v3 v4 v5 v6 v7 v8 v9 v).size = c.size := by unfold stc; simp
theorem stc_out (j : Nat) (h : j < o ∨ o + 9 < j) : (stc c o v0 v1 v2 v3 v4 v5 v6 v7 v8 v9 v)[j]? = c[j]? := by
  unfold stc
  simp only [Array.getElem?_setIfInBounds]
  rw [if_neg (by omega), if_neg (by omega), if_neg (by omega), if_neg (by omega), if_neg (by omega), if_neg (by omega), if_neg (by omega), if_neg (by omega), if_neg (by omega), if_neg (by omega), if_neg (by omega)]
theorem stc_in (h : o + 9 < c.size) : (stc c o v0 v1 v2 v3 v4 v5 v6 v7 v8 v9 v)[o]? = some v ∧ (stc c o v0 v1 v2 v3 v4 v5 v6 v7 v8 v9 v)[o + 3]? = some v3 ∧
    (stc c o v0 v1 v2 v3 v4 v5 v6 v7 v8 v9 v)[o + 4]? = some v4 ∧ (stc c o v0 v1 v2 v3 v4 v5 v6 v7 v8 v9 v)[o + 8]? = some v8 := by
  unfold stc
  have a0 : o < c.size := by omega
  have a3 : o + 3 < c.size := by omega
  have a4 : o + 4 < c.size := by omega
  have a8 : o + 8 < c.size := by omega
  refine ⟨?_, ?_, ?_, ?_⟩ <;> simp [a0, a3, a4, a8]
end

theorem setCell_heap {w w' : World} {a : Addr} {v : Value} (h : w.heap = w'.heap) : (w.setCell a v).heap = (w'.setCell a v).heap := by
  unfold World.setCell
  simp only [h]
theorem stf_heap {w w' : World} {b o : Nat} {v0 v1 v2 v3 v4 v5 v6 v7 v8 v9 v : Value} (h : w.heap = w'.heap) : (stf w b o v0 v1 v2 v3 v4 v5 v6 v7 v8 v9 v).heap = (stf w' b o v0 v1 v2 v3 v4 v5 v6 v7 v8 v9 v).heap := by
  unfold stf
  exact setCell_heap (setCell_heap (setCell_heap (setCell_heap (setCell_heap (setCell_heap (setCell_heap (setCell_heap (setCell_heap (setCell_heap (setCell_heap h))))))))))

/-- Data F but at m. -/
def upd (F : Nat → Frm) (m : Nat) (f : Frm) : Nat → Frm := fun i => if i = m then f else F i

theorem frameAt_old {c : Array Value} {i j sp n : Nat} {F : Nat → Frm} {f : Frm} {v0 v1 v2 v3 v4 v5 v6 v7 v8 v9 v : Value} (h : FrameAt c j (8 * i + j) F) (hj : j ≠ sp) (hn : 8 * i + j ≠ n) :
    FrameAt (stc c (sp * 10) v0 v1 v2 v3 v4 v5 v6 v7 v8 v9 v) j (8 * i + j) (upd F n f) := by
  have e : upd F n f (8 * i + j) = F (8 * i + j) := if_neg hn
  refine ⟨?_, ?_, ?_, ?_⟩
  · rw [stc_out _ (by omega)]; exact h.idx
  · rw [stc_out _ (by omega), e]; exact h.pc
  · rw [stc_out _ (by omega), e]; exact h.ba
  · rw [stc_out _ (by omega), e]; exact h.nr

theorem frameAt_new {c : Array Value} {i j n : Nat} {F : Nat → Frm} {f : Frm} {v0 v1 v2 v5 v6 v7 v9 : Value} {z : Int} (hs : j * 10 + 9 < c.size) (hn : n = 8 * i + j) (hz : z = ((8 * i + j : Nat) : Int)) :
    FrameAt (stc c (j * 10) v0 v1 v2 (.int .i64 f.1) (.int .i64 f.2.1) v5 v6 v7 (.int .i64 f.2.2) v9 (.int .i64 z)) j (8 * i + j) (upd F n f) := by
  have q := stc_in (c := c) (o := j * 10) (v0 := v0) (v1 := v1) (v2 := v2) (v3 := .int .i64 f.1) (v4 := .int .i64 f.2.1) (v5 := v5) (v6 := v6) (v7 := v7) (v8 := .int .i64 f.2.2) (v9 := v9) (v := .int .i64 z) hs
  have e : upd F n f (8 * i + j) = f := if_pos hn.symm
  subst hz
  refine ⟨q.1, ?_, ?_, ?_⟩
  · rw [e]; exact q.2.1
  · rw [e]; exact q.2.2.1
  · rw [e]; exact q.2.2.2

/-- What a push leaves. -/
def PushPost (base : Nat) (w : World) (s N k sp g : Nat) (B : Nat → Nat) (F : Nat → Frm) (f : Frm) (w' : World) : Prop :=
  ∃ k' sp' B', Stk base w' s N k' sp' g B' (upd F (8 * k + sp) f) ∧ 8 * k' + sp' = 8 * k + sp + 1 ∧ 1 ≤ sp' ∧ k ≤ k' ∧ (∀ i, i ≤ k → B' i = B i) ∧ Keeps base w w'

/-- There is room in the segment in use. -/
theorem push_fin {base s N k sp g : Nat} {w w' : World} {B : Nat → Nat} {F : Nat → Frm} (h : Stk base w s N k sp g B F) (hlt : sp < 8) (cb : Array Value) (tb : TypeId) (f : Frm) (v0 v1 v2 v5 v6 v7 v9 : Value)
    (hw : w'.heap = ((stf (w.alloc (.cells cb tb)) (B k) (sp * 10) v0 v1 v2 (.int .i64 f.1) (.int .i64 f.2.1) v5 v6 v7 (.int .i64 f.2.2) v9 (.int .i64 ((sp : Int) + 8 * (k : Int)))).setCell ⟨s, 2, none⟩ (.int .u8 ((sp : Int) + 1))).heap)
    (h1 : w'.os = w.os) (h2 : w'.tape = w.tape) (h3 : w'.output = w.output) : PushPost base w s N k sp g B F f w' := by
  have ha := h.alloc (.cells cb tb)
  have hsB := h.sB (Nat.le_refl k)
  have hgB := h.gB (Nat.le_refl k)
  have hsg := h.sg
  generalize hu : w.alloc (.cells cb tb) = u at ha hw
  obtain ⟨c, hc, hcs, hcf⟩ := ha.hB k (Nat.le_refl _)
  have hs2 : (stf u (B k) (sp * 10) v0 v1 v2 (.int .i64 f.1) (.int .i64 f.2.1) v5 v6 v7 (.int .i64 f.2.2) v9 (.int .i64 ((sp : Int) + 8 * (k : Int)))).heap[s]? = _ := (stf_other s hsB).trans ha.hs
  refine ⟨k, sp + 1, B, ⟨h.hk, h.hN, by omega, h.bs, h.bg, h.bB, ?_, ?_, ?_, h.inj⟩, by omega, by omega, Nat.le_refl _, fun _ _ => rfl, ?_⟩
  · rw [hw, heap_setCell_same _ _ _ _ _ _ hs2]
    simp
  · obtain ⟨P, p1, p2, p3⟩ := ha.hg
    exact ⟨P, by rw [hw, heap_setCell_other _ _ _ _ (Ne.symm hsg), stf_other g hgB]; exact p1, p2, p3⟩
  · intro i hi
    by_cases hik : i = k
    · subst hik
      refine ⟨stc c (sp * 10) v0 v1 v2 (.int .i64 f.1) (.int .i64 f.2.1) v5 v6 v7 (.int .i64 f.2.2) v9 (.int .i64 ((sp : Int) + 8 * (i : Int))), ?_, by rw [stc_size]; exact hcs, ?_⟩
      · rw [hw, heap_setCell_other _ _ _ _ (Ne.symm hsB)]; exact stf_same hc
      · intro j hj hm
        by_cases hjs : j = sp
        · subst hjs
          exact frameAt_new (by omega) rfl (by omega)
        · exact frameAt_old (hcf j hj (by omega)) hjs (by omega)
    · obtain ⟨d, d1, d2, d3⟩ := ha.hB i hi
      have hne : B i ≠ B k := fun e => hik (h.inj i k hi (Nat.le_refl _) e)
      refine ⟨d, by rw [hw, heap_setCell_other _ _ _ _ (Ne.symm (h.sB hi)), stf_other _ hne]; exact d1, d2, ?_⟩
      intro j hj hm
      have x := d3 j hj (by omega)
      have e : upd F (8 * k + sp) f (8 * i + j) = F (8 * i + j) := if_neg (by omega)
      exact ⟨x.idx, by rw [e]; exact x.pc, by rw [e]; exact x.ba, by rw [e]; exact x.nr⟩
  · have hbw : base ≤ w.heap.size := Nat.le_of_lt (Nat.lt_of_le_of_lt h.bs h.ls)
    have k0 : Keeps base w u := by rw [← hu]; exact (Keeps.refl base w).alloc hbw _
    have k1 := stf_keeps (o := sp * 10) (v0 := v0) (v1 := v1) (v2 := v2) (v3 := .int .i64 f.1) (v4 := .int .i64 f.2.1) (v5 := v5) (v6 := v6) (v7 := v7) (v8 := .int .i64 f.2.2) (v9 := v9) (v := .int .i64 ((sp : Int) + 8 * (k : Int))) k0 (h.bB k (Nat.le_refl _)) hc (by decide)
    have k2 := k1.setCell (p := ⟨s, 2, none⟩) h.bs hs2 (by decide) (.int .u8 ((sp : Int) + 1))
    exact k2.alike hw (h1.trans k2.below.os.symm) (h2.trans k2.below.tape.symm) (h3.trans k2.below.output.symm)
theorem stf_streams {w : World} {b o : Nat} {v0 v1 v2 v3 v4 v5 v6 v7 v8 v9 v : Value} : (stf w b o v0 v1 v2 v3 v4 v5 v6 v7 v8 v9 v).os = w.os ∧ (stf w b o v0 v1 v2 v3 v4 v5 v6 v7 v8 v9 v).tape = w.tape ∧ (stf w b o v0 v1 v2 v3 v4 v5 v6 v7 v8 v9 v).output = w.output := by
  unfold stf
  have e1 : ∀ (x : World) (a : Addr) (u : Value), (x.setCell a u).os = x.os := fun _ _ _ => rfl
  have e2 : ∀ (x : World) (a : Addr) (u : Value), (x.setCell a u).tape = x.tape := fun _ _ _ => rfl
  have e3 : ∀ (x : World) (a : Addr) (u : Value), (x.setCell a u).output = x.output := fun _ _ _ => rfl
  simp only [e1, e2, e3, and_self]

theorem push_fin_n {base s N k sp g : Nat} {w : World} {B : Nat → Nat} {F : Nat → Frm} (h : Stk base w s N k sp g B F) (hlt : sp < 8) (cb : Array Value) (tb : TypeId) (pc ba nr : Int) (v0 v1 v2 v5 v6 v7 v9 : Value) (n : Nat) :
    PushPost base w s N k sp g B F (pc, ba, nr) ((stf ((w.alloc (.cells cb tb)).drewN n) (B k) (sp * 10) v0 v1 v2 (.int .i64 pc) (.int .i64 ba) v5 v6 v7 (.int .i64 nr) v9 (.int .i64 ((sp : Int) + 8 * (k : Int)))).setCell ⟨s, 2, none⟩ (.int .u8 ((sp : Int) + 1))).drew := by
  have hh : (stf ((w.alloc (.cells cb tb)).drewN n) (B k) (sp * 10) v0 v1 v2 (.int .i64 pc) (.int .i64 ba) v5 v6 v7 (.int .i64 nr) v9 (.int .i64 ((sp : Int) + 8 * (k : Int)))).heap = (stf (w.alloc (.cells cb tb)) (B k) (sp * 10) v0 v1 v2 (.int .i64 pc) (.int .i64 ba) v5 v6 v7 (.int .i64 nr) v9 (.int .i64 ((sp : Int) + 8 * (k : Int)))).heap := stf_heap rfl
  have hst := stf_streams (w := (w.alloc (.cells cb tb)).drewN n) (b := B k) (o := sp * 10) (v0 := v0) (v1 := v1) (v2 := v2) (v3 := .int .i64 pc) (v4 := .int .i64 ba) (v5 := v5) (v6 := v6) (v7 := v7) (v8 := .int .i64 nr) (v9 := v9) (v := .int .i64 ((sp : Int) + 8 * (k : Int)))
  generalize stf ((w.alloc (.cells cb tb)).drewN n) (B k) (sp * 10) v0 v1 v2 (.int .i64 pc) (.int .i64 ba) v5 v6 v7 (.int .i64 nr) v9 (.int .i64 ((sp : Int) + 8 * (k : Int))) = u at hh hst
  exact push_fin h hlt cb tb (pc, ba, nr) v0 v1 v2 v5 v6 v7 v9 (setCell_heap (w := u) hh) hst.1 hst.2.1 hst.2.2

/-- A stack cut down: fewer frames, the same segments below. -/
theorem Stk.resize {base s N k sp g k' sp' : Nat} {w w' : World} {B : Nat → Nat} {F : Nat → Frm} (h : Stk base w s N k sp g B F) (hk : k' ≤ k) (hm : 8 * k' + sp' ≤ 8 * k + sp) (hsp : sp' ≤ 8)
    (hs : w'.heap[s]? = some (.cells #[.slice (some ⟨g, 0, none⟩) N N, .int .u16 (k' : Int), .int .u8 (sp' : Int)] 46 (0, 0)))
    (hg : ∃ P : Array Value, w'.heap[g]? = some (.cells P 48 (0, 0)) ∧ P.size = N ∧ ∀ i, i ≤ k' → P[i]? = some (.pointer (some ⟨B i, 0, none⟩)))
    (hB : ∀ i, i ≤ k' → w'.heap[B i]? = w.heap[B i]?) : Stk base w' s N k' sp' g B F := by
  refine ⟨Nat.lt_of_le_of_lt hk h.hk, h.hN, hsp, h.bs, h.bg, fun i hi => h.bB i (by omega), hs, hg, ?_, fun i j hi hj => h.inj i j (by omega) (by omega)⟩
  intro i hi
  obtain ⟨c, h1, h2, h3⟩ := h.hB i (by omega)
  exact ⟨c, by rw [hB i hi]; exact h1, h2, fun j hj hm' => h3 j hj (by omega)⟩

/-- The cells of a frame in memory. -/
def FrameCells (w : World) (b j m : Nat) (F : Nat → Frm) : Prop :=
  w.cell? ⟨b, j * 10, none⟩ = some (.int .i64 (m : Int)) ∧ w.cell? ⟨b, j * 10 + 3, none⟩ = some (.int .i64 (F m).1) ∧
    w.cell? ⟨b, j * 10 + 4, none⟩ = some (.int .i64 (F m).2.1) ∧ w.cell? ⟨b, j * 10 + 8, none⟩ = some (.int .i64 (F m).2.2)

theorem FrameCells.heap {w w' : World} {b j m : Nat} {F : Nat → Frm} (h : FrameCells w b j m F) (e : w'.heap[b]? = w.heap[b]?) : FrameCells w' b j m F :=
  ⟨(World.cell?_of_block (a := ⟨b, j * 10, none⟩) e).trans h.1, (World.cell?_of_block (a := ⟨b, j * 10 + 3, none⟩) e).trans h.2.1, (World.cell?_of_block (a := ⟨b, j * 10 + 4, none⟩) e).trans h.2.2.1, (World.cell?_of_block (a := ⟨b, j * 10 + 8, none⟩) e).trans h.2.2.2⟩

/-- What a pop of a stack that is not empty hands back and leaves. -/
def PopPost (base : Nat) (w : World) (s N k sp g : Nat) (B : Nat → Nat) (F : Nat → Frm) (e : Ending) (w' : World) : Prop :=
  ∃ k' sp', e = .returned (.pointer (some ⟨B k', sp' * 10, none⟩)) ∧ Stk base w' s N k' sp' g B F ∧ 8 * k' + sp' + 1 = 8 * k + sp ∧ k' ≤ k ∧ sp' < 8 ∧ FrameCells w' (B k') sp' (8 * k' + sp') F ∧ Keeps base w w'

theorem pop_fin_in {base s N k q g : Nat} {w : World} {B : Nat → Nat} {F : Nat → Frm} (h : Stk base w s N k (q + 1) g B F) (n n' : Nat) :
    PopPost base w s N k (q + 1) g B F (.returned (.pointer (some ⟨B k, q * 10, none⟩))) (((w.drewN n).setCell ⟨s, 2, none⟩ (.int .u8 (q : Int))).drewN n') := by
  have hq := h.hsp
  obtain ⟨w', hw⟩ : ∃ w', w' = ((w.drewN n).setCell ⟨s, 2, none⟩ (.int .u8 (q : Int))).drewN n' := ⟨_, rfl⟩
  have hh : w'.heap = (w.setCell ⟨s, 2, none⟩ (.int .u8 (q : Int))).heap := by rw [hw]; exact setCell_heap (w := w.drewN n) (w' := w) rfl
  have st : w'.os = w.os ∧ w'.tape = w.tape ∧ w'.output = w.output := by rw [hw]; exact ⟨rfl, rfl, rfl⟩
  rw [← hw]
  clear hw
  have o : ∀ x, x ≠ s → w'.heap[x]? = w.heap[x]? := fun x hx => by rw [hh, heap_setCell_other _ _ _ _ hx]
  have K := (Keeps.refl base w).setCell (p := ⟨s, 2, none⟩) h.bs h.hs (by decide) (.int .u8 (q : Int))
  refine ⟨k, q, rfl, h.resize (Nat.le_refl _) (by omega) (by omega) ?_ ?_ (fun i hi => o _ (Ne.symm (h.sB hi))), by omega, Nat.le_refl _, by omega, ?_, K.alike hh (st.1.trans K.below.os.symm) (st.2.1.trans K.below.tape.symm) (st.2.2.trans K.below.output.symm)⟩
  · rw [hh, heap_setCell_same _ _ _ _ _ _ h.hs]; simp
  · obtain ⟨P, p1, p2, p3⟩ := h.hg
    exact ⟨P, by rw [o g (Ne.symm h.sg)]; exact p1, p2, p3⟩
  · exact FrameCells.heap (h.frame (Nat.le_refl k) (by omega) (by omega)) (o _ (Ne.symm (h.sB (Nat.le_refl k))))

/-- The three stores at a segment's edge. -/
def edge (w : World) (s g i : Nat) : World := ((w.setCell ⟨g, i + 1, none⟩ (.pointer none)).setCell ⟨s, 1, none⟩ (.int .u16 (i : Int))).setCell ⟨s, 2, none⟩ (.int .u8 8)

theorem pop_fin_over {base s N i g : Nat} {w : World} {B : Nat → Nat} {F : Nat → Frm} (h : Stk base w s N (i + 1) 0 g B F) (n1 n2 n3 : Nat) :
    PopPost base w s N (i + 1) 0 g B F (.returned (.pointer (some ⟨B i, 70, none⟩))) ((((edge (w.drewN n1) s g i).drewN n2).setCell ⟨s, 2, none⟩ (.int .u8 7)).drewN n3) := by
  have hsg := h.sg
  obtain ⟨P, p1, p2, p3⟩ := h.hg
  obtain ⟨w', hw⟩ : ∃ w', w' = (((edge (w.drewN n1) s g i).drewN n2).setCell ⟨s, 2, none⟩ (.int .u8 7)).drewN n3 := ⟨_, rfl⟩
  have hh : w'.heap = ((((w.setCell ⟨g, i + 1, none⟩ (.pointer none)).setCell ⟨s, 1, none⟩ (.int .u16 (i : Int))).setCell ⟨s, 2, none⟩ (.int .u8 8)).setCell ⟨s, 2, none⟩ (.int .u8 7)).heap := by
    rw [hw]
    have e1 : (edge (w.drewN n1) s g i).heap = (((w.setCell ⟨g, i + 1, none⟩ (.pointer none)).setCell ⟨s, 1, none⟩ (.int .u16 (i : Int))).setCell ⟨s, 2, none⟩ (.int .u8 8)).heap :=
      setCell_heap (setCell_heap (setCell_heap (w := w.drewN n1) (w' := w) rfl))
    exact setCell_heap (w := (edge (w.drewN n1) s g i).drewN n2) e1
  have st : w'.os = w.os ∧ w'.tape = w.tape ∧ w'.output = w.output := by rw [hw]; exact ⟨rfl, rfl, rfl⟩
  rw [← hw]
  clear hw
  have K1 := (Keeps.refl base w).setCell (p := ⟨g, i + 1, none⟩) h.bg p1 (by decide) (.pointer none)
  have s1 := (heap_setCell_other w ⟨g, i + 1, none⟩ s (.pointer none) hsg).trans h.hs
  have g1 := heap_setCell_same w g (i + 1) _ _ (.pointer none) p1
  have K2 := K1.setCell (p := ⟨s, 1, none⟩) h.bs s1 (by decide) (.int .u16 (i : Int))
  have s2 := heap_setCell_same _ s 1 _ _ (.int .u16 (i : Int)) s1
  have K3 := K2.setCell (p := ⟨s, 2, none⟩) h.bs s2 (by decide) (.int .u8 8)
  have s3 := heap_setCell_same _ s 2 _ _ (.int .u8 8) s2
  have K4 := K3.setCell (p := ⟨s, 2, none⟩) h.bs s3 (by decide) (.int .u8 7)
  have s4 := heap_setCell_same _ s 2 _ _ (.int .u8 7) s3
  have o : ∀ x, x ≠ s → x ≠ g → w'.heap[x]? = w.heap[x]? := fun x hx hy => by
    rw [hh, heap_setCell_other _ _ _ _ hx, heap_setCell_other _ _ _ _ hx, heap_setCell_other _ _ _ _ hx, heap_setCell_other _ _ _ _ hy]
  refine ⟨i, 7, rfl, h.resize (by omega) (by omega) (by omega) ?_ ?_ (fun x hx => o _ (Ne.symm (h.sB (by omega))) (Ne.symm (h.gB (by omega)))), by omega, by omega, by omega, ?_, K4.alike hh (st.1.trans K4.below.os.symm) (st.2.1.trans K4.below.tape.symm) (st.2.2.trans K4.below.output.symm)⟩
  · rw [hh, s4]; simp
  · refine ⟨P.setIfInBounds (i + 1) (.pointer none), ?_, by simpa using p2, ?_⟩
    · rw [hh, heap_setCell_other _ _ _ _ (Ne.symm hsg), heap_setCell_other _ _ _ _ (Ne.symm hsg), heap_setCell_other _ _ _ _ (Ne.symm hsg)]; exact g1
    · intro x hx
      rw [Array.getElem?_setIfInBounds, if_neg (by omega)]
      exact p3 x (by omega)
  · exact FrameCells.heap (h.frame (i := i) (j := 7) (by omega) (by omega) (by omega)) (o _ (Ne.symm (h.sB (by omega))) (Ne.symm (h.gB (by omega))))
end Go.Proofs.Ytifdflmleplpkaa
