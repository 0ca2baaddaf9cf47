/- The contract of the stack's Push where the segment in use is full and another may be made. -/
import Derived.Test.YtifdflmleplpkaaStkPush
namespace Go.Proofs.Ytifdflmleplpkaa
open Go.RowKit

/-- A new block of eighty cells. -/
structure NewSeg (w w1 : World) (nb : Nat) : Prop where
  eq : w.heap.size = nb
  blk : ∃ C : Array Value, C.size = 80 ∧ w1.heap[nb]? = some (.cells C 51 (0, 0))
  old : ∀ b, b < w.heap.size → w1.heap[b]? = w.heap[b]?
  size : w1.heap.size = nb + 1
  os : w1.os = w.os
  tape : w1.tape = w.tape
  output : w1.output = w.output
theorem NewSeg.cell {w w1 : World} {nb j : Nat} (h : NewSeg w w1 nb) (hj : j < 80) : ∃ v, w1.cell? ⟨nb, j, none⟩ = some v := by
  obtain ⟨C, h1, h2⟩ := h.blk
  rw [cell_of_row _ _ _ _ _ _ h2]
  exact ⟨C[j]'(by omega), by simp [show j < C.size by omega]⟩
theorem NewSeg.free {w w1 : World} {nb : Nat} (h : NewSeg w w1 nb) (j : Nat) : w1.frozen? ⟨nb, j, none⟩ = false := by
  obtain ⟨C, h1, h2⟩ := h.blk
  exact frozen_of_row _ _ _ _ _ h2

/-- A new segment's cells. -/
def segZ : Array Value := (List.replicate 8 [Value.int .i64 0, .pointer none, .pointer none, .int .i64 0, .int .i64 0, .int .i64 0, .int .i64 0, .int .i64 0, .int .i64 0, .int .i64 0]).flatten.toArray
theorem segZ_size : segZ.size = 80 := by kernel_rfl
theorem zeroSeg (w : World) : (zeroValue 51).run Try.prog w = .ok (.agg segZ) w := by kernel_rfl

theorem newseg_any (w : World) : Calls Try.prog 21 #[] w fun e w' => ∃ nb, e = .returned (.pointer (some ⟨nb, 0, none⟩)) ∧ NewSeg w w' nb := by
  have hfin : NewSeg w (w.alloc (.cells segZ 51)) w.heap.size :=
    ⟨rfl, ⟨segZ, segZ_size, heap_alloc_new _ _⟩, fun b hb => Below.heap_alloc _ _ _ hb, by simp, rfl, rfl, rfl⟩
  have H := Hid_mk hfin
  clear hfin
  have hz := zeroSeg
  go_enter Try.func21, Try.ntmps21
  go_wp2_with fail
  go_ret
  exact ⟨_, rfl, H.out⟩

/-- The world behind the push that makes a segment. -/
def grw (w1 : World) (s g k nb : Nat) (v0 v1 v2 v3 v4 v5 v6 v7 v8 v9 v : Value) : World :=
  (stf (((w1.setCell ⟨s, 1, none⟩ (.int .u16 ((k : Int) + 1))).setCell ⟨g, k + 1, none⟩ (.pointer (some ⟨nb, 0, none⟩))).setCell ⟨s, 2, none⟩ (.int .u8 0)) nb 0 v0 v1 v2 v3 v4 v5 v6 v7 v8 v9 v).setCell ⟨s, 2, none⟩ (.int .u8 1)

set_option maxHeartbeats 400000 in
theorem grow_fin {base s N k g nb : Nat} {w w0 w1 : World} {B : Nat → Nat} {F : Nat → Frm} (h : Stk base w s N k 8 g B F) (hk : k + 1 < N) (hn : NewSeg w0 w1 nb) (cb : Array Value) (tb : TypeId) (hW : w0.heap = (w.alloc (.cells cb tb)).heap)
    (q1 : w0.os = w.os) (q2 : w0.tape = w.tape) (q3 : w0.output = w.output) (pc ba nr : Int) (v0 v1 v2 v5 v6 v7 v9 : Value) {w' : World} (hw : w'.heap = (grw w1 s g k nb v0 v1 v2 (.int .i64 pc) (.int .i64 ba) v5 v6 v7 (.int .i64 nr) v9 (.int .i64 (8 * ((k : Int) + 1)))).heap)
    (r1 : w'.os = w1.os) (r2 : w'.tape = w1.tape) (r3 : w'.output = w1.output) : PushPost base w s N k 8 g B F (pc, ba, nr) w' := by
  have hz : w0.heap.size = w.heap.size + 1 := by rw [hW]; simp
  have ho : ∀ x, x < w.heap.size → w1.heap[x]? = w.heap[x]? := fun x hx => by
    rw [hn.old x (by omega), hW, Below.heap_alloc _ _ _ hx]
  have hnb : nb = w.heap.size + 1 := by rw [← hn.eq]; exact hz
  have ls := h.ls
  have lg := h.lg
  have hsg := h.sg
  have nsn : s ≠ nb := by omega
  have ngn : g ≠ nb := by omega
  have hbw : base ≤ w.heap.size := Nat.le_of_lt (Nat.lt_of_le_of_lt h.bs h.ls)
  obtain ⟨C, hC, hCb⟩ := hn.blk
  obtain ⟨P, p1, p2, p3⟩ := h.hg
  have K1 : Keeps base w w1 := ⟨⟨hn.os.trans q1, hn.tape.trans q2, hn.output.trans q3, by rw [hn.size]; omega, fun x hx => ho x (by omega)⟩, fun x d t f e _ => by rw [ho x (lt_of_block e)]; exact e⟩
  have s0 := (ho s ls).trans h.hs
  have g0 := (ho g lg).trans p1
  -- the first store
  have s1 := heap_setCell_same w1 s 1 _ _ (.int .u16 ((k : Int) + 1)) s0
  have g1 : (w1.setCell ⟨s, 1, none⟩ (.int .u16 ((k : Int) + 1))).heap[g]? = _ := (heap_setCell_other w1 ⟨s, 1, none⟩ g (.int .u16 ((k : Int) + 1)) (Ne.symm hsg)).trans g0
  have c1 : (w1.setCell ⟨s, 1, none⟩ (.int .u16 ((k : Int) + 1))).heap[nb]? = _ := (heap_setCell_other w1 ⟨s, 1, none⟩ nb (.int .u16 ((k : Int) + 1)) (Ne.symm nsn)).trans hCb
  have o1 : ∀ x, x ≠ s → (w1.setCell ⟨s, 1, none⟩ (.int .u16 ((k : Int) + 1))).heap[x]? = w1.heap[x]? := fun x hx => heap_setCell_other w1 ⟨s, 1, none⟩ x _ hx
  have K2 := K1.setCell (p := ⟨s, 1, none⟩) h.bs s0 (by decide) (.int .u16 ((k : Int) + 1))
  unfold grw at hw
  have t1 : (w1.setCell ⟨s, 1, none⟩ (.int .u16 ((k : Int) + 1))).os = w1.os ∧ (w1.setCell ⟨s, 1, none⟩ (.int .u16 ((k : Int) + 1))).tape = w1.tape ∧ (w1.setCell ⟨s, 1, none⟩ (.int .u16 ((k : Int) + 1))).output = w1.output := ⟨rfl, rfl, rfl⟩
  generalize w1.setCell ⟨s, 1, none⟩ (.int .u16 ((k : Int) + 1)) = u1 at s1 g1 c1 o1 K2 hw t1
  -- the second
  have s2 : (u1.setCell ⟨g, k + 1, none⟩ (.pointer (some ⟨nb, 0, none⟩))).heap[s]? = _ := (heap_setCell_other u1 ⟨g, k + 1, none⟩ s (.pointer (some ⟨nb, 0, none⟩)) hsg).trans s1
  have g2 := heap_setCell_same u1 g (k + 1) _ _ (.pointer (some ⟨nb, 0, none⟩)) g1
  have c2 : (u1.setCell ⟨g, k + 1, none⟩ (.pointer (some ⟨nb, 0, none⟩))).heap[nb]? = _ := (heap_setCell_other u1 ⟨g, k + 1, none⟩ nb (.pointer (some ⟨nb, 0, none⟩)) (Ne.symm ngn)).trans c1
  have o2 : ∀ x, x ≠ s → x ≠ g → (u1.setCell ⟨g, k + 1, none⟩ (.pointer (some ⟨nb, 0, none⟩))).heap[x]? = w1.heap[x]? := fun x hx hy => (heap_setCell_other u1 ⟨g, k + 1, none⟩ x _ hy).trans (o1 x hx)
  have K3 := K2.setCell (p := ⟨g, k + 1, none⟩) h.bg g1 (by decide) (.pointer (some ⟨nb, 0, none⟩))
  generalize u1.setCell ⟨g, k + 1, none⟩ (.pointer (some ⟨nb, 0, none⟩)) = u2 at s2 g2 c2 o2 K3 hw
  -- the third
  have s3 := heap_setCell_same u2 s 2 _ _ (.int .u8 0) s2
  have g3 : (u2.setCell ⟨s, 2, none⟩ (.int .u8 0)).heap[g]? = _ := (heap_setCell_other u2 ⟨s, 2, none⟩ g (.int .u8 0) (Ne.symm hsg)).trans g2
  have c3 : (u2.setCell ⟨s, 2, none⟩ (.int .u8 0)).heap[nb]? = _ := (heap_setCell_other u2 ⟨s, 2, none⟩ nb (.int .u8 0) (Ne.symm nsn)).trans c2
  have o3 : ∀ x, x ≠ s → x ≠ g → (u2.setCell ⟨s, 2, none⟩ (.int .u8 0)).heap[x]? = w1.heap[x]? := fun x hx hy => (heap_setCell_other u2 ⟨s, 2, none⟩ x _ hx).trans (o2 x hx hy)
  have K4 := K3.setCell (p := ⟨s, 2, none⟩) h.bs s2 (by decide) (.int .u8 0)
  generalize u2.setCell ⟨s, 2, none⟩ (.int .u8 0) = u3 at s3 g3 c3 o3 K4 hw
  -- the frame
  have s4 := (stf_other (w := u3) (b := nb) (o := 0) (v0 := v0) (v1 := v1) (v2 := v2) (v3 := .int .i64 pc) (v4 := .int .i64 ba) (v5 := v5) (v6 := v6) (v7 := v7) (v8 := .int .i64 nr) (v9 := v9) (v := .int .i64 (8 * ((k : Int) + 1))) s nsn).trans s3
  have g4 := (stf_other (w := u3) (b := nb) (o := 0) (v0 := v0) (v1 := v1) (v2 := v2) (v3 := .int .i64 pc) (v4 := .int .i64 ba) (v5 := v5) (v6 := v6) (v7 := v7) (v8 := .int .i64 nr) (v9 := v9) (v := .int .i64 (8 * ((k : Int) + 1))) g ngn).trans g3
  have c4 := stf_same (o := 0) (v0 := v0) (v1 := v1) (v2 := v2) (v3 := .int .i64 pc) (v4 := .int .i64 ba) (v5 := v5) (v6 := v6) (v7 := v7) (v8 := .int .i64 nr) (v9 := v9) (v := .int .i64 (8 * ((k : Int) + 1))) c3
  have o4 : ∀ x, x ≠ s → x ≠ g → x ≠ nb → (stf u3 nb 0 v0 v1 v2 (.int .i64 pc) (.int .i64 ba) v5 v6 v7 (.int .i64 nr) v9 (.int .i64 (8 * ((k : Int) + 1)))).heap[x]? = w1.heap[x]? := fun x hx hy hn => (stf_other x hn).trans (o3 x hx hy)
  have K5 := stf_keeps (o := 0) (v0 := v0) (v1 := v1) (v2 := v2) (v3 := .int .i64 pc) (v4 := .int .i64 ba) (v5 := v5) (v6 := v6) (v7 := v7) (v8 := .int .i64 nr) (v9 := v9) (v := .int .i64 (8 * ((k : Int) + 1))) K4 (by omega) c3 (by decide)
  generalize stf u3 nb 0 v0 v1 v2 (.int .i64 pc) (.int .i64 ba) v5 v6 v7 (.int .i64 nr) v9 (.int .i64 (8 * ((k : Int) + 1))) = u4 at s4 g4 c4 o4 K5 hw
  -- the last
  have s5 := heap_setCell_same u4 s 2 _ _ (.int .u8 1) s4
  have o5 : ∀ x, x ≠ s → (u4.setCell ⟨s, 2, none⟩ (.int .u8 1)).heap[x]? = u4.heap[x]? := fun x hx => heap_setCell_other u4 ⟨s, 2, none⟩ x _ hx
  have K6 := K5.setCell (p := ⟨s, 2, none⟩) h.bs s4 (by decide) (.int .u8 1)
  obtain ⟨B', B1, B2⟩ : ∃ B' : Nat → Nat, (∀ i, i ≤ k → B' i = B i) ∧ B' (k + 1) = nb := ⟨fun i => if i = k + 1 then nb else B i, fun i hi => if_neg (by omega), if_pos rfl⟩
  refine ⟨k + 1, 1, B', ⟨hk, h.hN, by omega, h.bs, h.bg, ?_, ?_, ?_, ?_, ?_⟩, by omega, Nat.le_refl _, by omega, B1, K6.alike hw (r1.trans (hn.os.trans q1) |>.trans K6.below.os.symm) (r2.trans (hn.tape.trans q2) |>.trans K6.below.tape.symm) (r3.trans (hn.output.trans q3) |>.trans K6.below.output.symm)⟩
  · intro i hi
    by_cases hik : i = k + 1
    · subst hik; rw [B2]; omega
    · rw [B1 i (by omega)]; exact h.bB i (by omega)
  · rw [hw, s5]; simp
  · refine ⟨P.setIfInBounds (k + 1) (.pointer (some ⟨nb, 0, none⟩)), by rw [hw, o5 g (Ne.symm hsg)]; exact g4, by simpa using p2, ?_⟩
    intro i hi
    by_cases hik : i = k + 1
    · subst hik
      rw [B2]
      rw [Array.getElem?_setIfInBounds, if_pos rfl, if_pos (by omega)]
    · rw [B1 i (by omega)]
      rw [Array.getElem?_setIfInBounds, if_neg (by omega)]
      exact p3 i (by omega)
  · intro i hi
    by_cases hik : i = k + 1
    · subst hik
      rw [B2]
      refine ⟨_, by rw [hw, o5 nb (Ne.symm nsn)]; exact c4, by rw [stc_size]; exact hC, ?_⟩
      intro j hj hm
      have hj0 : j = 0 := by omega
      subst hj0
      have q := frameAt_new (c := C) (i := k + 1) (j := 0) (n := 8 * k + 8) (F := F) (f := (pc, ba, nr)) (v0 := v0) (v1 := v1) (v2 := v2) (v5 := v5) (v6 := v6) (v7 := v7) (v9 := v9) (z := 8 * ((k : Int) + 1)) (by omega) (by omega) (by omega)
      rw [Nat.zero_mul] at q
      exact q
    · have hi' : i ≤ k := by omega
      rw [B1 i hi']
      obtain ⟨d, d1, d2, d3⟩ := h.hB i hi'
      refine ⟨d, ?_, d2, ?_⟩
      · rw [hw, o5 _ (Ne.symm (h.sB hi')), o4 _ (Ne.symm (h.sB hi')) (Ne.symm (h.gB hi')) (by have := h.lB hi'; omega), ho _ (h.lB hi')]; exact d1
      · intro j hj hm
        have x := d3 j hj (by omega)
        have e : upd F (8 * k + 8) (pc, ba, nr) (8 * i + j) = F (8 * i + j) := if_neg (by omega)
        exact ⟨x.idx, by rw [e]; exact x.pc, by rw [e]; exact x.ba, by rw [e]; exact x.nr⟩
  · intro i j hi hj hij
    by_cases hik : i = k + 1
    · by_cases hjk : j = k + 1
      · omega
      · subst hik
        rw [B2, B1 j (by omega)] at hij
        have := h.lB (i := j) (by omega)
        omega
    · by_cases hjk : j = k + 1
      · subst hjk
        rw [B2, B1 i (by omega)] at hij
        have := h.lB (i := i) (by omega)
        omega
      · rw [B1 i (by omega), B1 j (by omega)] at hij
        exact h.inj i j (by omega) (by omega) hij

def GrowPost (w : World) (s g k : Nat) (i0 pc ba nr : Int) (e : Ending) (w' : World) : Prop :=
  e = .returned (.tuple #[]) ∧ ∃ nb w0 w1, NewSeg w0 w1 nb ∧ w0.heap = (w.alloc (.cells #[.int .i64 i0, .pointer none, .pointer none, .int .i64 pc, .int .i64 ba, .int .i64 0, .int .i64 0, .int .i64 0, .int .i64 nr, .int .i64 0] 38)).heap ∧ w0.os = w.os ∧ w0.tape = w.tape ∧ w0.output = w.output ∧
    (grw w1 s g k nb (.int .i64 i0) (.pointer none) (.pointer none) (.int .i64 pc) (.int .i64 ba) (.int .i64 0) (.int .i64 0) (.int .i64 0) (.int .i64 nr) (.int .i64 0) (.int .i64 (8 * ((k : Int) + 1)))).drew.drew.drew = w'

set_option maxHeartbeats 400000 in
theorem push_grow_w (s g k N : Nat) (i0 pc ba nr : Int) (w : World) (hkN : k + 1 < N) (hN : N ≤ 8192) (sc : Array Value) (hs : w.heap[s]? = some (.cells sc 46 (0, 0))) (gc : Array Value) (hg : w.heap[g]? = some (.cells gc 48 (0, 0))) (b : Nat) (y : Value)
    (c0 : w.cell? ⟨s, 0, none⟩ = some (.slice (some ⟨g, 0, none⟩) N N)) (c1 : w.cell? ⟨s, 1, none⟩ = some (.int .u16 k)) (c2 : w.cell? ⟨s, 2, none⟩ = some (.int .u8 8))
    (cg : w.cell? ⟨g, k, none⟩ = some (.pointer (some ⟨b, 0, none⟩))) (cy : w.cell? ⟨g, k + 1, none⟩ = some y) :
    Calls Try.prog 18 #[.pointer (some ⟨s, 0, none⟩), .agg #[.int .i64 i0, .pointer none, .pointer none, .int .i64 pc, .int .i64 ba, .int .i64 0, .int .i64 0, .int .i64 0, .int .i64 nr, .int .i64 0]] w (GrowPost w s g k i0 pc ba nr) := by
  have hsl := lt_of_block hs
  have hgl := lt_of_block hg
  have hgs : ¬ g = s := by
    intro e
    rw [e, hs] at hg
    simp at hg
  have HH := Hid_mk (And.intro hs hg)
  clear hs hg
  go_enter Try.func18, Try.ntmps18
  go_wp2_with fail
  go_quiet (fail)
  go_wp2_with fail
  go_quiet (fail)
  go_wp2_with fail
  generalize hW0 : (World.drewN _ _) = W0
  refine (newseg_any _).mono ?_
  rintro e w1 ⟨nb, rfl, hnew⟩
  have hW : W0.heap = (w.alloc (.cells #[.int .i64 i0, .pointer none, .pointer none, .int .i64 pc, .int .i64 ba, .int .i64 0, .int .i64 0, .int .i64 0, .int .i64 nr, .int .i64 0] 38)).heap := by rw [← hW0]; rfl
  have hq : W0.os = w.os ∧ W0.tape = w.tape ∧ W0.output = w.output := by rw [← hW0]; exact ⟨rfl, rfl, rfl⟩
  have hz : W0.heap.size = w.heap.size + 1 := by rw [hW]; simp
  have ho : ∀ x, x < w.heap.size → w1.heap[x]? = w.heap[x]? := fun x hx => by
    rw [hnew.old x (by omega), hW, Below.heap_alloc _ _ _ hx]
  have hbox : w1.heap[w.heap.size]? = some (.cells #[.int .i64 i0, .pointer none, .pointer none, .int .i64 pc, .int .i64 ba, .int .i64 0, .int .i64 0, .int .i64 0, .int .i64 nr, .int .i64 0] 38 (0, 0)) := by
    rw [hnew.old _ (by omega), hW]; exact heap_alloc_new _ _
  have hs1 := (ho s hsl).trans HH.out.1
  have hg1 := (ho g hgl).trans HH.out.2
  have k0 : w1.cell? ⟨s, 0, none⟩ = some (.slice (some ⟨g, 0, none⟩) N N) := (World.cell?_of_block (a := ⟨s, 0, none⟩) (ho s hsl)).trans c0
  have k1 : w1.cell? ⟨s, 1, none⟩ = some (.int .u16 k) := (World.cell?_of_block (a := ⟨s, 1, none⟩) (ho s hsl)).trans c1
  have k2 : w1.cell? ⟨s, 2, none⟩ = some (.int .u8 8) := (World.cell?_of_block (a := ⟨s, 2, none⟩) (ho s hsl)).trans c2
  have ky : w1.cell? ⟨g, k + 1, none⟩ = some y := (World.cell?_of_block (a := ⟨g, k + 1, none⟩) (ho g hgl)).trans cy
  have f1 : w1.frozen? ⟨s, 1, none⟩ = false := frozen_of_row _ _ _ _ _ hs1
  have f2 : w1.frozen? ⟨s, 2, none⟩ = false := frozen_of_row _ _ _ _ _ hs1
  have fy : w1.frozen? ⟨g, k + 1, none⟩ = false := frozen_of_row _ _ _ _ _ hg1
  have hsg : ¬ s = g := fun e => hgs e.symm
  have hnb := hnew.eq
  have ns : ¬ s = nb := by omega
  have ns' : ¬ nb = s := by omega
  have ng : ¬ g = nb := by omega
  have ng' : ¬ nb = g := by omega
  have nx : ¬ w.heap.size = nb := by omega
  have nx' : ¬ nb = w.heap.size := by omega
  have ny : ¬ s = w.heap.size := by omega
  have ny' : ¬ w.heap.size = s := by omega
  have nz : ¬ g = w.heap.size := by omega
  have nz' : ¬ w.heap.size = g := by omega
  obtain ⟨x0, d0⟩ := hnew.cell (j := 0) (by omega)
  have e0 := hnew.free 0
  obtain ⟨x1, d1⟩ := hnew.cell (j := 1) (by omega)
  have e1 := hnew.free 1
  obtain ⟨x2, d2⟩ := hnew.cell (j := 2) (by omega)
  have e2 := hnew.free 2
  obtain ⟨x3, d3⟩ := hnew.cell (j := 3) (by omega)
  have e3 := hnew.free 3
  obtain ⟨x4, d4⟩ := hnew.cell (j := 4) (by omega)
  have e4 := hnew.free 4
  obtain ⟨x5, d5⟩ := hnew.cell (j := 5) (by omega)
  have e5 := hnew.free 5
  obtain ⟨x6, d6⟩ := hnew.cell (j := 6) (by omega)
  have e6 := hnew.free 6
  obtain ⟨x7, d7⟩ := hnew.cell (j := 7) (by omega)
  have e7 := hnew.free 7
  obtain ⟨x8, d8⟩ := hnew.cell (j := 8) (by omega)
  have e8 := hnew.free 8
  obtain ⟨x9, d9⟩ := hnew.cell (j := 9) (by omega)
  have e9 := hnew.free 9
  have p0 : w1.cell? ⟨w.heap.size, 0, none⟩ = some (.int .i64 i0) := by rw [cell_of_row _ _ _ _ _ _ hbox]; rfl
  have p1 : w1.cell? ⟨w.heap.size, 1, none⟩ = some (.pointer none) := by rw [cell_of_row _ _ _ _ _ _ hbox]; rfl
  have p2 : w1.cell? ⟨w.heap.size, 2, none⟩ = some (.pointer none) := by rw [cell_of_row _ _ _ _ _ _ hbox]; rfl
  have p3 : w1.cell? ⟨w.heap.size, 3, none⟩ = some (.int .i64 pc) := by rw [cell_of_row _ _ _ _ _ _ hbox]; rfl
  have p4 : w1.cell? ⟨w.heap.size, 4, none⟩ = some (.int .i64 ba) := by rw [cell_of_row _ _ _ _ _ _ hbox]; rfl
  have p5 : w1.cell? ⟨w.heap.size, 5, none⟩ = some (.int .i64 0) := by rw [cell_of_row _ _ _ _ _ _ hbox]; rfl
  have p6 : w1.cell? ⟨w.heap.size, 6, none⟩ = some (.int .i64 0) := by rw [cell_of_row _ _ _ _ _ _ hbox]; rfl
  have p7 : w1.cell? ⟨w.heap.size, 7, none⟩ = some (.int .i64 0) := by rw [cell_of_row _ _ _ _ _ _ hbox]; rfl
  have p8 : w1.cell? ⟨w.heap.size, 8, none⟩ = some (.int .i64 nr) := by rw [cell_of_row _ _ _ _ _ _ hbox]; rfl
  have p9 : w1.cell? ⟨w.heap.size, 9, none⟩ = some (.int .i64 0) := by rw [cell_of_row _ _ _ _ _ _ hbox]; rfl
  have HN := Hid_mk (And.intro hnew (And.intro hW (And.intro hq hnb)))
  clear hnew hW hz hq ho hbox hs1 hg1 hnb hW0 c0 c1 c2 cg cy
  go_wp2_with fail
  go_region
  all_goals go_wp2_with fail
  all_goals go_region
  all_goals go_wp2_with fail
  all_goals go_region
  all_goals go_wp2_with fail
  all_goals go_end0
  all_goals exact ⟨rfl, nb, W0, w1, HN.out.1, HN.out.2.1, HN.out.2.2.1.1, HN.out.2.2.1.2.1, HN.out.2.2.1.2.2, rfl⟩

theorem grw_streams {w1 : World} {s g k nb : Nat} {v0 v1 v2 v3 v4 v5 v6 v7 v8 v9 v : Value} : (grw w1 s g k nb v0 v1 v2 v3 v4 v5 v6 v7 v8 v9 v).os = w1.os ∧ (grw w1 s g k nb v0 v1 v2 v3 v4 v5 v6 v7 v8 v9 v).tape = w1.tape ∧ (grw w1 s g k nb v0 v1 v2 v3 v4 v5 v6 v7 v8 v9 v).output = w1.output := by
  unfold grw
  have e1 : ∀ (x : World) (a : Addr) (u : Value), (x.setCell a u).os = x.os := fun _ _ _ => rfl
  have e2 : ∀ (x : World) (a : Addr) (u : Value), (x.setCell a u).tape = x.tape := fun _ _ _ => rfl
  have e3 : ∀ (x : World) (a : Addr) (u : Value), (x.setCell a u).output = x.output := fun _ _ _ => rfl
  simp only [e1, e2, e3, stf_streams.1, stf_streams.2.1, stf_streams.2.2, and_self]

theorem push_grow (base s N k g : Nat) (B : Nat → Nat) (F : Nat → Frm) (i0 pc ba nr : Int) (w : World) (h : Stk base w s N k 8 g B F) (hk : k + 1 < N) :
    Calls Try.prog 18 #[.pointer (some ⟨s, 0, none⟩), .agg #[.int .i64 i0, .pointer none, .pointer none, .int .i64 pc, .int .i64 ba, .int .i64 0, .int .i64 0, .int .i64 0, .int .i64 nr, .int .i64 0]] w fun e w' => e = .returned (.tuple #[]) ∧ PushPost base w s N k 8 g B F (pc, ba, nr) w' := by
  obtain ⟨P, p1, _⟩ := h.hg
  obtain ⟨y, cy⟩ := h.cgs (i := k + 1) hk
  refine (push_grow_w s g k N i0 pc ba nr w hk h.hN _ h.hs P p1 (B k) y h.c0 h.c1 h.c2 (h.cg (Nat.le_refl _)) cy).mono ?_
  rintro e w' ⟨rfl, nb, w0, w1, h1, h2, h3, h4, h5, rfl⟩
  have e := grw_streams (w1 := w1) (s := s) (g := g) (k := k) (nb := nb) (v0 := .int .i64 i0) (v1 := .pointer none) (v2 := .pointer none) (v3 := .int .i64 pc) (v4 := .int .i64 ba) (v5 := .int .i64 0) (v6 := .int .i64 0) (v7 := .int .i64 0) (v8 := .int .i64 nr) (v9 := .int .i64 0) (v := .int .i64 (8 * ((k : Int) + 1)))
  have hd : ∀ x : World, x.drew.drew.drew.heap = x.heap := fun _ => rfl
  obtain ⟨X, hX⟩ : ∃ X, X = grw w1 s g k nb (.int .i64 i0) (.pointer none) (.pointer none) (.int .i64 pc) (.int .i64 ba) (.int .i64 0) (.int .i64 0) (.int .i64 0) (.int .i64 nr) (.int .i64 0) (.int .i64 (8 * ((k : Int) + 1))) := ⟨_, rfl⟩
  rw [← hX] at e
  rw [← hX]
  exact ⟨rfl, grow_fin h hk h1 _ _ h2 h3 h4 h5 pc ba nr _ _ _ _ _ _ _ ((hd X).trans (congrArg World.heap hX)) e.1 e.2.1 e.2.2⟩

/-- Push, for every stack below its capacity. -/
theorem push_any (base s N k sp g : Nat) (B : Nat → Nat) (F : Nat → Frm) (i0 pc ba nr : Int) (w : World) (h : Stk base w s N k sp g B F) (hlt : 8 * k + sp < 8 * N) :
    Calls Try.prog 18 #[.pointer (some ⟨s, 0, none⟩), .agg #[.int .i64 i0, .pointer none, .pointer none, .int .i64 pc, .int .i64 ba, .int .i64 0, .int .i64 0, .int .i64 0, .int .i64 nr, .int .i64 0]] w fun e w' => e = .returned (.tuple #[]) ∧ PushPost base w s N k sp g B F (pc, ba, nr) w' := by
  by_cases h8 : sp < 8
  · exact push_room base s N k sp g B F i0 pc ba nr w h h8
  · have h8' := h.hsp
    have e : sp = 8 := by omega
    subst e
    exact push_grow base s N k g B F i0 pc ba nr w h (by omega)
end Go.Proofs.Ytifdflmleplpkaa
