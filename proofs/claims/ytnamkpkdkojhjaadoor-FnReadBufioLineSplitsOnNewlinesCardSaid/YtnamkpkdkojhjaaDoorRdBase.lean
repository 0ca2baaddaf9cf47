/- Frames of worlds (all blocks but a few listed ones are as they were), one step of a drawing region that copies cells; plain lemmas. -/
import Derived.Test.YtnamkpkdkojhjaaDoorRows
import Derived.WalkKit
import Derived.WalkSmall
import Derived.Laws.CopyRow
import Derived.Deep.RegionLaw
namespace Go.Proofs.YtnamkpkdkojhjaaDoor
open Go.RowKit

theorem Hid_mk {p : Prop} (h : p) : Hid p := h

/-- All blocks that were there, but those of S, are as they were; so are the streams. -/
structure Fr (S : List Nat) (w w' : World) : Prop where
  os : w'.os = w.os
  tape : w'.tape = w.tape
  output : w'.output = w.output
  size : w.heap.size ≤ w'.heap.size
  block : ∀ b, b < w.heap.size → b ∉ S → w'.heap[b]? = w.heap[b]?

theorem Fr.refl (S : List Nat) (w : World) : Fr S w w := ⟨rfl, rfl, rfl, Nat.le_refl _, fun _ _ _ => rfl⟩
theorem Fr.trans {S : List Nat} {a b c : World} (h : Fr S a b) (k : Fr S b c) : Fr S a c :=
  ⟨k.os.trans h.os, k.tape.trans h.tape, k.output.trans h.output, Nat.le_trans h.size k.size, fun x hx hS => (k.block x (Nat.lt_of_lt_of_le hx h.size) hS).trans (h.block x hx hS)⟩
theorem Fr.mono {S T : List Nat} {a b : World} (h : Fr S a b) (hS : ∀ x, x ∈ S → x ∈ T) : Fr T a b :=
  ⟨h.os, h.tape, h.output, h.size, fun x hx hT => h.block x hx (fun hm => hT (hS x hm))⟩
theorem Fr.alike {S : List Nat} {a w w' : World} (h : Fr S a w) (e1 : w'.heap = w.heap) (e2 : w'.os = w.os) (e3 : w'.tape = w.tape) (e4 : w'.output = w.output) : Fr S a w' :=
  h.trans ⟨e2, e3, e4, by rw [e1]; exact Nat.le_refl _, fun x _ _ => by rw [e1]⟩
theorem Fr.drewN {S : List Nat} {a w : World} (h : Fr S a w) (n : Nat) : Fr S a (w.drewN n) := h.alike rfl rfl rfl rfl
theorem Fr.drew {S : List Nat} {a w : World} (h : Fr S a w) : Fr S a w.drew := h.alike rfl rfl rfl rfl
theorem Fr.setCell {S : List Nat} {a w : World} (h : Fr S a w) {p : Addr} (hp : p.block ∈ S) (v : Value) : Fr S a (w.setCell p v) :=
  h.trans ⟨rfl, rfl, rfl, by simp, fun x _ hS => heap_setCell_other _ _ _ _ (fun e => hS (e ▸ hp))⟩
theorem Fr.setRow {S : List Nat} {a w : World} (h : Fr S a w) {g : Nat} (hp : g ∈ S) (cs : Array Value) : Fr S a (w.setRow g cs) :=
  h.trans ⟨rfl, rfl, rfl, by simp [World.setRow], fun x _ hS => setRow_other w g x cs (fun e => hS (e ▸ hp))⟩
theorem Fr.alloc {S : List Nat} {a w : World} (h : Fr S a w) (o : Obj) : Fr S a (w.alloc o) :=
  h.trans ⟨rfl, rfl, rfl, by simp, fun x hx _ => Below.heap_alloc _ _ _ hx⟩
theorem Fr.grown {S : List Nat} {a w w' : World} {row : Option Nat} (h : Fr S a w) (hg : w.grownBy w' row) (hr : ∀ g, row = some g → g ∈ S) : Fr S a w' :=
  h.trans ⟨hg.os, hg.tape, hg.output, hg.size, fun x hx hS => hg.block x hx (fun e => hS (hr x e.symm))⟩
theorem Fr.below {S : List Nat} {w w' : World} (h : Fr S w w') {B : Nat} (hB : B ≤ w.heap.size) (hS : ∀ s, s ∈ S → B ≤ s) : Below B w w' :=
  ⟨h.os, h.tape, h.output, h.size, fun x hx => h.block x (Nat.lt_of_lt_of_le hx hB) (fun hm => by have := hS x hm; omega)⟩
theorem Fr.at {S : List Nat} {w w' : World} (h : Fr S w w') {b : Nat} {o : Obj} (hb : w.heap[b]? = some o) (hS : b ∉ S) : w'.heap[b]? = some o :=
  (h.block b (Array.getElem?_eq_some_iff.1 hb).1 hS).trans hb

/-- A block's cells. -/
theorem cellAt {w : World} {b : Nat} {C : Array Value} {t : TypeId} {j : Nat} {v : Value} (h : w.heap[b]? = some (.cells C t (0, 0))) (hj : C[j]? = some v) : w.cell? ⟨b, j, none⟩ = some v := by
  rw [cell_of_row _ _ _ _ _ _ h]; exact hj

/-- copy of at least one cell into a known row, as one step of a region that draws its order; the world behind it written out. -/
theorem step_copy_row {P : Program} {ops : Array Oper} {o : Oper} {a : Act} {w : World} {K : Act → World → Prop} {Q : Exit → Act → World → Prop} {E : Prop} (hgd : o.guard = none) (d s : Operand) (dT sT : TypeId)
    (ho : o.op = .call { callee := .builtin .copy, args := #[d, s], argTypes := #[dT, sT] }) (elem : TypeId) (hu : P.underlying dT = some (.slice elem)) (hsz : (P.info? elem).map (·.size) = some 1)
    (g off dLen dCap : Nat) (ad : Addr) (sLen sCap : Nat) (hd : a.eval d = .slice (some ⟨g, off, none⟩) dLen dCap) (hs : a.eval s = .slice (some ad) sLen sCap)
    (cur : Array Value) (t : TypeId) (hg : w.heap[g]? = some (.cells cur t (0, 0))) (cs : List Value) (hn : cs.length = Nat.min sLen dLen)
    (hsrc : ∀ j v, cs[j]? = some v → w.cell? (ad.add j) = some v) (hfit : off + cs.length ≤ cur.size) (h1 : ∀ v ∈ cs, v.oneCell' = true)
    (h : K (a.put o.dst (goInt cs.length)) (w.setRow g (cur.toList.take off ++ (cs ++ cur.toList.drop (off + cs.length))).toArray)) :
    if Region.wanted o (yielded ops a.tmps) = true then Oper.wp P o a w K Q else E := by
  have hw : Region.wanted o (yielded ops a.tmps) = true := by simp [Region.wanted, hgd]
  rw [if_pos hw]
  have hrun := run_copy_row (P := P) w dT sT o.type elem g off dLen dCap ad sLen sCap cur t cs hu hsz hg hn hsrc hfit h1
  unfold Oper.wp
  simp [execOp, ho, resolve, invoke, builtin, hd, hs, hrun, Result.andThen]
  exact h
end Go.Proofs.YtnamkpkdkojhjaaDoor
