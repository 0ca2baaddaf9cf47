/- The reader with an error kept in it: as in RdState, the field err a value of its own. -/
import Derived.Test.YtnamkpkdkojhjaaDoorRdState
import Derived.Test.YtnamkpkdkojhjaaDoorBReadAt
import Derived.Test.YtnamkpkdkojhjaaDoorIdx
namespace Go.Proofs.YtnamkpkdkojhjaaDoor
open Go.RowKit

/-- The reader: c bytes handed out. -/
structure Ln (w : World) (R Bf Y : Nat) (sv : Value) (bs : List Int) (c r wp i : Nat) (lb lr pr : Int) (C : Array Value) (ev : Value) : Prop where
  hR : w.heap[R]? = some (.cells #[.slice (some ⟨Bf, 0, none⟩) 4096 4096, .iface 35 (.pointer (some ⟨Y, 0, none⟩)), .int .i64 r, .int .i64 wp, ev, .int .i64 lb, .int .i64 lr] 48 (0, 0))
  hB : w.heap[Bf]? = some (.cells C 5 (0, 0))
  size : C.size = 4096
  hY : w.heap[Y]? = some (.cells #[sv, .int .i64 i, .int .i64 pr] 41 (0, 0))
  rw : r ≤ wp
  wl : wp ≤ 4096
  ci : c + (wp - r) = i
  il : i ≤ bs.length
  buf : ∀ j, r ≤ j → j < wp → C[j]? = some (.int .u8 (bs.getD (c + (j - r)) 0))

def Liner (w : World) (R Bf Y : Nat) (sv : Value) (bs : List Int) (c : Nat) (ev : Value) : Prop := ∃ r wp i lb lr pr C, Ln w R Bf Y sv bs c r wp i lb lr pr C ev

section
variable {w w' : World} {R Bf Y : Nat} {sv : Value} {bs : List Int} {c r wp i : Nat} {lb lr pr : Int} {C : Array Value} {ev : Value}
theorem Ln.RB (h : Ln w R Bf Y sv bs c r wp i lb lr pr C ev) : R ≠ Bf := by
  intro e
  have h1 := h.hR
  rw [e, h.hB] at h1
  simp at h1
theorem Ln.RY (h : Ln w R Bf Y sv bs c r wp i lb lr pr C ev) : R ≠ Y := by
  intro e
  have h1 := h.hR
  rw [e, h.hY] at h1
  simp at h1
theorem Ln.YB (h : Ln w R Bf Y sv bs c r wp i lb lr pr C ev) : Y ≠ Bf := by
  intro e
  have h1 := h.hY
  rw [e, h.hB] at h1
  simp at h1
theorem Ln.heap (h : Ln w R Bf Y sv bs c r wp i lb lr pr C ev) (hR : w'.heap[R]? = w.heap[R]?) (hB : w'.heap[Bf]? = w.heap[Bf]?) (hY : w'.heap[Y]? = w.heap[Y]?) : Ln w' R Bf Y sv bs c r wp i lb lr pr C ev :=
  ⟨hR.trans h.hR, hB.trans h.hB, h.size, hY.trans h.hY, h.rw, h.wl, h.ci, h.il, h.buf⟩
theorem Ln.fr {S : List Nat} (h : Ln w R Bf Y sv bs c r wp i lb lr pr C ev) (k : Fr S w w') (h1 : R ∉ S) (h2 : Bf ∉ S) (h3 : Y ∉ S) : Ln w' R Bf Y sv bs c r wp i lb lr pr C ev :=
  ⟨k.at h.hR h1, k.at h.hB h2, h.size, k.at h.hY h3, h.rw, h.wl, h.ci, h.il, h.buf⟩
theorem Ln.cl (h : Ln w R Bf Y sv bs c r wp i lb lr pr C ev) : c ≤ bs.length := by have h1 := h.ci; have h2 := h.il; omega
end

theorem Rd.ln {w : World} {R Bf Y : Nat} {sv : Value} {bs : List Int} {c r wp i : Nat} {lb lr pr : Int} {C : Array Value} (h : Rd w R Bf Y sv bs c r wp i lb lr pr C) : Ln w R Bf Y sv bs c r wp i lb lr pr C .nilIface :=
  ⟨h.hR, h.hB, h.size, h.hY, h.rw, h.wl, h.ci, h.il, h.buf⟩
end Go.Proofs.YtnamkpkdkojhjaaDoor
