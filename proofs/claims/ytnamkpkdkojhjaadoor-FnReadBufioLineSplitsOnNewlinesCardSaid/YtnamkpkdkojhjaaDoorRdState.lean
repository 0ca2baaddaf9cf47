/- What a bufio.Reader over a bytes.Reader is in memory: bytes handed out so far, bytes in the buffer, bytes still in the source. -/
import Derived.Test.YtnamkpkdkojhjaaDoorBRead
namespace Go.Proofs.YtnamkpkdkojhjaaDoor
open Go.RowKit

/-- What no call changes: the source's bytes, the variable io.EOF. -/
structure Src (base : Nat) (w : World) (sv : Value) (bs : List Int) (eof : Value) : Prop where
  src : (sv = .slice none 0 0 ∧ bs = []) ∨ ∃ Sb, sv = .slice (some ⟨Sb, 0, none⟩) bs.length bs.length ∧ w.heap[Sb]? = some (.cells (bs.map (Value.int .u8)).toArray 5 (0, 0)) ∧ Sb < base
  pos : 0 < base
  top : base ≤ w.heap.size
  eofc : w.cell? ⟨0, 0, none⟩ = some eof
  len : bs.length ≤ 1048576
  byte : ∀ z, z ∈ bs → 0 ≤ z ∧ z ≤ 255

theorem Src.below {base : Nat} {w w' : World} {sv : Value} {bs : List Int} {eof : Value} (h : Src base w sv bs eof) (k : Below base w w') : Src base w' sv bs eof := by
  refine ⟨?_, h.pos, Nat.le_trans h.top k.size, (k.cell (p := ⟨0, 0, none⟩) h.pos).trans h.eofc, h.len, h.byte⟩
  rcases h.src with h1 | ⟨Sb, e, hS, hlt⟩
  · exact .inl h1
  · exact .inr ⟨Sb, e, (k.block Sb hlt).trans hS, hlt⟩

theorem Src.at {base : Nat} {w : World} {sv : Value} {bs : List Int} {eof : Value} (h : Src base w sv bs eof) (j : Nat) : 0 ≤ bs.getD j 0 ∧ bs.getD j 0 ≤ 255 := by
  by_cases hj : j < bs.length
  · have := h.byte (bs.getD j 0) (by rw [List.getD_eq_getElem?_getD]; simp [hj])
    exact this
  · rw [List.getD_eq_getElem?_getD]; simp [Nat.le_of_not_lt hj]

/-- The reader: c bytes handed out. -/
structure Rd (w : World) (R Bf Y : Nat) (sv : Value) (bs : List Int) (c r wp i : Nat) (lb lr pr : Int) (C : Array Value) : Prop where
  hR : w.heap[R]? = some (.cells #[.slice (some ⟨Bf, 0, none⟩) 4096 4096, .iface 35 (.pointer (some ⟨Y, 0, none⟩)), .int .i64 r, .int .i64 wp, .nilIface, .int .i64 lb, .int .i64 lr] 48 (0, 0))
  hB : w.heap[Bf]? = some (.cells C 5 (0, 0))
  size : C.size = 4096
  hY : w.heap[Y]? = some (.cells #[sv, .int .i64 i, .int .i64 pr] 41 (0, 0))
  rw : r ≤ wp
  wl : wp ≤ 4096
  ci : c + (wp - r) = i
  il : i ≤ bs.length
  buf : ∀ j, r ≤ j → j < wp → C[j]? = some (.int .u8 (bs.getD (c + (j - r)) 0))

def Reader (w : World) (R Bf Y : Nat) (sv : Value) (bs : List Int) (c : Nat) : Prop := ∃ r wp i lb lr pr C, Rd w R Bf Y sv bs c r wp i lb lr pr C

section
variable {w w' : World} {R Bf Y : Nat} {sv : Value} {bs : List Int} {c r wp i : Nat} {lb lr pr : Int} {C : Array Value}
theorem Rd.RB (h : Rd w R Bf Y sv bs c r wp i lb lr pr C) : R ≠ Bf := by
  intro e
  have h1 := h.hR
  rw [e, h.hB] at h1
  simp at h1
theorem Rd.RY (h : Rd w R Bf Y sv bs c r wp i lb lr pr C) : R ≠ Y := by
  intro e
  have h1 := h.hR
  rw [e, h.hY] at h1
  simp at h1
theorem Rd.YB (h : Rd w R Bf Y sv bs c r wp i lb lr pr C) : Y ≠ Bf := by
  intro e
  have h1 := h.hY
  rw [e, h.hB] at h1
  simp at h1
theorem Rd.heap (h : Rd w R Bf Y sv bs c r wp i lb lr pr C) (hR : w'.heap[R]? = w.heap[R]?) (hB : w'.heap[Bf]? = w.heap[Bf]?) (hY : w'.heap[Y]? = w.heap[Y]?) : Rd w' R Bf Y sv bs c r wp i lb lr pr C :=
  ⟨hR.trans h.hR, hB.trans h.hB, h.size, hY.trans h.hY, h.rw, h.wl, h.ci, h.il, h.buf⟩
theorem Rd.fr {S : List Nat} (h : Rd w R Bf Y sv bs c r wp i lb lr pr C) (k : Fr S w w') (h1 : R ∉ S) (h2 : Bf ∉ S) (h3 : Y ∉ S) : Rd w' R Bf Y sv bs c r wp i lb lr pr C :=
  ⟨k.at h.hR h1, k.at h.hB h2, h.size, k.at h.hY h3, h.rw, h.wl, h.ci, h.il, h.buf⟩
theorem Rd.cl (h : Rd w R Bf Y sv bs c r wp i lb lr pr C) : c ≤ bs.length := by have h1 := h.ci; have h2 := h.il; omega
/-- More bytes handed out of the buffer. -/
theorem Rd.take (h : Rd w R Bf Y sv bs c r wp i lb lr pr C) {k : Nat} (hk : r + k ≤ wp) {lb' lr' : Int}
    (hR : w'.heap[R]? = some (.cells #[.slice (some ⟨Bf, 0, none⟩) 4096 4096, .iface 35 (.pointer (some ⟨Y, 0, none⟩)), .int .i64 ((r + k : Nat) : Int), .int .i64 wp, .nilIface, .int .i64 lb', .int .i64 lr'] 48 (0, 0)))
    (hB : w'.heap[Bf]? = w.heap[Bf]?) (hY : w'.heap[Y]? = w.heap[Y]?) : Rd w' R Bf Y sv bs (c + k) (r + k) wp i lb' lr' pr C :=
  ⟨hR, hB.trans h.hB, h.size, hY.trans h.hY, hk, h.wl, by have := h.ci; omega, h.il, fun j h1 h2 => by
    have := h.buf j (by omega) h2
    rw [this]
    have e : c + (j - r) = c + k + (j - (r + k)) := by omega
    rw [e]⟩
end

def ReadPost (w : World) (R Bf Y P : Nat) (sv : Value) (bs : List Int) (c n : Nat) (cur : Array Value) (eof : Value) (e : Ending) (w' : World) : Prop :=
  (c = bs.length ∧ e = .returned (.tuple #[.int .i64 0, eof]) ∧ Reader w' R Bf Y sv bs c ∧ Fr [R, Y, Bf, P] w w') ∨
  (∃ k, 0 < k ∧ k ≤ n ∧ c + k ≤ bs.length ∧ e = .returned (.tuple #[.int .i64 k, .nilIface]) ∧ Reader w' R Bf Y sv bs (c + k) ∧
    (∃ D : Array Value, w'.heap[P]? = some (.cells D 5 (0, 0)) ∧ D.size = cur.size ∧ ∀ j, j < k → D[j]? = some (.int .u8 (bs.getD (c + j) 0))) ∧ Fr [R, Y, Bf, P] w w')
end Go.Proofs.YtnamkpkdkojhjaaDoor
