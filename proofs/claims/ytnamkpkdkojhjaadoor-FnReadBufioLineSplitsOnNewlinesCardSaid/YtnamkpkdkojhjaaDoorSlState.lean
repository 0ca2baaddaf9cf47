/- What ReadSlice leaves; the index of the first line's end as one value. -/
import Derived.Test.YtnamkpkdkojhjaaDoorBuf
namespace Go.Proofs.YtnamkpkdkojhjaaDoor
open Go.RowKit

def SlErr (bs : List Int) (c n r o : Nat) (eof full err : Value) : Prop :=
  (err = .nilIface ∧ ∃ m, n = m + 1 ∧ bs.getD (c + m) 0 = 10 ∧ ∀ j, j < m → bs.getD (c + j) 0 ≠ 10) ∨
  (err = eof ∧ c + n = bs.length ∧ n < 4096 ∧ ∀ j, j < n → bs.getD (c + j) 0 ≠ 10) ∨
  (err = full ∧ n = 4096 ∧ o = 0 ∧ r = 4096 ∧ ∀ j, j < n → bs.getD (c + j) 0 ≠ 10)

def SlMid (w : World) (R Bf Y : Nat) (sv : Value) (bs : List Int) (c : Nat) (lb lr : Int) (eof full line err : Value) (w1 : World) : Prop :=
  Fr [R, Y, Bf] w w1 ∧ ∃ o n r wp i pr C, line = .slice (some ⟨Bf, o, none⟩) n (4096 - o) ∧ o + n ≤ 4096 ∧ (∀ j, j < n → (C : Array Value)[o + j]? = some (.int .u8 (bs.getD (c + j) 0))) ∧ c + n ≤ bs.length ∧
    Ln w1 R Bf Y sv bs (c + n) r wp i lb lr pr C .nilIface ∧ SlErr bs c n r o eof full err

def SlPost (w : World) (R Bf Y : Nat) (sv : Value) (bs : List Int) (c : Nat) (eof full : Value) (e : Ending) (w' : World) : Prop :=
  ∃ line err lb lr, e = .returned (.tuple #[line, err]) ∧ SlMid w R Bf Y sv bs c lb lr eof full line err w'

/-- At the loop's head: s bytes of the buffer have been looked at. -/
def SlRel (w : World) (R Bf Y : Nat) (sv : Value) (bs : List Int) (c : Nat) (lb lr : Int) (eof : Value) (gk : Nat) (v5 v6 : Value) (w1 : World) : Prop :=
  v5 = .nilIface ∧ Fr [R, Y, Bf] w w1 ∧ ∃ s r wp i pr C ev, v6 = .int .i64 (s : Nat) ∧ Ln w1 R Bf Y sv bs c r wp i lb lr pr C ev ∧ s ≤ wp - r ∧ (∀ j, j < s → bs.getD (c + j) 0 ≠ 10) ∧
    ((ev = .nilIface ∧ gk = 2 * (bs.length - i) + 1 ∧ (r + s < 4096 ∨ (r = 4096 ∧ s = 0))) ∨ (ev = eof ∧ gk = 0 ∧ i = bs.length ∧ r = 0 ∧ s = wp ∧ wp < 4096))

set_option maxRecDepth 100000 in
set_option maxHeartbeats 1000000 in
theorem idx_val (b o n c : Nat) (xs : List Int) (rv : Int) (w : World) (hx : xs.length = n) (hc : ∀ i, i < n → w.cell? ⟨b, o + i, none⟩ = some (.int .u8 (xs.getD i 0))) (hrv : Lib.indexByte (Lib.bytesOf xs) (10 : Int).toNat.toUInt8 = rv) :
    Calls Tryd.prog 27 #[.slice (some ⟨b, o, none⟩) n c, .int .u8 10] w fun e w' => e = .returned (.int .i64 rv) ∧ w' = w := by
  have HV := Hid_mk hrv
  clear hrv
  go_enter Tryd.func27, Tryd.ntmps27
  go_wp2
  rw [run_callFunc_extern Tryd.func29 (by kernel_rfl) (by kernel_rfl) (by kernel_rfl) (e := Extern.BytealgIndexByte.indexByte) (by kernel_rfl), Lib.run_indexByteSlice w b o n c xs hx hc 10]
  simp only [Result.andThen]
  rw [Oper.upon_value]
  go_wp2
  go_ret
  exact ⟨congrArg (fun z => Ending.returned (.int .i64 z)) HV.out, rfl⟩
theorem Ln.note {w : World} {R Bf Y : Nat} {sv : Value} {bs : List Int} {c r wp i : Nat} {lb lr pr : Int} {C : Array Value} {ev : Value} (h : Ln w R Bf Y sv bs c r wp i lb lr pr C ev) (z y : Int) :
    Ln ((w.setCell ⟨R, 5, none⟩ (.int .i64 z)).setCell ⟨R, 6, none⟩ (.int .i64 y)) R Bf Y sv bs c r wp i z y pr C ev := by
  have s1 := heap_setCell_same w R 5 _ _ (.int .i64 z) h.hR
  have s2 := heap_setCell_same _ R 6 _ _ (.int .i64 y) s1
  have o2 : ∀ x : Nat, x ≠ R → ((w.setCell ⟨R, 5, none⟩ (.int .i64 z)).setCell ⟨R, 6, none⟩ (.int .i64 y)).heap[x]? = w.heap[x]? := fun x hx => by
    rw [heap_setCell_other _ _ _ _ hx, heap_setCell_other _ _ _ _ hx]
  exact ⟨by rw [s2]; simp, (o2 _ (Ne.symm h.RB)).trans h.hB, h.size, (o2 _ (Ne.symm h.RY)).trans h.hY, h.rw, h.wl, h.ci, h.il, h.buf⟩

/-- More bytes handed out of the buffer: r moved on. -/
theorem Ln.on {w : World} {R Bf Y : Nat} {sv : Value} {bs : List Int} {c r wp i : Nat} {lb lr pr : Int} {C : Array Value} {ev : Value} (h : Ln w R Bf Y sv bs c r wp i lb lr pr C ev) (k : Nat) (hk : r + k ≤ wp) (v : Int) (hv : v = ((r + k : Nat) : Int)) :
    Ln (w.setCell ⟨R, 2, none⟩ (.int .i64 v)) R Bf Y sv bs (c + k) (r + k) wp i lb lr pr C ev := by
  subst hv
  refine ⟨Eq.trans (heap_setCell_same w R 2 _ _ _ h.hR) (by simp), (heap_setCell_other _ _ _ _ (Ne.symm h.RB)).trans h.hB, h.size, (heap_setCell_other _ _ _ _ (Ne.symm h.RY)).trans h.hY, hk, h.wl, by have := h.ci; omega, h.il, fun j h1 h2 => ?_⟩
  have := h.buf j (by omega) h2
  rw [this, show c + (j - r) = c + k + (j - (r + k)) by omega]

theorem sl_found {w W : World} {R Bf Y : Nat} {sv : Value} {bs : List Int} {c r wp i q z : Nat} {lb lr pr v : Int} {C : Array Value} {eof full : Value} (hF : Fr [R, Y, Bf] w W) (h : Ln W R Bf Y sv bs c r wp i lb lr pr C .nilIface)
    (hz : z = r + q + 1) (hv : v = (r : Int) + ((q : Int) + 1)) (hn : q + r + 1 ≤ wp) (hc : c + q + 1 ≤ bs.length) (hf : bs.getD (c + q) 0 = 10) (hb : ∀ j, j < q → bs.getD (c + j) 0 ≠ 10) :
    SlMid w R Bf Y sv bs c lb lr eof full (.slice (some ⟨Bf, r, none⟩) (z - r) (4096 - r)) .nilIface (W.setCell ⟨R, 2, none⟩ (.int .i64 v)) := by
  have hwl := h.wl
  have e : z - r = q + 1 := by omega
  rw [e]
  refine ⟨hF.setCell (by simp) _, r, q + 1, r + (q + 1), wp, i, pr, C, rfl, by omega, fun j hj => ?_, by omega, h.on (q + 1) (by omega) v (by rw [hv]; omega), .inl ⟨rfl, q, rfl, hf, hb⟩⟩
  have := h.buf (r + j) (by omega) (by omega)
  rw [this, show c + (r + j - r) = c + j by omega]

theorem sl_full {w W : World} {R Bf Y : Nat} {sv : Value} {bs : List Int} {c r wp i : Nat} {lb lr pr : Int} {C : Array Value} {eof full : Value} (hF : Fr [R, Y, Bf] w W) (h : Ln W R Bf Y sv bs c r wp i lb lr pr C .nilIface)
    (hu : wp - r = 4096) (hb : ∀ j, j < 4096 → bs.getD (c + j) 0 ≠ 10) :
    SlMid w R Bf Y sv bs c lb lr eof full (.slice (some ⟨Bf, 0, none⟩) 4096 4096) full (W.setCell ⟨R, 2, none⟩ (.int .i64 (wp : Int))) := by
  have hwl := h.wl
  have hci := h.ci
  have hil := h.il
  obtain rfl : r = 0 := by omega
  obtain rfl : wp = 4096 := by omega
  refine ⟨hF.setCell (by simp) _, 0, 4096, 4096, 4096, i, pr, C, rfl, by omega, fun j hj => ?_, by omega, ?_, .inr (.inr ⟨rfl, rfl, rfl, rfl, hb⟩)⟩
  · have := h.buf j (by omega) (by omega)
    rw [Nat.zero_add, this, Nat.sub_zero]
  · have := h.on 4096 (by omega) ((4096 : Nat) : Int) rfl
    simpa using this

/-- A quiet callee met behind an earlier quiet stretch: the draws join. -/
theorem quiet_on {P : Program} {f : FuncId} {args : Array Value} {w : World} {a n : Nat} {v : Value} (h : ∀ q, Calls P f args (w.drewN q) fun e w' => e = .returned v ∧ ∃ m, w' = (w.drewN q).drewN m) :
    Calls P f args (w.drewN (a + n)) fun e w'' => e = .returned v ∧ ∃ m, w'' = w.drewN (a + m) :=
  (h (a + n)).mono fun _ _ ⟨he, m, hm⟩ => ⟨he, n + m, by rw [hm, World.drewN_drewN, Nat.add_assoc]⟩
end Go.Proofs.YtnamkpkdkojhjaaDoor
