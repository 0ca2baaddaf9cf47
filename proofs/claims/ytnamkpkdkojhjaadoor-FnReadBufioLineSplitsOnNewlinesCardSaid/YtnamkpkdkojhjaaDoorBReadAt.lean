/- The contract of the byte reader's Read before the end, into the middle of a row. -/
import Derived.Test.YtnamkpkdkojhjaaDoorBRead
namespace Go.Proofs.YtnamkpkdkojhjaaDoor
open Go.RowKit

/-- A row with the bytes laid over it from place o on. -/
def laidAt (cur : Array Value) (o : Nat) (cs : List Value) : Array Value := (cur.toList.take o ++ (cs ++ cur.toList.drop (o + cs.length))).toArray
theorem laidAt_size {cur : Array Value} {o : Nat} {cs : List Value} (h : o + cs.length ≤ cur.size) : (laidAt cur o cs).size = cur.size := by
  unfold laidAt; simp; omega
theorem laidAt_in {cur : Array Value} {o : Nat} {cs : List Value} (h : o ≤ cur.size) {j : Nat} {v : Value} (hj : cs[j]? = some v) : (laidAt cur o cs)[o + j]? = some v := by
  unfold laidAt
  have := (List.getElem?_eq_some_iff.1 hj).1
  rw [List.getElem?_toArray, List.getElem?_append_right (by simp; omega), List.getElem?_append_left (by simp; omega)]
  rw [← hj]
  congr 1
  simp; omega
theorem laidAt_ahead {cur : Array Value} {o : Nat} {cs : List Value} (h : o ≤ cur.size) {j : Nat} (hj : j < o) : (laidAt cur o cs)[j]? = cur[j]? := by
  unfold laidAt
  rw [List.getElem?_toArray, List.getElem?_append_left (by simp; omega), List.getElem?_take, if_pos hj]
  simp

def BAPost (w : World) (Y D L Sb i n : Nat) (bs : List Int) (o : Nat) (cur : Array Value) (e : Ending) (w' : World) : Prop :=
  ∃ k, k = min n (L - i) ∧ e = .returned (.tuple #[.int .i64 k, .nilIface]) ∧
    w'.heap[Y]? = some (.cells #[.slice (some ⟨Sb, 0, none⟩) L L, .int .i64 ((i + k : Nat) : Int), .int .i64 (-1)] 41 (0, 0)) ∧
    w'.heap[D]? = some (.cells (laidAt cur o (seg bs i k)) 5 (0, 0)) ∧ Fr [Y, D] w w'

set_option maxHeartbeats 400000 in
theorem bread_at (Y D i n cn L Sb o : Nat) (bs : List Int) (pr : Int) (cur : Array Value) (w : World) (hi : i < L) (hL : L ≤ 1048576) (hn0 : 0 < n) (hn : n ≤ 1048576) (hcur : o + n ≤ cur.size) (hbs : bs.length = L)
    (hY : w.heap[Y]? = some (.cells #[.slice (some ⟨Sb, 0, none⟩) L L, .int .i64 i, .int .i64 pr] 41 (0, 0)))
    (hD : w.heap[D]? = some (.cells cur 5 (0, 0))) (hS : w.heap[Sb]? = some (.cells (bs.map (Value.int .u8)).toArray 5 (0, 0))) :
    Calls Tryd.prog 46 #[.pointer (some ⟨Y, 0, none⟩), .slice (some ⟨D, o, none⟩) n cn] w (BAPost w Y D L Sb i n bs o cur) := by
  have c0 : w.cell? ⟨Y, 0, none⟩ = some (.slice (some ⟨Sb, 0, none⟩) L L) := cellAt hY rfl
  have c1 : w.cell? ⟨Y, 1, none⟩ = some (.int .i64 i) := cellAt hY rfl
  have c2 : w.cell? ⟨Y, 2, none⟩ = some (.int .i64 pr) := cellAt hY rfl
  have f1 : w.frozen? ⟨Y, 1, none⟩ = false := frozen_of_row _ _ _ _ _ hY
  have f2 : w.frozen? ⟨Y, 2, none⟩ = false := frozen_of_row _ _ _ _ _ hY
  have hLi : ¬ L = i := by omega
  have hle : i ≤ L := by omega
  obtain ⟨k, hk⟩ : ∃ k, k = min n (L - i) := ⟨_, rfl⟩
  have hk1 : k ≤ 1048576 := by omega
  have H := Hid_mk (And.intro hY (And.intro hD (And.intro hS (And.intro hk hbs))))
  clear hY hD hS hk hbs
  go_enter Tryd.func46, Tryd.ntmps46
  go_wp2_with fail
  go_quiet (fail)
  go_wp2_with fail
  generalize hW : (World.drewN w nq).setCell ⟨Y, 2, none⟩ (.int .i64 (-1)) = W1
  have hY1 : W1.heap[Y]? = some (.cells #[.slice (some ⟨Sb, 0, none⟩) L L, .int .i64 i, .int .i64 (-1)] 41 (0, 0)) := by
    rw [← hW]; exact heap_setCell_same _ _ 2 _ _ _ H.out.1
  have hDY : D ≠ Y := by
    intro e
    have h1 := H.out.1
    have h2 := H.out.2.1
    rw [e, h1] at h2
    simp at h2
  have hSY : Sb ≠ Y := by
    intro e
    have h1 := H.out.1
    have h2 := H.out.2.2.1
    rw [e, h1] at h2
    simp at h2
  have hD1 : W1.drew.heap[D]? = some (.cells cur 5 (0, 0)) := by
    show W1.heap[D]? = _
    rw [← hW]; exact (heap_setCell_other _ _ _ _ hDY).trans H.out.2.1
  have hS1 : W1.heap[Sb]? = some (.cells (bs.map (Value.int .u8)).toArray 5 (0, 0)) := by
    rw [← hW]; exact (heap_setCell_other _ _ _ _ hSY).trans H.out.2.2.1
  have F1 : Fr [Y, D] w W1 := by rw [← hW]; exact ((Fr.refl _ _).drewN _).setCell (by simp) _
  have hk := H.out.2.2.2.1
  have hbs := H.out.2.2.2.2
  have hik : i + k ≤ bs.length := by omega
  have hlen := seg_length hik
  have d0 : W1.drew.cell? ⟨Y, 0, none⟩ = some (.slice (some ⟨Sb, 0, none⟩) L L) := cellAt hY1 rfl
  have d1 : W1.drew.cell? ⟨Y, 1, none⟩ = some (.int .i64 i) := cellAt hY1 rfl
  have hmin : k = Nat.min (L - i) n := by rw [hk]; exact Nat.min_comm _ _
  have hsrc : ∀ j v, (seg bs i k)[j]? = some v → W1.drew.cell? ((⟨Sb, i, none⟩ : Addr).add j) = some v := by
    intro j v hj
    have hjk : j < k := by rw [← hlen]; exact (List.getElem?_eq_some_iff.1 hj).1
    rw [seg_get hik hjk] at hj
    rw [Addr.add_lit]
    refine (cellAt hS1 ?_).trans hj
    have : i + j < bs.length := by omega
    simp [this]
  have hfit : o + (seg bs i k).length ≤ cur.size := by omega
  have hone := seg_one bs i k
  obtain ⟨cs, hcs⟩ : ∃ cs, cs = seg bs i k := ⟨_, rfl⟩
  have H1 := Hid_mk (And.intro hD1 (And.intro hmin (And.intro hlen (And.intro hsrc (And.intro hY1 (And.intro F1 (And.intro hfit (And.intro hone hcs))))))))
  rw [← hcs] at H1
  have HC := Hid_mk hcs
  have hlen2 : cs.length = k := by rw [hcs]; exact hlen
  clear hW hY1 hD1 hS1 F1 hk hbs hmin hsrc hik hlen c0 c1 c2 f1 f2 hfit hone hcs
  go_region_law (refine step_copy_row rfl (.tmp 20) (.tmp 29) 22 22 rfl 5 Tryd.underlying22 run_info5 D o n cn ⟨Sb, i, none⟩ (L - i) (L - i) (by simp [Act.eval, Act.put]) (by simp [Act.eval, Act.put]) cur 5 H1.out.1 cs (H1.out.2.2.1.trans H1.out.2.1) H1.out.2.2.2.1 H1.out.2.2.2.2.2.2.1 H1.out.2.2.2.2.2.2.2.1 ?_)
  all_goals
    generalize hX : (List.take o cur.toList ++ (cs ++ List.drop (o + k) cur.toList)).toArray = X
    have hX2 : X = laidAt cur o cs := by rw [← hX, ← hlen2]; rfl
    generalize hWs : World.setRow W1.drew D X = W2
    have hY2 : W2.heap[Y]? = some (.cells #[.slice (some ⟨Sb, 0, none⟩) L L, .int .i64 i, .int .i64 (-1)] 41 (0, 0)) := by rw [← hWs]; exact (setRow_other _ _ _ _ hDY.symm).trans H1.out.2.2.2.2.1
    have hD2 : W2.heap[D]? = some (.cells (laidAt cur o cs) 5 (0, 0)) := by rw [← hWs, ← hX2]; exact setRow_heap _ _ _ _ _ _ H1.out.1
    have F2 : Fr [Y, D] w W2 := by rw [← hWs]; exact H1.out.2.2.2.2.2.1.drew.setRow (by simp) _
    have g1 : W2.cell? ⟨Y, 1, none⟩ = some (.int .i64 i) := cellAt hY2 rfl
    have k1 : W2.frozen? ⟨Y, 1, none⟩ = false := frozen_of_row _ _ _ _ _ hY2
    have H2 := Hid_mk (And.intro hY2 (And.intro hD2 F2))
    clear hY2 hD2 F2 hWs hX2 hX d0 d1
  all_goals go_wp2_with fail
  all_goals go_ret2
  all_goals
    refine ⟨k, H.out.2.2.2.1, rfl, ?_, ?_, H2.out.2.2.setCell (by simp) _⟩
    · rw [heap_setCell_same _ _ 1 _ _ _ H2.out.1]; simp
    · rw [heap_setCell_other _ _ _ _ hDY, ← HC.out]; exact H2.out.2.1
end Go.Proofs.YtnamkpkdkojhjaaDoor
