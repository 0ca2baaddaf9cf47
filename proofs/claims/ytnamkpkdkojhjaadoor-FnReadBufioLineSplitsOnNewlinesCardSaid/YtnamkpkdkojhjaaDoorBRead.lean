/- The contract of the byte reader's Read: at the end, and before it. -/
import Derived.Test.YtnamkpkdkojhjaaDoorRdBase
import Derived.BigQuiet
import Derived.Deep.QuietTactic
namespace Go.Proofs.YtnamkpkdkojhjaaDoor
open Go.RowKit

theorem bread_end (Y i d : Nat) (sv : Option Addr) (L c : Nat) (dn dc : Nat) (eof : Value) (w : World) (hi : L ≤ i)
    (c0 : w.cell? ⟨Y, 0, none⟩ = some (.slice sv L c)) (c1 : w.cell? ⟨Y, 1, none⟩ = some (.int .i64 i)) (ce : w.cell? ⟨0, 0, none⟩ = some eof) :
    Calls Tryd.prog 46 #[.pointer (some ⟨Y, 0, none⟩), .slice (some ⟨d, 0, none⟩) dn dc] w fun e w' => e = .returned (.tuple #[.int .i64 0, eof]) ∧ w'.heap = w.heap ∧ Fr [] w w' := by
  go_enter Tryd.func46, Tryd.ntmps46
  go_wp2_with fail
  go_quiet (fail)
  go_wp2_with fail
  go_quiet (fail)
  go_wp2_with fail
  go_ret2
  exact ⟨rfl, rfl, ((Fr.refl _ _).drewN _).drewN _⟩

/-- The bytes of bs from place i on, k of them. -/
def seg (bs : List Int) (i k : Nat) : List Value := ((bs.drop i).take k).map (Value.int .u8)
theorem seg_length {bs : List Int} {i k : Nat} (h : i + k ≤ bs.length) : (seg bs i k).length = k := by
  unfold seg; simp; omega
theorem seg_get {bs : List Int} {i k j : Nat} (h : i + k ≤ bs.length) (hj : j < k) : (seg bs i k)[j]? = some (.int .u8 (bs.getD (i + j) 0)) := by
  unfold seg
  have : i + j < bs.length := by omega
  simp [hj, this]
theorem seg_one (bs : List Int) (i k : Nat) : ∀ v ∈ seg bs i k, v.oneCell' = true := ints_oneCell .u8 _
/-- A row with the bytes laid over its head. -/
def laid (cur : Array Value) (cs : List Value) : Array Value := (cs ++ cur.toList.drop cs.length).toArray
theorem laid_size {cur : Array Value} {cs : List Value} (h : cs.length ≤ cur.size) : (laid cur cs).size = cur.size := by
  unfold laid; simp; omega
theorem laid_get {cur : Array Value} {cs : List Value} {j : Nat} {v : Value} (hj : cs[j]? = some v) : (laid cur cs)[j]? = some v := by
  unfold laid
  have := (List.getElem?_eq_some_iff.1 hj).1
  simp [List.getElem?_append, this]
  exact (List.getElem?_eq_some_iff.1 hj).2

def BRPost (w : World) (Y D L Sb i n : Nat) (bs : List Int) (cur : Array Value) (e : Ending) (w' : World) : Prop :=
  ∃ k, k = min n (L - i) ∧ e = .returned (.tuple #[.int .i64 k, .nilIface]) ∧
    w'.heap[Y]? = some (.cells #[.slice (some ⟨Sb, 0, none⟩) L L, .int .i64 ((i + k : Nat) : Int), .int .i64 (-1)] 41 (0, 0)) ∧
    w'.heap[D]? = some (.cells (laid cur (seg bs i k)) 5 (0, 0)) ∧ Fr [Y, D] w w'

theorem run_info5 : (Tryd.prog.info? 5).map (·.size) = some 1 := by kernel_rfl

set_option maxHeartbeats 400000 in
theorem bread_some (Y D i n cn L Sb : Nat) (bs : List Int) (pr : Int) (cur : Array Value) (w : World) (hi : i < L) (hL : L ≤ 1048576) (hn0 : 0 < n) (hn : n ≤ 1048576) (hcur : n ≤ cur.size) (hbs : bs.length = L)
    (hY : w.heap[Y]? = some (.cells #[.slice (some ⟨Sb, 0, none⟩) L L, .int .i64 i, .int .i64 pr] 41 (0, 0)))
    (hD : w.heap[D]? = some (.cells cur 5 (0, 0))) (hS : w.heap[Sb]? = some (.cells (bs.map (Value.int .u8)).toArray 5 (0, 0))) :
    Calls Tryd.prog 46 #[.pointer (some ⟨Y, 0, none⟩), .slice (some ⟨D, 0, none⟩) n cn] w (BRPost w Y D L Sb i n bs cur) := by
  have c0 : w.cell? ⟨Y, 0, none⟩ = some (.slice (some ⟨Sb, 0, none⟩) L L) := cellAt hY rfl
  have c1 : w.cell? ⟨Y, 1, none⟩ = some (.int .i64 i) := cellAt hY rfl
  have c2 : w.cell? ⟨Y, 2, none⟩ = some (.int .i64 pr) := cellAt hY rfl
  have f1 : w.frozen? ⟨Y, 1, none⟩ = false := frozen_of_row _ _ _ _ _ hY
  have f2 : w.frozen? ⟨Y, 2, none⟩ = false := frozen_of_row _ _ _ _ _ hY
  have hLi : ¬ L = i := by omega
  have hle : i ≤ L := by omega
  obtain ⟨k, hk⟩ : ∃ k, k = min n (L - i) := ⟨_, rfl⟩
  have hk1 : k ≤ 1048576 := by omega
  have H := Hid_mk (And.intro hY (And.intro hD (And.intro hS (And.intro hk hbs))))
  clear hY hD hS hk hbs
  go_enter Tryd.func46, Tryd.ntmps46
  go_wp2_with fail
  go_quiet (fail)
  go_wp2_with fail
  generalize hW : (World.drewN w nq).setCell ⟨Y, 2, none⟩ (.int .i64 (-1)) = W1
  have hY1 : W1.heap[Y]? = some (.cells #[.slice (some ⟨Sb, 0, none⟩) L L, .int .i64 i, .int .i64 (-1)] 41 (0, 0)) := by
    rw [← hW]; exact heap_setCell_same _ _ 2 _ _ _ H.out.1
  have hDY : D ≠ Y := by
    intro e
    have h1 := H.out.1
    have h2 := H.out.2.1
    rw [e, h1] at h2
    simp at h2
  have hSY : Sb ≠ Y := by
    intro e
    have h1 := H.out.1
    have h2 := H.out.2.2.1
    rw [e, h1] at h2
    simp at h2
  have hD1 : W1.drew.heap[D]? = some (.cells cur 5 (0, 0)) := by
    show W1.heap[D]? = _
    rw [← hW]; exact (heap_setCell_other _ _ _ _ hDY).trans H.out.2.1
  have hS1 : W1.heap[Sb]? = some (.cells (bs.map (Value.int .u8)).toArray 5 (0, 0)) := by
    rw [← hW]; exact (heap_setCell_other _ _ _ _ hSY).trans H.out.2.2.1
  have F1 : Fr [Y, D] w W1 := by rw [← hW]; exact ((Fr.refl _ _).drewN _).setCell (by simp) _
  have hk := H.out.2.2.2.1
  have hbs := H.out.2.2.2.2
  have hik : i + k ≤ bs.length := by omega
  have hlen := seg_length hik
  have d0 : W1.drew.cell? ⟨Y, 0, none⟩ = some (.slice (some ⟨Sb, 0, none⟩) L L) := cellAt hY1 rfl
  have d1 : W1.drew.cell? ⟨Y, 1, none⟩ = some (.int .i64 i) := cellAt hY1 rfl
  have hmin : k = Nat.min (L - i) n := by rw [hk]; exact Nat.min_comm _ _
  have hsrc : ∀ j v, (seg bs i k)[j]? = some v → W1.drew.cell? ((⟨Sb, i, none⟩ : Addr).add j) = some v := by
    intro j v hj
    have hjk : j < k := by rw [← hlen]; exact (List.getElem?_eq_some_iff.1 hj).1
    rw [seg_get hik hjk] at hj
    rw [Addr.add_lit]
    refine (cellAt hS1 ?_).trans hj
    have : i + j < bs.length := by omega
    simp [this]
  have hfit : 0 + (seg bs i k).length ≤ cur.size := by omega
  have hone := seg_one bs i k
  obtain ⟨cs, hcs⟩ : ∃ cs, cs = seg bs i k := ⟨_, rfl⟩
  have H1 := Hid_mk (And.intro hD1 (And.intro hmin (And.intro hlen (And.intro hsrc (And.intro hY1 (And.intro F1 (And.intro hfit (And.intro hone hcs))))))))
  rw [← hcs] at H1
  have HC := Hid_mk hcs
  have hlen2 : cs.length = k := by rw [hcs]; exact hlen
  clear hW hY1 hD1 hS1 F1 hk hbs hmin hsrc hik hlen c0 c1 c2 f1 f2 hfit hone hcs
  go_region_law (refine step_copy_row rfl (.tmp 20) (.tmp 29) 22 22 rfl 5 Tryd.underlying22 run_info5 D 0 n cn ⟨Sb, i, none⟩ (L - i) (L - i) (by simp [Act.eval, Act.put]) (by simp [Act.eval, Act.put]) cur 5 H1.out.1 cs (H1.out.2.2.1.trans H1.out.2.1) H1.out.2.2.2.1 H1.out.2.2.2.2.2.2.1 H1.out.2.2.2.2.2.2.2.1 ?_)
  all_goals
    generalize hX : (cs ++ List.drop k cur.toList).toArray = X
    have hX2 : X = laid cur cs := by rw [← hX, ← hlen2]; rfl
    generalize hWs : World.setRow W1.drew D X = W2
    have hY2 : W2.heap[Y]? = some (.cells #[.slice (some ⟨Sb, 0, none⟩) L L, .int .i64 i, .int .i64 (-1)] 41 (0, 0)) := by rw [← hWs]; exact (setRow_other _ _ _ _ hDY.symm).trans H1.out.2.2.2.2.1
    have hD2 : W2.heap[D]? = some (.cells (laid cur cs) 5 (0, 0)) := by rw [← hWs, ← hX2]; exact setRow_heap _ _ _ _ _ _ H1.out.1
    have F2 : Fr [Y, D] w W2 := by rw [← hWs]; exact H1.out.2.2.2.2.2.1.drew.setRow (by simp) _
    have g1 : W2.cell? ⟨Y, 1, none⟩ = some (.int .i64 i) := cellAt hY2 rfl
    have k1 : W2.frozen? ⟨Y, 1, none⟩ = false := frozen_of_row _ _ _ _ _ hY2
    have H2 := Hid_mk (And.intro hY2 (And.intro hD2 F2))
    clear hY2 hD2 F2 hWs hX2 hX d0 d1
  all_goals go_wp2_with fail
  all_goals go_ret2
  all_goals
    refine ⟨k, H.out.2.2.2.1, rfl, ?_, ?_, H2.out.2.2.setCell (by simp) _⟩
    · rw [heap_setCell_same _ _ 1 _ _ _ H2.out.1]; simp
    · rw [heap_setCell_other _ _ _ _ hDY, ← HC.out]; exact H2.out.2.1
end Go.Proofs.YtnamkpkdkojhjaaDoor
