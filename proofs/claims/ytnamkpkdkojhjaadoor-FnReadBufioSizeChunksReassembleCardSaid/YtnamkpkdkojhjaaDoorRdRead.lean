/- The contract of the buffered reader's Read, three ways: out of the buffer; straight from the source; by filling the buffer. -/
import Derived.Test.YtnamkpkdkojhjaaDoorRdState
import Derived.StillTailTactics
import Derived.BigRegion
import Derived.Laws.CopyOwn
namespace Go.Proofs.YtnamkpkdkojhjaaDoor
open Go.RowKit

set_option maxRecDepth 100000 in
set_option maxHeartbeats 2000000 in
theorem read_buf (base R Bf Y P : Nat) (sv : Value) (bs : List Int) (eof : Value) (c n r wp i : Nat) (lb lr pr : Int) (C cur : Array Value) (w : World) (hs : Src base w sv bs eof) (h : Rd w R Bf Y sv bs c r wp i lb lr pr C)
    (hr : r < wp) (hn0 : 0 < n) (hn : n ≤ 1048576) (hP : w.heap[P]? = some (.cells cur 5 (0, 0))) (hcur : cur.size = n) (hPB : P ≠ Bf) :
    Calls Tryd.prog 21 #[.pointer (some ⟨R, 0, none⟩), .slice (some ⟨P, 0, none⟩) n n] w (ReadPost w R Bf Y P sv bs c n cur eof) := by
  have hRB := h.RB
  have hRY := h.RY
  have hYB := h.YB
  have hwl := h.wl
  have hPR : P ≠ R := by
    intro e
    have h1 := h.hR
    rw [← e, hP] at h1
    simp at h1
  have hPY : P ≠ Y := by
    intro e
    have h1 := h.hY
    rw [← e, hP] at h1
    simp at h1
  have hq1 : ((n : Int) == 0) = false := by simp; omega
  have hq2 : ((r : Int) == (wp : Int)) = false := by simp; omega
  have hr4 : ¬ 4096 = r := by omega
  have hle1 : r ≤ wp := by omega
  have hwl2 : (wp : Int) ≤ 4096 := by omega
  obtain ⟨k, hk⟩ : ∃ k, k = min (wp - r) n := ⟨_, rfl⟩
  have hk0 : 0 < k := by omega
  have hkn : k ≤ n := by omega
  have hkw : r + k ≤ wp := by omega
  have hci := h.ci
  have hil := h.il
  have hck : c + k ≤ bs.length := by omega
  have hlen := seg_length hck
  have hhd : ∀ j, j < k → (seg bs c k)[j]? = some (.int .u8 (bs.getD (c + j) 0)) := fun j hj => seg_get hck hj
  have hone := seg_one bs c k
  have e2 : w.cell? ⟨R, 2, none⟩ = some (.int .i64 r) := cellAt h.hR rfl
  have e3 : w.cell? ⟨R, 3, none⟩ = some (.int .i64 wp) := cellAt h.hR rfl
  have H := Hid_mk (And.intro hs (And.intro h (And.intro hP hcur)))
  have HK := Hid_mk (show k = Nat.min (wp - r) n from hk)
  clear hs h hP hcur hk hci hil
  obtain ⟨cs, hcs⟩ : ∃ cs, cs = seg bs c k := ⟨_, rfl⟩
  rw [← hcs] at hlen hhd hone
  have H1 := Hid_mk (And.intro hcs (And.intro hhd hone))
  clear hcs hhd hone
  go_enter Tryd.func21, Tryd.ntmps21
  go_wp2_with fail
  go_quiet (fail)
  go_wp2_with fail
  generalize hW : World.drewN w _ = V
  have HV : Rd V R Bf Y sv bs c r wp i lb lr pr C := by rw [← hW]; exact H.out.2.1.heap rfl rfl rfl
  have hpV : V.heap[P]? = some (.cells cur 5 (0, 0)) := by rw [← hW]; exact H.out.2.2.1
  have FV : Fr [R, Y, Bf, P] w V := by rw [← hW]; exact (Fr.refl _ _).drewN _
  clear hW e2 e3
  have d0 : V.drew.cell? ⟨R, 0, none⟩ = some (.slice (some ⟨Bf, 0, none⟩) 4096 4096) := cellAt HV.hR rfl
  have d2 : V.drew.cell? ⟨R, 2, none⟩ = some (.int .i64 r) := cellAt HV.hR rfl
  have d3 : V.drew.cell? ⟨R, 3, none⟩ = some (.int .i64 wp) := cellAt HV.hR rfl
  have hsrc : ∀ j v, cs[j]? = some v → V.drew.cell? ((⟨Bf, r, none⟩ : Addr).add j) = some v := by
    intro j v hj
    have hjk : j < k := by rw [← hlen]; exact (List.getElem?_eq_some_iff.1 hj).1
    rw [H1.out.2.1 j hjk] at hj
    rw [Addr.add_lit]
    refine (cellAt HV.hB ?_).trans hj
    have := HV.buf (r + j) (by omega) (by omega)
    rw [this, show c + (r + j - r) = c + j by omega]
  have hpV' : V.drew.heap[P]? = some (.cells cur 5 (0, 0)) := hpV
  have hmin : cs.length = Nat.min (wp - r) n := by rw [hlen]; exact HK.out
  have hfit : 0 + cs.length ≤ cur.size := by rw [hlen, H.out.2.2.2]; omega
  have H2 := Hid_mk (And.intro HV (And.intro hpV' (And.intro FV (And.intro hsrc (And.intro hmin hfit)))))
  clear HV hpV hpV' FV hsrc hmin hfit
  go_still_tail 14, (by kernel_rfl)
  change wpList _ _ _ _ _ V.drew
  refine wpList_copy_own rfl (.tmp 109) (.tmp 122) 22 22 rfl 5 Tryd.underlying22 run_info5 P 0 n n ⟨Bf, r, none⟩ (wp - r) (4096 - r) (by simp [Act.eval]) (by simp [Act.eval]) cur 5 H2.out.2.1 cs H2.out.2.2.2.2.1 H2.out.2.2.2.1 H2.out.2.2.2.2.2 H1.out.2.2 ?_
  all_goals
    generalize hX : (List.take 0 cur.toList ++ (cs ++ List.drop (0 + cs.length) cur.toList)).toArray = X
    have hX2 : X = laid cur cs := by rw [← hX]; simp [laid]
    rw [hlen]
    generalize hWs : World.setRow V.drew P X = W2
    have h2 : Rd W2 R Bf Y sv bs c r wp i lb lr pr C := by rw [← hWs]; exact H2.out.1.heap (setRow_other _ _ _ _ hPR.symm) (setRow_other _ _ _ _ hPB.symm) (setRow_other _ _ _ _ hPY.symm)
    have hp2 : W2.heap[P]? = some (.cells (laid cur cs) 5 (0, 0)) := by rw [← hWs, ← hX2]; exact setRow_heap _ _ _ _ _ _ H2.out.2.1
    have F2 : Fr [R, Y, Bf, P] w W2 := by rw [← hWs]; exact H2.out.2.2.1.drew.setRow (by simp) _
    have g2 : W2.cell? ⟨R, 2, none⟩ = some (.int .i64 r) := cellAt h2.hR rfl
    have k2 : W2.frozen? ⟨R, 2, none⟩ = false := frozen_of_row _ _ _ _ _ h2.hR
    have H3 := Hid_mk (And.intro h2 (And.intro hp2 F2))
    clear h2 hp2 F2 hWs hX2 hX d0 d2 d3
  all_goals go_wp2_with fail
  all_goals
    generalize hWs : World.setCell W2 ⟨R, 2, none⟩ _ = W3
    obtain ⟨q, hq⟩ : ∃ q, r + k = q + 1 := ⟨r + k - 1, by omega⟩
    have hR3 : W3.heap[R]? = some (.cells #[.slice (some ⟨Bf, 0, none⟩) 4096 4096, .iface 35 (.pointer (some ⟨Y, 0, none⟩)), .int .i64 ((q : Int) + 1), .int .i64 wp, .nilIface, .int .i64 lb, .int .i64 lr] 48 (0, 0)) := by
      rw [← hWs, heap_setCell_same _ _ 2 _ _ _ H3.out.1.hR]
      have e : (r : Int) + (k : Int) = (q : Int) + 1 := by omega
      try rw [e]
      simp
    have hB3 : W3.heap[Bf]? = W2.heap[Bf]? := by rw [← hWs]; exact heap_setCell_other _ _ _ _ (Ne.symm hRB)
    have hY3 : W3.heap[Y]? = W2.heap[Y]? := by rw [← hWs]; exact heap_setCell_other _ _ _ _ (Ne.symm hRY)
    have hP3 : W3.heap[P]? = W2.heap[P]? := by rw [← hWs]; exact heap_setCell_other _ _ _ _ hPR
    have F3 : Fr [R, Y, Bf, P] w W3 := by rw [← hWs]; exact H3.out.2.2.setCell (by simp) _
    have hbq := H3.out.1.buf q (by omega) (by omega)
    have hbb := H.out.1.at (c + (q - r))
    generalize bs.getD (c + (q - r)) 0 = b at hbq hbb
    obtain ⟨hb0, hb1⟩ := hbb
    have dB : W3.drew.cell? ⟨Bf, q, none⟩ = some (.int .u8 b) := cellAt (hB3.trans H3.out.1.hB) hbq
    have d0 : W3.drew.cell? ⟨R, 0, none⟩ = some (.slice (some ⟨Bf, 0, none⟩) 4096 4096) := cellAt hR3 rfl
    have d2 : W3.drew.cell? ⟨R, 2, none⟩ = some (.int .i64 ((q : Int) + 1)) := cellAt hR3 rfl
    have d5 : W3.drew.cell? ⟨R, 5, none⟩ = some (.int .i64 lb) := cellAt hR3 rfl
    have d6 : W3.cell? ⟨R, 6, none⟩ = some (.int .i64 lr) := cellAt hR3 rfl
    have f5 : W3.drew.frozen? ⟨R, 5, none⟩ = false := frozen_of_row _ _ _ _ _ hR3
    have f6 : W3.frozen? ⟨R, 6, none⟩ = false := frozen_of_row _ _ _ _ _ hR3
    have hq4 : q < 4096 := by omega
    have hq5 : (q : Int) < 4096 := by omega
    have H4 := Hid_mk (And.intro hR3 (And.intro hB3 (And.intro hY3 (And.intro hP3 (And.intro F3 hq)))))
    clear hR3 hB3 hY3 hP3 F3 hWs hbq g2 k2
  all_goals go_region
  all_goals go_wp2_with fail
  all_goals go_ret2
  all_goals
    refine Or.inr ⟨k, hk0, hkn, hck, rfl, ⟨r + k, wp, i, b, -1, pr, C, H3.out.1.take hkw ?_ ?_ ?_⟩, ⟨laid cur cs, ?_, ?_, ?_⟩, ?_⟩
    · have s1 := heap_setCell_same W3 R 5 _ _ (.int .i64 b) H4.out.1
      show ((W3.setCell ⟨R, 5, none⟩ (.int .i64 b)).setCell ⟨R, 6, none⟩ (.int .i64 (-1))).heap[R]? = _
      rw [heap_setCell_same _ _ 6 _ _ _ s1, H4.out.2.2.2.2.2]
      simp
    · show ((W3.setCell ⟨R, 5, none⟩ (.int .i64 b)).setCell ⟨R, 6, none⟩ (.int .i64 (-1))).heap[Bf]? = _
      rw [heap_setCell_other _ _ _ _ (Ne.symm hRB), heap_setCell_other _ _ _ _ (Ne.symm hRB)]; exact H4.out.2.1
    · show ((W3.setCell ⟨R, 5, none⟩ (.int .i64 b)).setCell ⟨R, 6, none⟩ (.int .i64 (-1))).heap[Y]? = _
      rw [heap_setCell_other _ _ _ _ (Ne.symm hRY), heap_setCell_other _ _ _ _ (Ne.symm hRY)]; exact H4.out.2.2.1
    · show ((W3.setCell ⟨R, 5, none⟩ (.int .i64 b)).setCell ⟨R, 6, none⟩ (.int .i64 (-1))).heap[P]? = _
      rw [heap_setCell_other _ _ _ _ hPR, heap_setCell_other _ _ _ _ hPR]; exact H4.out.2.2.2.1.trans H3.out.2.1
    · exact laid_size (by have := H2.out.2.2.2.2.2; omega)
    · intro j hj
      exact laid_get (H1.out.2.1 j hj)
    · exact ((H4.out.2.2.2.2.1.setCell (by simp) _).setCell (by simp) _).drew
end Go.Proofs.YtnamkpkdkojhjaaDoor
