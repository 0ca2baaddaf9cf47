/- The contract of the buffered reader's Read with an empty buffer: straight from the source; by filling the buffer. -/
import Derived.Test.YtnamkpkdkojhjaaDoorRdState
import Derived.StillTailTactics
import Derived.BigRegion
import Derived.Laws.CopyOwn
import Derived.BigQuiet
import Derived.Deep.QuietTactic
namespace Go.Proofs.YtnamkpkdkojhjaaDoor
open Go.RowKit

theorem readerr_any (R : Nat) (cs : Array Value) (v : Value) (w : World) (hR : w.heap[R]? = some (.cells cs 48 (0, 0))) (hv : cs[4]? = some v) :
    Calls Tryd.prog 25 #[.pointer (some ⟨R, 0, none⟩)] w fun e w' => e = .returned v ∧ w.setCell ⟨R, 4, none⟩ .nilIface = w' := by
  have c4 : w.cell? ⟨R, 4, none⟩ = some v := cellAt hR hv
  have f4 : w.frozen? ⟨R, 4, none⟩ = false := frozen_of_row _ _ _ _ _ hR
  go_enter Tryd.func25, Tryd.ntmps25
  go_wp2_with fail
  go_ret
  exact ⟨rfl, rfl⟩

theorem meth_read (Y : Nat) (w : World) : (method 182 35 (.pointer (some ⟨Y, 0, none⟩)) "Read").run Tryd.prog w = .ok (46, .pointer (some ⟨Y, 0, none⟩)) w := by kernel_rfl

set_option maxRecDepth 100000 in
set_option maxHeartbeats 2000000 in
theorem read_dir_end (base R Bf Y P : Nat) (sv : Value) (bs : List Int) (te : TypeId) (ae : Addr) (c n r wp i : Nat) (lb lr pr : Int) (C cur : Array Value) (w : World) (hs : Src base w sv bs (.iface te (.pointer (some ae)))) (h : Rd w R Bf Y sv bs c r wp i lb lr pr C)
    (hr : r = wp) (hn0 : 0 < n) (hn : n ≤ 1048576) (hb : 4096 ≤ n) (hc : c = bs.length) (hP : w.heap[P]? = some (.cells cur 5 (0, 0))) (hcur : cur.size = n) (_hPB : P ≠ Bf) :
    Calls Tryd.prog 21 #[.pointer (some ⟨R, 0, none⟩), .slice (some ⟨P, 0, none⟩) n n] w (ReadPost w R Bf Y P sv bs c n cur (.iface te (.pointer (some ae)))) := by
  have hRB := h.RB
  have hRY := h.RY
  have hYB := h.YB
  have hwl := h.wl
  have hPR : P ≠ R := by
    intro e
    have h1 := h.hR
    rw [← e, hP] at h1
    simp at h1
  have hPY : P ≠ Y := by
    intro e
    have h1 := h.hY
    rw [← e, hP] at h1
    simp at h1
  have hq1 : ((n : Int) == 0) = false := by simp; omega
  subst hr
  have hic : c = i := by have := h.ci; omega
  have e2 : w.cell? ⟨R, 2, none⟩ = some (.int .i64 r) := cellAt h.hR rfl
  have e3 : w.cell? ⟨R, 3, none⟩ = some (.int .i64 r) := cellAt h.hR rfl
  have e0 : w.cell? ⟨R, 0, none⟩ = some (.slice (some ⟨Bf, 0, none⟩) 4096 4096) := cellAt h.hR rfl
  have e1 : w.cell? ⟨R, 1, none⟩ = some (.iface 35 (.pointer (some ⟨Y, 0, none⟩))) := cellAt h.hR rfl
  have e4 : w.cell? ⟨R, 4, none⟩ = some .nilIface := cellAt h.hR rfl
  have f2 : w.frozen? ⟨R, 2, none⟩ = false := frozen_of_row _ _ _ _ _ h.hR
  have f3 : w.frozen? ⟨R, 3, none⟩ = false := frozen_of_row _ _ _ _ _ h.hR
  subst hic
  have H := Hid_mk (And.intro hs (And.intro h (And.intro hP hcur)))
  clear hs h hP hcur
  have hn4 : (4096 : Int) ≤ (n : Int) := by omega
  have hsv : ∃ sa, sv = .slice sa bs.length bs.length := by
    rcases H.out.1.src with ⟨h1, h2⟩ | ⟨Sb, h1, _, _⟩
    · subst h2; exact ⟨_, h1⟩
    · exact ⟨_, h1⟩
  obtain ⟨sa, hsa⟩ := hsv
  have hmeth := meth_read Y
  go_enter Tryd.func21, Tryd.ntmps21
  go_wp2_with fail
  go_quiet (fail)
  go_wp2_with fail
  generalize hW : World.drewN w _ = V
  have HV : Rd V R Bf Y sv bs c r r c lb lr pr C := by rw [← hW]; exact H.out.2.1.heap rfl rfl rfl
  have hpV : V.heap[P]? = some (.cells cur 5 (0, 0)) := by rw [← hW]; exact H.out.2.2.1
  have FV : Fr [R, Y, Bf, P] w V := by rw [← hW]; exact (Fr.refl _ _).drewN _
  have SV : Src base V sv bs (.iface te (.pointer (some ae))) := by rw [← hW]; exact ⟨H.out.1.src, H.out.1.pos, H.out.1.top, H.out.1.eofc, H.out.1.len, H.out.1.byte⟩
  clear hW e0 e1 e2 e3 e4 f2 f3
  have HU := Hid_mk (And.intro HV (And.intro hpV (And.intro FV SV)))
  clear HV hpV FV SV
  go_wp2_with fail
  refine (bread_end Y _ P sa bs.length bs.length n n (.iface te (.pointer (some ae))) V (Nat.le_of_eq hc.symm) (cellAt HU.out.1.hY (by rw [hsa]; rfl)) (cellAt HU.out.1.hY rfl) HU.out.2.2.2.eofc).mono ?_
  rintro e W1 ⟨rfl, hheap, hfr⟩
  have h1 : Rd W1 R Bf Y sv bs c r r c lb lr pr C := HU.out.1.heap (by rw [hheap]) (by rw [hheap]) (by rw [hheap])
  have F1 : Fr [R, Y, Bf, P] w W1 := HU.out.2.2.1.trans (hfr.mono (fun x hx => by cases hx))
  have d4 : W1.cell? ⟨R, 4, none⟩ = some .nilIface := cellAt h1.hR rfl
  have f4 : W1.frozen? ⟨R, 4, none⟩ = false := frozen_of_row _ _ _ _ _ h1.hR
  have H2 := Hid_mk (And.intro h1 F1)
  clear h1 F1 hheap hfr
  go_wp2_with fail
  generalize hW2 : W1.setCell ⟨R, 4, none⟩ (.iface te (.pointer (some ae))) = W2
  have hR2 := heap_setCell_same W1 R 4 _ _ (.iface te (.pointer (some ae))) H2.out.1.hR
  rw [hW2] at hR2
  refine (readerr_any R _ (.iface te (.pointer (some ae))) W2 hR2 (by simp)).mono ?_
  rintro e w' ⟨rfl, rfl⟩
  have hR3 := heap_setCell_same W2 R 4 _ _ .nilIface hR2
  have hB3 : (W2.setCell ⟨R, 4, none⟩ .nilIface).heap[Bf]? = W1.heap[Bf]? := by rw [heap_setCell_other _ _ _ _ (Ne.symm hRB), ← hW2, heap_setCell_other _ _ _ _ (Ne.symm hRB)]
  have hY3 : (W2.setCell ⟨R, 4, none⟩ .nilIface).heap[Y]? = W1.heap[Y]? := by rw [heap_setCell_other _ _ _ _ (Ne.symm hRY), ← hW2, heap_setCell_other _ _ _ _ (Ne.symm hRY)]
  have F3 : Fr [R, Y, Bf, P] w (W2.setCell ⟨R, 4, none⟩ .nilIface) := by rw [← hW2]; exact (H2.out.2.setCell (by simp) _).setCell (by simp) _
  generalize W2.setCell ⟨R, 4, none⟩ .nilIface = W3 at hR3 hB3 hY3 F3
  have H3 := Hid_mk (And.intro hR3 (And.intro hB3 (And.intro hY3 F3)))
  clear hR3 hB3 hY3 F3 hR2 hW2
  go_wp2_with fail
  go_ret2
  refine Or.inl ⟨hc, rfl, ⟨r, r, c, lb, lr, pr, C, H2.out.1.heap ?_ H3.out.2.1 H3.out.2.2.1⟩, H3.out.2.2.2⟩
  rw [H3.out.1, H2.out.1.hR]
  simp

set_option maxRecDepth 100000 in
set_option maxHeartbeats 2000000 in
theorem read_dir_some (base R Bf Y P : Nat) (sv : Value) (bs : List Int) (te : TypeId) (ae : Addr) (c n r wp i : Nat) (lb lr pr : Int) (C cur : Array Value) (w : World) (hs : Src base w sv bs (.iface te (.pointer (some ae)))) (h : Rd w R Bf Y sv bs c r wp i lb lr pr C)
    (hr : r = wp) (hn0 : 0 < n) (hn : n ≤ 1048576) (hb : 4096 ≤ n) (hc : c < bs.length) (hP : w.heap[P]? = some (.cells cur 5 (0, 0))) (hcur : cur.size = n) (hPB : P ≠ Bf) :
    Calls Tryd.prog 21 #[.pointer (some ⟨R, 0, none⟩), .slice (some ⟨P, 0, none⟩) n n] w (ReadPost w R Bf Y P sv bs c n cur (.iface te (.pointer (some ae)))) := by
  have hRB := h.RB
  have hRY := h.RY
  have hYB := h.YB
  have hwl := h.wl
  have hPR : P ≠ R := by
    intro e
    have h1 := h.hR
    rw [← e, hP] at h1
    simp at h1
  have hPY : P ≠ Y := by
    intro e
    have h1 := h.hY
    rw [← e, hP] at h1
    simp at h1
  have hq1 : ((n : Int) == 0) = false := by simp; omega
  subst hr
  have hic : c = i := by have := h.ci; omega
  have e2 : w.cell? ⟨R, 2, none⟩ = some (.int .i64 r) := cellAt h.hR rfl
  have e3 : w.cell? ⟨R, 3, none⟩ = some (.int .i64 r) := cellAt h.hR rfl
  have e0 : w.cell? ⟨R, 0, none⟩ = some (.slice (some ⟨Bf, 0, none⟩) 4096 4096) := cellAt h.hR rfl
  have e1 : w.cell? ⟨R, 1, none⟩ = some (.iface 35 (.pointer (some ⟨Y, 0, none⟩))) := cellAt h.hR rfl
  have e4 : w.cell? ⟨R, 4, none⟩ = some .nilIface := cellAt h.hR rfl
  have f2 : w.frozen? ⟨R, 2, none⟩ = false := frozen_of_row _ _ _ _ _ h.hR
  have f3 : w.frozen? ⟨R, 3, none⟩ = false := frozen_of_row _ _ _ _ _ h.hR
  subst hic
  have H := Hid_mk (And.intro hs (And.intro h (And.intro hP hcur)))
  clear hs h hP hcur
  have hn4 : (4096 : Int) ≤ (n : Int) := by omega
  have hmeth := meth_read Y
  go_enter Tryd.func21, Tryd.ntmps21
  go_wp2_with fail
  go_quiet (fail)
  go_wp2_with fail
  generalize hW : World.drewN w _ = V
  have HV : Rd V R Bf Y sv bs c r r c lb lr pr C := by rw [← hW]; exact H.out.2.1.heap rfl rfl rfl
  have hpV : V.heap[P]? = some (.cells cur 5 (0, 0)) := by rw [← hW]; exact H.out.2.2.1
  have FV : Fr [R, Y, Bf, P] w V := by rw [← hW]; exact (Fr.refl _ _).drewN _
  have SV : Src base V sv bs (.iface te (.pointer (some ae))) := by rw [← hW]; exact ⟨H.out.1.src, H.out.1.pos, H.out.1.top, H.out.1.eofc, H.out.1.len, H.out.1.byte⟩
  clear hW e0 e1 e2 e3 e4 f2 f3
  obtain ⟨Sb, hsv, hS, hSlt⟩ : ∃ Sb, sv = .slice (some ⟨Sb, 0, none⟩) bs.length bs.length ∧ V.heap[Sb]? = some (.cells (bs.map (Value.int .u8)).toArray 5 (0, 0)) ∧ Sb < base := by
    rcases SV.src with ⟨h1, h2⟩ | ⟨Sb, h1, h2, h3⟩
    · subst h2; simp at hc
    · exact ⟨Sb, h1, h2, h3⟩
  subst hsv
  have HU := Hid_mk (And.intro HV (And.intro hpV (And.intro FV (And.intro SV hS))))
  clear HV hpV FV SV hS
  go_wp2_with fail
  refine (bread_some Y P c n n bs.length Sb bs pr cur V hc HU.out.2.2.2.1.len hn0 hn (by rw [H.out.2.2.2]; exact Nat.le_refl _) rfl HU.out.1.hY HU.out.2.1 HU.out.2.2.2.2).mono ?_
  rintro e W1 ⟨k, hk, rfl, hY1, hP1, hfr⟩
  have hk0 : 0 < k := by omega
  have hkn : k ≤ n := by omega
  have hck : c + k ≤ bs.length := by omega
  have hlen := seg_length hck
  have hR1 : W1.heap[R]? = _ := (hfr.at HU.out.1.hR (by simp; exact ⟨hRY, Ne.symm hPR⟩))
  have hB1 : W1.heap[Bf]? = _ := (hfr.at HU.out.1.hB (by simp; exact ⟨Ne.symm hYB, Ne.symm hPB⟩))
  have F1 : Fr [R, Y, Bf, P] w W1 := HU.out.2.2.1.trans (hfr.mono (fun x hx => by simp at hx ⊢; rcases hx with h | h <;> simp [h]))
  have d4 : W1.cell? ⟨R, 4, none⟩ = some .nilIface := cellAt hR1 rfl
  have f4 : W1.frozen? ⟨R, 4, none⟩ = false := frozen_of_row _ _ _ _ _ hR1
  have d5 : W1.cell? ⟨R, 5, none⟩ = some (.int .i64 lb) := cellAt hR1 rfl
  have f5 : W1.frozen? ⟨R, 5, none⟩ = false := frozen_of_row _ _ _ _ _ hR1
  have d6 : W1.cell? ⟨R, 6, none⟩ = some (.int .i64 lr) := cellAt hR1 rfl
  have f6 : W1.frozen? ⟨R, 6, none⟩ = false := frozen_of_row _ _ _ _ _ hR1
  obtain ⟨q, hq⟩ : ∃ q, k = q + 1 := ⟨k - 1, by omega⟩
  have hbq := seg_get (bs := bs) hck (show q < k by omega)
  have hbb := HU.out.2.2.2.1.at (c + q)
  have H2 := Hid_mk (And.intro hk (And.intro hY1 (And.intro hP1 (And.intro hR1 (And.intro hB1 (And.intro F1 hlen))))))
  subst hq
  generalize bs.getD (c + q) 0 = b at hbq hbb
  obtain ⟨hb0, hb1⟩ := hbb
  have dP : W1.cell? ⟨P, q, none⟩ = some (.int .u8 b) := cellAt hP1 (laid_get hbq)
  have hqn : (q : Int) < (n : Int) := by omega
  clear hk hY1 hP1 hR1 hB1 F1 hfr hlen hbq
  go_wp2_with fail
  have s1 := heap_setCell_same W1 R 4 _ _ .nilIface H2.out.2.2.2.1
  have s2 := heap_setCell_same _ R 5 _ _ (.int .i64 b) s1
  have s3 := heap_setCell_same _ R 6 _ _ (.int .i64 (-1)) s2
  have F3 := ((H2.out.2.2.2.2.2.1.setCell (p := ⟨R, 4, none⟩) (by simp) .nilIface).setCell (p := ⟨R, 5, none⟩) (by simp) (.int .i64 b)).setCell (p := ⟨R, 6, none⟩) (by simp) (.int .i64 (-1))
  have o3 : ∀ x, x ≠ R → (((W1.setCell ⟨R, 4, none⟩ .nilIface).setCell ⟨R, 5, none⟩ (.int .i64 b)).setCell ⟨R, 6, none⟩ (.int .i64 (-1))).heap[x]? = W1.heap[x]? := fun x hx => by
    rw [heap_setCell_other _ _ _ _ hx, heap_setCell_other _ _ _ _ hx, heap_setCell_other _ _ _ _ hx]
  generalize ((W1.setCell ⟨R, 4, none⟩ .nilIface).setCell ⟨R, 5, none⟩ (.int .i64 b)).setCell ⟨R, 6, none⟩ (.int .i64 (-1)) = W2 at s3 F3 o3
  clear s1 s2
  refine (readerr_any R _ .nilIface W2 s3 (by simp)).mono ?_
  rintro e w' ⟨rfl, rfl⟩
  have hR3 := heap_setCell_same W2 R 4 _ _ .nilIface s3
  have o4 : ∀ x, x ≠ R → (W2.setCell ⟨R, 4, none⟩ .nilIface).heap[x]? = W1.heap[x]? := fun x hx => (heap_setCell_other _ _ _ _ hx).trans (o3 x hx)
  have F4 := F3.setCell (p := ⟨R, 4, none⟩) (by simp) .nilIface
  generalize W2.setCell ⟨R, 4, none⟩ .nilIface = W3 at hR3 o4 F4
  have H3 := Hid_mk (And.intro hR3 (And.intro o4 F4))
  clear hR3 o4 F4 s3 F3 o3
  go_wp2_with fail
  go_ret2
  refine Or.inr ⟨q + 1, by omega, hkn, hck, rfl, ⟨r, r, c + (q + 1), b, -1, -1, C, ⟨?_, (H3.out.2.1 _ (Ne.symm hRB)).trans H2.out.2.2.2.2.1, HU.out.1.size, (H3.out.2.1 _ (Ne.symm hRY)).trans H2.out.2.1, Nat.le_refl _, hwl, by omega, hck, fun j h1 h2 => by omega⟩⟩, ⟨_, (H3.out.2.1 _ hPR).trans H2.out.2.2.1, laid_size ?_, fun j hj => laid_get (seg_get hck hj)⟩, H3.out.2.2⟩
  · rw [H3.out.1]; simp
  · have h1 := H2.out.2.2.2.2.2.2
    have h2 := H.out.2.2.2
    omega

end Go.Proofs.YtnamkpkdkojhjaaDoor
