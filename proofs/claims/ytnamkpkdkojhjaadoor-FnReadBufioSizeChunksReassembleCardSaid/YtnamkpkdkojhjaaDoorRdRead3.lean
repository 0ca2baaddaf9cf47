/- The contract of the buffered reader's Read with an empty buffer and a short row: by filling the buffer. -/
import Derived.Test.YtnamkpkdkojhjaaDoorRdRead2
import Derived.Deep.RegionHeld3
namespace Go.Proofs.YtnamkpkdkojhjaaDoor
open Go.RowKit

set_option maxRecDepth 100000 in
set_option maxHeartbeats 2000000 in
theorem read_fill_end (base R Bf Y P : Nat) (sv : Value) (bs : List Int) (te : TypeId) (ae : Addr) (c n r wp i : Nat) (lb lr pr : Int) (C cur : Array Value) (w : World) (hs : Src base w sv bs (.iface te (.pointer (some ae)))) (h : Rd w R Bf Y sv bs c r wp i lb lr pr C)
    (hr : r = wp) (hn0 : 0 < n) (hn : n ≤ 1048576) (hb : n < 4096) (hc : c = bs.length) (hP : w.heap[P]? = some (.cells cur 5 (0, 0))) (hcur : cur.size = n) (_hPB : P ≠ Bf) (hSS : ∀ x, x ∈ [R, Y, Bf, P] → base ≤ x) :
    Calls Tryd.prog 21 #[.pointer (some ⟨R, 0, none⟩), .slice (some ⟨P, 0, none⟩) n n] w (ReadPost w R Bf Y P sv bs c n cur (.iface te (.pointer (some ae)))) := by
  have hRB := h.RB
  have hRY := h.RY
  have hYB := h.YB
  have hwl := h.wl
  have hPR : P ≠ R := by
    intro e
    have h1 := h.hR
    rw [← e, hP] at h1
    simp at h1
  have hPY : P ≠ Y := by
    intro e
    have h1 := h.hY
    rw [← e, hP] at h1
    simp at h1
  have hq1 : ((n : Int) == 0) = false := by simp; omega
  subst hr
  have hic : c = i := by have := h.ci; omega
  have e2 : w.cell? ⟨R, 2, none⟩ = some (.int .i64 r) := cellAt h.hR rfl
  have e3 : w.cell? ⟨R, 3, none⟩ = some (.int .i64 r) := cellAt h.hR rfl
  have e0 : w.cell? ⟨R, 0, none⟩ = some (.slice (some ⟨Bf, 0, none⟩) 4096 4096) := cellAt h.hR rfl
  have e1 : w.cell? ⟨R, 1, none⟩ = some (.iface 35 (.pointer (some ⟨Y, 0, none⟩))) := cellAt h.hR rfl
  have e4 : w.cell? ⟨R, 4, none⟩ = some .nilIface := cellAt h.hR rfl
  have f2 : w.frozen? ⟨R, 2, none⟩ = false := frozen_of_row _ _ _ _ _ h.hR
  have f3 : w.frozen? ⟨R, 3, none⟩ = false := frozen_of_row _ _ _ _ _ h.hR
  subst hic
  have H := Hid_mk (And.intro hs (And.intro h (And.intro hP hcur)))
  clear hs h hP hcur
  have hn4 : (n : Int) < (4096 : Int) := by omega
  have hsv : ∃ sa, sv = .slice sa bs.length bs.length := by
    rcases H.out.1.src with ⟨h1, h2⟩ | ⟨Sb, h1, _, _⟩
    · subst h2; exact ⟨_, h1⟩
    · exact ⟨_, h1⟩
  obtain ⟨sa, hsa⟩ := hsv
  have hmeth := meth_read Y
  go_enter Tryd.func21, Tryd.ntmps21
  go_wp2_with fail
  go_quiet (fail)
  go_wp2_with fail
  generalize hW0 : World.drewN w _ = W0
  have hR0 : W0.heap[R]? = some (.cells #[.slice (some ⟨Bf, 0, none⟩) 4096 4096, .iface 35 (.pointer (some ⟨Y, 0, none⟩)), .int .i64 r, .int .i64 r, .nilIface, .int .i64 lb, .int .i64 lr] 48 (0, 0)) := by rw [← hW0]; exact H.out.2.1.hR
  have F0 : Fr [R, Y, Bf, P] w W0 := by rw [← hW0]; exact (Fr.refl _ _).drewN _
  have o0 : ∀ x : Nat, W0.heap[x]? = w.heap[x]? := fun x => by rw [← hW0]; rfl
  generalize hW : (W0.setCell ⟨R, 2, none⟩ (.int .i64 0)).setCell ⟨R, 3, none⟩ (.int .i64 0) = V
  have s1 := heap_setCell_same W0 R 2 _ _ (.int .i64 0) hR0
  have s2 := heap_setCell_same _ R 3 _ _ (.int .i64 0) s1
  rw [hW] at s2
  have o2 : ∀ x : Nat, x ≠ R → V.heap[x]? = w.heap[x]? := fun x hx => by
    rw [← hW, heap_setCell_other _ _ _ _ hx, heap_setCell_other _ _ _ _ hx]; exact o0 x
  have hRV : V.heap[R]? = some (.cells #[.slice (some ⟨Bf, 0, none⟩) 4096 4096, .iface 35 (.pointer (some ⟨Y, 0, none⟩)), .int .i64 ((0 : Nat) : Int), .int .i64 ((0 : Nat) : Int), .nilIface, .int .i64 lb, .int .i64 lr] 48 (0, 0)) := by rw [s2]; simp
  have HV : Rd V R Bf Y sv bs c 0 0 c lb lr pr C := ⟨hRV, (o2 _ (Ne.symm hRB)).trans H.out.2.1.hB, H.out.2.1.size, (o2 _ (Ne.symm hRY)).trans H.out.2.1.hY, Nat.le_refl _, by omega, by omega, H.out.2.1.il, fun j h1 h2 => by omega⟩
  have hpV : V.heap[P]? = some (.cells cur 5 (0, 0)) := (o2 _ hPR).trans H.out.2.2.1
  have FV : Fr [R, Y, Bf, P] w V := by rw [← hW]; exact (F0.setCell (by simp) _).setCell (by simp) _
  have SV : Src base V sv bs (.iface te (.pointer (some ae))) := H.out.1.below (FV.below H.out.1.top hSS)
  have hbr := bread_end Y c Bf sa bs.length bs.length 4096 4096 (.iface te (.pointer (some ae))) V.drew (Nat.le_of_eq hc.symm) (cellAt HV.hY (by rw [hsa]; rfl)) (cellAt HV.hY rfl) SV.eofc
  have d0 : V.drew.cell? ⟨R, 0, none⟩ = some (.slice (some ⟨Bf, 0, none⟩) 4096 4096) := cellAt hRV rfl
  have d1 : V.drew.cell? ⟨R, 1, none⟩ = some (.iface 35 (.pointer (some ⟨Y, 0, none⟩))) := cellAt hRV rfl
  have hS1 : ∀ W1 : World, W1.heap = V.drew.heap → W1.cell? ⟨R, 0, none⟩ = some (.slice (some ⟨Bf, 0, none⟩) 4096 4096) ∧ W1.cell? ⟨R, 1, none⟩ = some (.iface 35 (.pointer (some ⟨Y, 0, none⟩))) ∧ W1.cell? ⟨R, 4, none⟩ = some .nilIface ∧ W1.frozen? ⟨R, 4, none⟩ = false := by
    intro W1 h
    have h2 : W1.heap[R]? = _ := (congrArg (fun x : Array Obj => x[R]?) h).trans hRV
    exact ⟨cellAt h2 rfl, cellAt h2 rfl, cellAt h2 rfl, frozen_of_row _ _ _ _ _ h2⟩
  have hS2 : ∀ W1 : World, W1.heap = V.drew.heap → (W1.setCell ⟨R, 4, none⟩ (.iface te (.pointer (some ae)))).cell? ⟨R, 0, none⟩ = some (.slice (some ⟨Bf, 0, none⟩) 4096 4096) ∧ (W1.setCell ⟨R, 4, none⟩ (.iface te (.pointer (some ae)))).cell? ⟨R, 1, none⟩ = some (.iface 35 (.pointer (some ⟨Y, 0, none⟩))) := by
    intro W1 h
    have h2 : W1.heap[R]? = _ := (congrArg (fun x : Array Obj => x[R]?) h).trans hRV
    have h3 := heap_setCell_same W1 R 4 _ _ (.iface te (.pointer (some ae))) h2
    exact ⟨cellAt h3 (by simp), cellAt h3 (by simp)⟩
  have HU := Hid_mk (And.intro HV (And.intro hpV (And.intro FV (And.intro SV (And.intro hbr (And.intro hS1 hS2))))))
  clear HV hpV FV SV hbr hS1 hS2 hRV o2 s1 s2 hW o0 F0 hR0 hW0 e0 e1 e2 e3 e4 f2 f3
  go_region_held3 (fun w' => w'.cell? ⟨R, 0, none⟩ = some (.slice (some ⟨Bf, 0, none⟩) 4096 4096) ∧ w'.cell? ⟨R, 1, none⟩ = some (.iface 35 (.pointer (some ⟨Y, 0, none⟩)))) (first | go_keep | exact ⟨(HU.out.2.2.2.2.2.1 _ (by assumption)).1, (HU.out.2.2.2.2.2.1 _ (by assumption)).2.1⟩ | exact HU.out.2.2.2.2.2.2 _ (by assumption) | fail) (first | (go_at_call 46; refine HU.out.2.2.2.2.1.mono ?_; rintro e W1 ⟨rfl, hheap, hfr⟩; obtain ⟨d40, d41, d44, d4f⟩ := HU.out.2.2.2.2.2.1 _ hheap))
  go_wp2_with fail
  have h1 : Rd W1 R Bf Y sv bs c 0 0 c lb lr pr C := HU.out.1.heap (by rw [hheap]; rfl) (by rw [hheap]; rfl) (by rw [hheap]; rfl)
  have F1 : Fr [R, Y, Bf, P] w W1 := HU.out.2.2.1.drew.trans (hfr.mono (fun x hx => by cases hx))
  have H2 := Hid_mk (And.intro h1 F1)
  clear h1 F1 hheap hfr
  generalize hW2 : W1.setCell ⟨R, 4, none⟩ (.iface te (.pointer (some ae))) = W2
  have hR2 := heap_setCell_same W1 R 4 _ _ (.iface te (.pointer (some ae))) H2.out.1.hR
  rw [hW2] at hR2
  refine (readerr_any R _ (.iface te (.pointer (some ae))) W2 hR2 (by simp)).mono ?_
  rintro e w' ⟨rfl, rfl⟩
  have hR3 := heap_setCell_same W2 R 4 _ _ .nilIface hR2
  have hB3 : (W2.setCell ⟨R, 4, none⟩ .nilIface).heap[Bf]? = W1.heap[Bf]? := by rw [heap_setCell_other _ _ _ _ (Ne.symm hRB), ← hW2, heap_setCell_other _ _ _ _ (Ne.symm hRB)]
  have hY3 : (W2.setCell ⟨R, 4, none⟩ .nilIface).heap[Y]? = W1.heap[Y]? := by rw [heap_setCell_other _ _ _ _ (Ne.symm hRY), ← hW2, heap_setCell_other _ _ _ _ (Ne.symm hRY)]
  have F3 : Fr [R, Y, Bf, P] w (W2.setCell ⟨R, 4, none⟩ .nilIface) := by rw [← hW2]; exact (H2.out.2.setCell (by simp) _).setCell (by simp) _
  generalize W2.setCell ⟨R, 4, none⟩ .nilIface = W3 at hR3 hB3 hY3 F3
  have H3 := Hid_mk (And.intro hR3 (And.intro hB3 (And.intro hY3 F3)))
  clear hR3 hB3 hY3 F3 hR2 hW2
  go_wp2_with fail
  go_ret2
  refine Or.inl ⟨hc, rfl, ⟨0, 0, c, lb, lr, pr, C, H2.out.1.heap ?_ H3.out.2.1 H3.out.2.2.1⟩, H3.out.2.2.2⟩
  rw [H3.out.1, H2.out.1.hR]
  simp

set_option maxRecDepth 100000 in
set_option maxHeartbeats 2000000 in
theorem read_fill_some (base R Bf Y P : Nat) (sv : Value) (bs : List Int) (te : TypeId) (ae : Addr) (c n r wp i : Nat) (lb lr pr : Int) (C cur : Array Value) (w : World) (hs : Src base w sv bs (.iface te (.pointer (some ae)))) (h : Rd w R Bf Y sv bs c r wp i lb lr pr C)
    (hr : r = wp) (hn0 : 0 < n) (hn : n ≤ 1048576) (hb : n < 4096) (hc : c < bs.length) (hP : w.heap[P]? = some (.cells cur 5 (0, 0))) (hcur : cur.size = n) (hPB : P ≠ Bf) (hSS : ∀ x, x ∈ [R, Y, Bf, P] → base ≤ x) :
    Calls Tryd.prog 21 #[.pointer (some ⟨R, 0, none⟩), .slice (some ⟨P, 0, none⟩) n n] w (ReadPost w R Bf Y P sv bs c n cur (.iface te (.pointer (some ae)))) := by
  have hRB := h.RB
  have hRY := h.RY
  have hYB := h.YB
  have hwl := h.wl
  have hPR : P ≠ R := by
    intro e
    have h1 := h.hR
    rw [← e, hP] at h1
    simp at h1
  have hPY : P ≠ Y := by
    intro e
    have h1 := h.hY
    rw [← e, hP] at h1
    simp at h1
  have hq1 : ((n : Int) == 0) = false := by simp; omega
  subst hr
  have hic : c = i := by have := h.ci; omega
  have e2 : w.cell? ⟨R, 2, none⟩ = some (.int .i64 r) := cellAt h.hR rfl
  have e3 : w.cell? ⟨R, 3, none⟩ = some (.int .i64 r) := cellAt h.hR rfl
  have e0 : w.cell? ⟨R, 0, none⟩ = some (.slice (some ⟨Bf, 0, none⟩) 4096 4096) := cellAt h.hR rfl
  have e1 : w.cell? ⟨R, 1, none⟩ = some (.iface 35 (.pointer (some ⟨Y, 0, none⟩))) := cellAt h.hR rfl
  have e4 : w.cell? ⟨R, 4, none⟩ = some .nilIface := cellAt h.hR rfl
  have f2 : w.frozen? ⟨R, 2, none⟩ = false := frozen_of_row _ _ _ _ _ h.hR
  have f3 : w.frozen? ⟨R, 3, none⟩ = false := frozen_of_row _ _ _ _ _ h.hR
  subst hic
  have H := Hid_mk (And.intro hs (And.intro h (And.intro hP hcur)))
  clear hs h hP hcur
  have hn4 : (n : Int) < (4096 : Int) := by omega
  have hmeth := meth_read Y
  go_enter Tryd.func21, Tryd.ntmps21
  go_wp2_with fail
  go_quiet (fail)
  go_wp2_with fail
  generalize hW0 : World.drewN w _ = W0
  have hR0 : W0.heap[R]? = some (.cells #[.slice (some ⟨Bf, 0, none⟩) 4096 4096, .iface 35 (.pointer (some ⟨Y, 0, none⟩)), .int .i64 r, .int .i64 r, .nilIface, .int .i64 lb, .int .i64 lr] 48 (0, 0)) := by rw [← hW0]; exact H.out.2.1.hR
  have F0 : Fr [R, Y, Bf, P] w W0 := by rw [← hW0]; exact (Fr.refl _ _).drewN _
  have o0 : ∀ x : Nat, W0.heap[x]? = w.heap[x]? := fun x => by rw [← hW0]; rfl
  generalize hW : (W0.setCell ⟨R, 2, none⟩ (.int .i64 0)).setCell ⟨R, 3, none⟩ (.int .i64 0) = V
  have s1 := heap_setCell_same W0 R 2 _ _ (.int .i64 0) hR0
  have s2 := heap_setCell_same _ R 3 _ _ (.int .i64 0) s1
  rw [hW] at s2
  have o2 : ∀ x : Nat, x ≠ R → V.heap[x]? = w.heap[x]? := fun x hx => by
    rw [← hW, heap_setCell_other _ _ _ _ hx, heap_setCell_other _ _ _ _ hx]; exact o0 x
  have hRV : V.heap[R]? = some (.cells #[.slice (some ⟨Bf, 0, none⟩) 4096 4096, .iface 35 (.pointer (some ⟨Y, 0, none⟩)), .int .i64 ((0 : Nat) : Int), .int .i64 ((0 : Nat) : Int), .nilIface, .int .i64 lb, .int .i64 lr] 48 (0, 0)) := by rw [s2]; simp
  have HV : Rd V R Bf Y sv bs c 0 0 c lb lr pr C := ⟨hRV, (o2 _ (Ne.symm hRB)).trans H.out.2.1.hB, H.out.2.1.size, (o2 _ (Ne.symm hRY)).trans H.out.2.1.hY, Nat.le_refl _, by omega, by omega, H.out.2.1.il, fun j h1 h2 => by omega⟩
  have hpV : V.heap[P]? = some (.cells cur 5 (0, 0)) := (o2 _ hPR).trans H.out.2.2.1
  have FV : Fr [R, Y, Bf, P] w V := by rw [← hW]; exact (F0.setCell (by simp) _).setCell (by simp) _
  have SV : Src base V sv bs (.iface te (.pointer (some ae))) := H.out.1.below (FV.below H.out.1.top hSS)
  obtain ⟨Sb, hsv, hS, hSlt⟩ : ∃ Sb, sv = .slice (some ⟨Sb, 0, none⟩) bs.length bs.length ∧ V.heap[Sb]? = some (.cells (bs.map (Value.int .u8)).toArray 5 (0, 0)) ∧ Sb < base := by
    rcases SV.src with ⟨h1, h2⟩ | ⟨Sb, h1, h2, h3⟩
    · subst h2; simp at hc
    · exact ⟨Sb, h1, h2, h3⟩
  subst hsv
  have hbr := bread_some Y Bf c 4096 4096 bs.length Sb bs pr C V.drew hc SV.len (by omega) (by omega) (by rw [HV.size]; exact Nat.le_refl _) rfl HV.hY HV.hB hS
  have d0 : V.drew.cell? ⟨R, 0, none⟩ = some (.slice (some ⟨Bf, 0, none⟩) 4096 4096) := cellAt hRV rfl
  have d1 : V.drew.cell? ⟨R, 1, none⟩ = some (.iface 35 (.pointer (some ⟨Y, 0, none⟩))) := cellAt hRV rfl
  have hRat : ∀ W1 : World, Fr [Y, Bf] V.drew W1 → W1.heap[R]? = some (.cells #[.slice (some ⟨Bf, 0, none⟩) 4096 4096, .iface 35 (.pointer (some ⟨Y, 0, none⟩)), .int .i64 ((0 : Nat) : Int), .int .i64 ((0 : Nat) : Int), .nilIface, .int .i64 lb, .int .i64 lr] 48 (0, 0)) := fun W1 h => h.at hRV (by simp; exact ⟨hRY, hRB⟩)
  have hS1 : ∀ W1 : World, Fr [Y, Bf] V.drew W1 → W1.cell? ⟨R, 0, none⟩ = some (.slice (some ⟨Bf, 0, none⟩) 4096 4096) ∧ W1.cell? ⟨R, 1, none⟩ = some (.iface 35 (.pointer (some ⟨Y, 0, none⟩))) ∧ W1.cell? ⟨R, 4, none⟩ = some .nilIface ∧ W1.frozen? ⟨R, 4, none⟩ = false ∧ W1.cell? ⟨R, 3, none⟩ = some (.int .i64 0) ∧ W1.frozen? ⟨R, 3, none⟩ = false := by
    intro W1 h
    have h2 := hRat W1 h
    exact ⟨cellAt h2 rfl, cellAt h2 rfl, cellAt h2 rfl, frozen_of_row _ _ _ _ _ h2, cellAt h2 rfl, frozen_of_row _ _ _ _ _ h2⟩
  have hS2 : ∀ W1 : World, Fr [Y, Bf] V.drew W1 → (W1.setCell ⟨R, 4, none⟩ .nilIface).cell? ⟨R, 0, none⟩ = some (.slice (some ⟨Bf, 0, none⟩) 4096 4096) ∧ (W1.setCell ⟨R, 4, none⟩ .nilIface).cell? ⟨R, 1, none⟩ = some (.iface 35 (.pointer (some ⟨Y, 0, none⟩))) := by
    intro W1 h
    have h3 := heap_setCell_same W1 R 4 _ _ .nilIface (hRat W1 h)
    exact ⟨cellAt h3 (by simp), cellAt h3 (by simp)⟩
  have HU := Hid_mk (And.intro HV (And.intro hpV (And.intro FV (And.intro hRat (And.intro hbr (And.intro hS1 hS2))))))
  clear HV hpV FV SV hbr hS1 hS2 hRV hRat hS o2 s1 s2 hW o0 F0 hR0 hW0 e0 e1 e2 e3 e4 f2 f3
  go_region_held3 (fun w' => w'.cell? ⟨R, 0, none⟩ = some (.slice (some ⟨Bf, 0, none⟩) 4096 4096) ∧ w'.cell? ⟨R, 1, none⟩ = some (.iface 35 (.pointer (some ⟨Y, 0, none⟩)))) (first | go_keep | exact ⟨(HU.out.2.2.2.2.2.1 _ (by assumption)).1, (HU.out.2.2.2.2.2.1 _ (by assumption)).2.1⟩ | exact HU.out.2.2.2.2.2.2 _ (by assumption) | fail) (first | (go_at_call 46; refine HU.out.2.2.2.2.1.mono ?_; rintro e W1 ⟨k0, hk0d, rfl, hY1, hB1, hfr⟩; have HKD := Hid_mk hk0d; clear hk0d; obtain ⟨d40, d41, d44, d4f, d43, d3f⟩ := HU.out.2.2.2.2.2.1 _ hfr))
  have hk00 : 0 < k0 := by have := HKD.out; omega
  have hwl2 : (k0 : Int) ≤ 4096 := by have := HKD.out; omega
  have hq3 : ((k0 : Int) == 0) = false := by simp; omega
  go_wp2_with fail
  generalize hWV : (W1.setCell ⟨R, 4, none⟩ .nilIface).setCell ⟨R, 3, none⟩ (.int .i64 (k0 : Int)) = V2
  have s1 := heap_setCell_same W1 R 4 _ _ .nilIface (HU.out.2.2.2.1 W1 hfr)
  have s2 := heap_setCell_same _ R 3 _ _ (.int .i64 (k0 : Int)) s1
  rw [hWV] at s2
  have o2 : ∀ x : Nat, x ≠ R → V2.heap[x]? = W1.heap[x]? := fun x hx => by
    rw [← hWV, heap_setCell_other _ _ _ _ hx, heap_setCell_other _ _ _ _ hx]
  obtain ⟨i, hi⟩ : ∃ i, i = c + k0 := ⟨_, rfl⟩
  have hck0 : c + k0 ≤ bs.length := by have := HKD.out; omega
  have hlen0 := seg_length hck0
  obtain ⟨C2, hC2⟩ : ∃ C2, C2 = laid C (seg bs c k0) := ⟨_, rfl⟩
  have HV : Rd V2 R Bf Y (.slice (some ⟨Sb, 0, none⟩) bs.length bs.length) bs c 0 k0 i lb lr (-1) C2 := by
    refine ⟨?_, ?_, ?_, ?_, Nat.zero_le _, by omega, by omega, by omega, ?_⟩
    · rw [s2]; simp
    · rw [o2 _ (Ne.symm hRB), hB1, hC2]
    · rw [hC2, laid_size (by rw [hlen0, HU.out.1.size]; omega), HU.out.1.size]
    · rw [o2 _ (Ne.symm hRY), hY1, hi]
    · intro j h1 h2
      rw [hC2, show c + (j - 0) = c + j by omega]
      exact laid_get (seg_get hck0 h2)
  have hpV : V2.heap[P]? = some (.cells cur 5 (0, 0)) := (o2 _ hPR).trans (hfr.at HU.out.2.1 (by simp; exact ⟨hPY, hPB⟩))
  have FV : Fr [R, Y, Bf, P] w V2 := by
    rw [← hWV]
    exact ((HU.out.2.2.1.drew.trans (hfr.mono (fun x hx => by simp at hx ⊢; rcases hx with h | h <;> simp [h]))).setCell (by simp) _).setCell (by simp) _
  obtain ⟨k, hk⟩ : ∃ k, k = min (k0 - 0) n := ⟨_, rfl⟩
  have hk0 : 0 < k := by omega
  have hkn : k ≤ n := by omega
  have hkw : 0 + k ≤ k0 := by omega
  have hck : c + k ≤ bs.length := by omega
  have hlen := seg_length hck
  have hhd : ∀ j, j < k → (seg bs c k)[j]? = some (.int .u8 (bs.getD (c + j) 0)) := fun j hj => seg_get hck hj
  have hone := seg_one bs c k
  have HK := Hid_mk (show k = Nat.min (k0 - 0) n from hk)
  obtain ⟨cs, hcs⟩ : ∃ cs, cs = seg bs c k := ⟨_, rfl⟩
  rw [← hcs] at hlen hhd hone
  have H1 := Hid_mk (And.intro hcs (And.intro hhd hone))
  clear hcs hhd hone s1 s2 o2 hY1 hB1 hC2 hWV hfr hk hlen0 d40 d41 d44 d4f d43 d3f d0 d1 hi hck0
  have d0 : V2.drew.cell? ⟨R, 0, none⟩ = some (.slice (some ⟨Bf, 0, none⟩) 4096 4096) := cellAt HV.hR rfl
  have d2 : V2.drew.cell? ⟨R, 2, none⟩ = some (.int .i64 0) := cellAt HV.hR rfl
  have d3 : V2.drew.cell? ⟨R, 3, none⟩ = some (.int .i64 k0) := cellAt HV.hR rfl
  have hsrc : ∀ j v, cs[j]? = some v → V2.drew.cell? ((⟨Bf, 0, none⟩ : Addr).add j) = some v := by
    intro j v hj
    have hjk : j < k := by rw [← hlen]; exact (List.getElem?_eq_some_iff.1 hj).1
    rw [H1.out.2.1 j hjk] at hj
    rw [Addr.add_lit]
    refine (cellAt HV.hB ?_).trans hj
    have := HV.buf (0 + j) (by omega) (by omega)
    rw [this, show c + (0 + j - 0) = c + j by omega]
  have hpV' : V2.drew.heap[P]? = some (.cells cur 5 (0, 0)) := hpV
  have hmin : cs.length = Nat.min (k0 - 0) n := by rw [hlen]; exact HK.out
  have hfit : 0 + cs.length ≤ cur.size := by rw [hlen, H.out.2.2.2]; omega
  have H2 := Hid_mk (And.intro HV (And.intro hpV' (And.intro FV (And.intro hsrc (And.intro hmin hfit)))))
  clear HV hpV hpV' FV hsrc hmin hfit
  go_still_tail 14, (by kernel_rfl)
  change wpList _ _ _ _ _ V2.drew
  refine wpList_copy_own rfl (.tmp 109) (.tmp 122) 22 22 rfl 5 Tryd.underlying22 run_info5 P 0 n n ⟨Bf, 0, none⟩ (k0) (4096) (by simp [Act.eval]) (by simp [Act.eval]) cur 5 H2.out.2.1 cs H2.out.2.2.2.2.1 H2.out.2.2.2.1 H2.out.2.2.2.2.2 H1.out.2.2 ?_
  all_goals
    generalize hX : (List.take 0 cur.toList ++ (cs ++ List.drop (0 + cs.length) cur.toList)).toArray = X
    have hX2 : X = laid cur cs := by rw [← hX]; simp [laid]
    rw [hlen]
    generalize hWs : World.setRow V2.drew P X = W2
    have h2 : Rd W2 R Bf Y (.slice (some ⟨Sb, 0, none⟩) bs.length bs.length) bs c 0 k0 i lb lr (-1) C2 := by rw [← hWs]; exact H2.out.1.heap (setRow_other _ _ _ _ hPR.symm) (setRow_other _ _ _ _ hPB.symm) (setRow_other _ _ _ _ hPY.symm)
    have hp2 : W2.heap[P]? = some (.cells (laid cur cs) 5 (0, 0)) := by rw [← hWs, ← hX2]; exact setRow_heap _ _ _ _ _ _ H2.out.2.1
    have F2 : Fr [R, Y, Bf, P] w W2 := by rw [← hWs]; exact H2.out.2.2.1.drew.setRow (by simp) _
    have g2 : W2.cell? ⟨R, 2, none⟩ = some (.int .i64 0) := cellAt h2.hR rfl
    have k2 : W2.frozen? ⟨R, 2, none⟩ = false := frozen_of_row _ _ _ _ _ h2.hR
    have H3 := Hid_mk (And.intro h2 (And.intro hp2 F2))
    clear h2 hp2 F2 hWs hX2 hX d0 d2 d3
  all_goals go_wp2_with fail
  all_goals
    generalize hWs : World.setCell W2 ⟨R, 2, none⟩ _ = W3
    obtain ⟨q, hq⟩ : ∃ q, 0 + k = q + 1 := ⟨0 + k - 1, by omega⟩
    have hR3 : W3.heap[R]? = some (.cells #[.slice (some ⟨Bf, 0, none⟩) 4096 4096, .iface 35 (.pointer (some ⟨Y, 0, none⟩)), .int .i64 ((q : Int) + 1), .int .i64 k0, .nilIface, .int .i64 lb, .int .i64 lr] 48 (0, 0)) := by
      rw [← hWs, heap_setCell_same _ _ 2 _ _ _ H3.out.1.hR]
      have e : (k : Int) = (q : Int) + 1 := by omega
      try rw [e]
      simp
    have hB3 : W3.heap[Bf]? = W2.heap[Bf]? := by rw [← hWs]; exact heap_setCell_other _ _ _ _ (Ne.symm hRB)
    have hY3 : W3.heap[Y]? = W2.heap[Y]? := by rw [← hWs]; exact heap_setCell_other _ _ _ _ (Ne.symm hRY)
    have hP3 : W3.heap[P]? = W2.heap[P]? := by rw [← hWs]; exact heap_setCell_other _ _ _ _ hPR
    have F3 : Fr [R, Y, Bf, P] w W3 := by rw [← hWs]; exact H3.out.2.2.setCell (by simp) _
    have hbq := H3.out.1.buf q (by omega) (by omega)
    have hbb := H.out.1.at (c + (q - 0))
    generalize bs.getD (c + (q - 0)) 0 = b at hbq hbb
    obtain ⟨hb0, hb1⟩ := hbb
    have dB : W3.drew.cell? ⟨Bf, q, none⟩ = some (.int .u8 b) := cellAt (hB3.trans H3.out.1.hB) hbq
    have d0 : W3.drew.cell? ⟨R, 0, none⟩ = some (.slice (some ⟨Bf, 0, none⟩) 4096 4096) := cellAt hR3 rfl
    have d2 : W3.drew.cell? ⟨R, 2, none⟩ = some (.int .i64 ((q : Int) + 1)) := cellAt hR3 rfl
    have d5 : W3.drew.cell? ⟨R, 5, none⟩ = some (.int .i64 lb) := cellAt hR3 rfl
    have d6 : W3.cell? ⟨R, 6, none⟩ = some (.int .i64 lr) := cellAt hR3 rfl
    have f5 : W3.drew.frozen? ⟨R, 5, none⟩ = false := frozen_of_row _ _ _ _ _ hR3
    have f6 : W3.frozen? ⟨R, 6, none⟩ = false := frozen_of_row _ _ _ _ _ hR3
    have hq4 : q < 4096 := by omega
    have hq5 : (q : Int) < 4096 := by omega
    have H4 := Hid_mk (And.intro hR3 (And.intro hB3 (And.intro hY3 (And.intro hP3 (And.intro F3 hq)))))
    clear hR3 hB3 hY3 hP3 F3 hWs hbq g2 k2
  all_goals go_region
  all_goals go_wp2_with fail
  all_goals go_ret2
  all_goals
    refine Or.inr ⟨k, hk0, hkn, hck, rfl, ⟨0 + k, k0, i, b, -1, (-1), C2, H3.out.1.take hkw ?_ ?_ ?_⟩, ⟨laid cur cs, ?_, ?_, ?_⟩, ?_⟩
    · have s1 := heap_setCell_same W3 R 5 _ _ (.int .i64 b) H4.out.1
      show ((W3.setCell ⟨R, 5, none⟩ (.int .i64 b)).setCell ⟨R, 6, none⟩ (.int .i64 (-1))).heap[R]? = _
      rw [heap_setCell_same _ _ 6 _ _ _ s1, H4.out.2.2.2.2.2]
      simp
    · show ((W3.setCell ⟨R, 5, none⟩ (.int .i64 b)).setCell ⟨R, 6, none⟩ (.int .i64 (-1))).heap[Bf]? = _
      rw [heap_setCell_other _ _ _ _ (Ne.symm hRB), heap_setCell_other _ _ _ _ (Ne.symm hRB)]; exact H4.out.2.1
    · show ((W3.setCell ⟨R, 5, none⟩ (.int .i64 b)).setCell ⟨R, 6, none⟩ (.int .i64 (-1))).heap[Y]? = _
      rw [heap_setCell_other _ _ _ _ (Ne.symm hRY), heap_setCell_other _ _ _ _ (Ne.symm hRY)]; exact H4.out.2.2.1
    · show ((W3.setCell ⟨R, 5, none⟩ (.int .i64 b)).setCell ⟨R, 6, none⟩ (.int .i64 (-1))).heap[P]? = _
      rw [heap_setCell_other _ _ _ _ hPR, heap_setCell_other _ _ _ _ hPR]; exact H4.out.2.2.2.1.trans H3.out.2.1
    · exact laid_size (by have := H2.out.2.2.2.2.2; omega)
    · intro j hj
      exact laid_get (H1.out.2.1 j hj)
    · exact ((H4.out.2.2.2.2.1.setCell (by simp) _).setCell (by simp) _).drew
end Go.Proofs.YtnamkpkdkojhjaaDoor
