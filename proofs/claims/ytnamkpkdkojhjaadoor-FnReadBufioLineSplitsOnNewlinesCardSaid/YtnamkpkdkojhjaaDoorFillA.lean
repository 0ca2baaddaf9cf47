/- The first half of fill: the bytes that are left are moved to the buffer's head; the second half: one read of the source. -/
import Derived.Test.YtnamkpkdkojhjaaDoorFill
import Derived.StillTailTactics
import Derived.BigRegion
import Derived.Laws.CopyOwn
import Derived.Deep.Cut
namespace Go.Proofs.YtnamkpkdkojhjaaDoor
open Go.RowKit

def Mid (w : World) (R Bf Y : Nat) (sv : Value) (bs : List Int) (c u i : Nat) (lb lr pr : Int) (V : World) : Prop :=
  Fr [R, Y, Bf] w V ∧ ∃ C, Ln V R Bf Y sv bs c 0 u i lb lr pr C .nilIface

theorem mid_rel {w W2 : World} {R Bf Y : Nat} {sv : Value} {bs : List Int} {c r wp i u : Nat} {lb lr pr : Int} {C : Array Value} {cs : List Value} {v : Int} (hRB : R ≠ Bf) (hRY : R ≠ Y)
    (h : Ln w R Bf Y sv bs c r wp i lb lr pr C .nilIface) (hu : wp - r = u) (hu4 : u < 4096)
    (r2 : W2.heap[R]? = some (.cells #[.slice (some ⟨Bf, 0, none⟩) 4096 4096, .iface 35 (.pointer (some ⟨Y, 0, none⟩)), .int .i64 r, .int .i64 wp, .nilIface, .int .i64 lb, .int .i64 lr] 48 (0, 0)))
    (y2 : W2.heap[Y]? = w.heap[Y]?) (b2 : W2.heap[Bf]? = some (.cells (laid C cs) 5 (0, 0))) (F2 : Fr [R, Y, Bf] w W2) (hlen : cs.length = u)
    (hget : ∀ j, j < u → cs[j]? = some (.int .u8 (bs.getD (c + j) 0))) (hv : v = (wp : Int) - (r : Int)) :
    Mid w R Bf Y sv bs c u i lb lr pr ((W2.setCell ⟨R, 3, none⟩ (.int .i64 v)).setCell ⟨R, 2, none⟩ (.int .i64 0)).drew := by
  have s1 := heap_setCell_same W2 R 3 _ _ (.int .i64 v) r2
  have s2 := heap_setCell_same _ R 2 _ _ (.int .i64 0) s1
  have o2 : ∀ x : Nat, x ≠ R → ((W2.setCell ⟨R, 3, none⟩ (.int .i64 v)).setCell ⟨R, 2, none⟩ (.int .i64 0)).heap[x]? = W2.heap[x]? := fun x hx => by
    rw [heap_setCell_other _ _ _ _ hx, heap_setCell_other _ _ _ _ hx]
  have hrw := h.rw
  have hsz := h.size
  refine ⟨((F2.setCell (p := ⟨R, 3, none⟩) (by simp) _).setCell (p := ⟨R, 2, none⟩) (by simp) _).drew, laid C cs, ?_, ?_, ?_, ?_, Nat.zero_le _, by omega, by have := h.ci; omega, h.il, ?_⟩
  · show ((W2.setCell ⟨R, 3, none⟩ (.int .i64 v)).setCell ⟨R, 2, none⟩ (.int .i64 0)).heap[R]? = _
    rw [s2]
    have : v = (u : Int) := by omega
    rw [this]; simp
  · exact (o2 _ (Ne.symm hRB)).trans b2
  · rw [← hsz]; unfold laid; simp; omega
  · exact (o2 _ (Ne.symm hRY)).trans (y2.trans h.hY)
  · intro j h1 h2
    have e : (laid C cs)[j]? = cs[j]? := by
      unfold laid
      rw [List.getElem?_toArray, List.getElem?_append_left (by omega)]
    rw [e, hget j h2]
    congr 2

set_option maxRecDepth 100000 in
set_option maxHeartbeats 2000000 in
theorem fill_any (base R Bf Y : Nat) (sv : Value) (bs : List Int) (te : TypeId) (ae : Addr) (c r wp i u : Nat) (lb lr pr : Int) (C : Array Value) (w : World) (hs : Src base w sv bs (.iface te (.pointer (some ae)))) (h : Ln w R Bf Y sv bs c r wp i lb lr pr C .nilIface)
    (hu : wp - r = u) (hwp : u < 4096) (hSS : ∀ x, x ∈ [R, Y, Bf] → base ≤ x) :
    Calls Tryd.prog 28 #[.pointer (some ⟨R, 0, none⟩)] w (FillPost w R Bf Y sv bs c u i lb lr (.iface te (.pointer (some ae)))) := by
  have hRB := h.RB
  have hRY := h.RY
  have hYB := h.YB
  have hwl := h.wl
  have hrw := h.rw
  have hle : (wp : Int) ≤ 4096 := by omega
  have hle2 : r ≤ wp := hrw
  have e2 : w.cell? ⟨R, 2, none⟩ = some (.int .i64 r) := cellAt h.hR rfl
  have e3 : w.cell? ⟨R, 3, none⟩ = some (.int .i64 wp) := cellAt h.hR rfl
  have e0 : w.cell? ⟨R, 0, none⟩ = some (.slice (some ⟨Bf, 0, none⟩) 4096 4096) := cellAt h.hR rfl
  have H := Hid_mk (And.intro hs (And.intro h (And.intro hSS hu)))
  clear hs h hSS hu
  go_enter Tryd.func28, Tryd.ntmps28
  go_upto_if 9 with fail
  go_cut [] from 5 (fun wx => Mid w R Bf Y sv bs c u i lb lr pr wx)
  case first =>
    by_cases hr : 0 < r
    · have hr2 : (0 : Int) < (r : Int) := by omega
      by_cases hr4 : r = 4096
      · subst hr4
        have hwp4 : wp = 4096 := by omega
        subst hwp4
        have d0 : w.drew.cell? ⟨R, 0, none⟩ = some (.slice (some ⟨Bf, 0, none⟩) 4096 4096) := e0
        have d2 : w.drew.cell? ⟨R, 2, none⟩ = some (.int .i64 (4096 : Nat)) := e2
        have d3 : w.drew.cell? ⟨R, 3, none⟩ = some (.int .i64 (4096 : Nat)) := e3
        go_wp2_with fail
        go_still_tail 17, (by kernel_rfl)
        change wpList _ _ _ _ _ w.drew
        obtain ⟨cs, hcs⟩ : ∃ cs : List Value, cs = [] := ⟨_, rfl⟩
        have hsz := H.out.2.1.size
        have hu := H.out.2.2.2
        have hlen : cs.length = u := by rw [hcs]; simpa using hu
        have hget : ∀ j, j < u → cs[j]? = some (.int .u8 (bs.getD (c + j) 0)) := by
          intro j hj
          omega
        have hone : ∀ v ∈ cs, v.oneCell' = true := by
          intro v hv
          rw [hcs] at hv
          cases hv
        have hsrc : ∀ j v, cs[j]? = some v → w.drew.cell? ((⟨Bf, 0, none⟩ : Addr).add j) = some v := by
          intro j v hj
          rw [hcs] at hj
          simp at hj
        refine wpList_copy_own rfl (.tmp 13) (.tmp 26) 22 22 rfl 5 Tryd.underlying22 run_info5 Bf 0 4096 4096 ⟨Bf, 0, none⟩ 0 0 (by simp [Act.eval]) (by simp [Act.eval]) C 5 H.out.2.1.hB cs (by rw [hcs]; rfl) hsrc (by rw [hcs, hsz]; simp) hone ?_
        generalize hX : (List.take 0 C.toList ++ (cs ++ List.drop (0 + cs.length) C.toList)).toArray = X
        have hX2 : X = laid C cs := by rw [← hX]; simp [laid]
        generalize hWs : World.setRow w.drew Bf X = W2
        have r2 : W2.heap[R]? = some (.cells #[.slice (some ⟨Bf, 0, none⟩) 4096 4096, .iface 35 (.pointer (some ⟨Y, 0, none⟩)), .int .i64 (4096 : Nat), .int .i64 (4096 : Nat), .nilIface, .int .i64 lb, .int .i64 lr] 48 (0, 0)) := by rw [← hWs]; exact (setRow_other _ _ _ _ hRB).trans H.out.2.1.hR
        have y2 : W2.heap[Y]? = w.heap[Y]? := by rw [← hWs]; exact setRow_other _ _ _ _ hYB
        have b2 : W2.heap[Bf]? = some (.cells (laid C cs) 5 (0, 0)) := by rw [← hWs, ← hX2]; exact setRow_heap _ _ _ _ _ _ H.out.2.1.hB
        have F2 : Fr [R, Y, Bf] w W2 := by rw [← hWs]; exact (Fr.refl _ _).drew.setRow (by simp) _
        have g2 : W2.drew.cell? ⟨R, 2, none⟩ = some (.int .i64 (4096 : Nat)) := cellAt r2 rfl
        have g3 : W2.drew.cell? ⟨R, 3, none⟩ = some (.int .i64 (4096 : Nat)) := cellAt r2 rfl
        have k3 : W2.drew.frozen? ⟨R, 3, none⟩ = false := frozen_of_row _ _ _ _ _ r2
        have g2' : W2.cell? ⟨R, 2, none⟩ = some (.int .i64 (4096 : Nat)) := cellAt r2 rfl
        have g3' : W2.cell? ⟨R, 3, none⟩ = some (.int .i64 (4096 : Nat)) := cellAt r2 rfl
        have k2' : W2.frozen? ⟨R, 2, none⟩ = false := frozen_of_row _ _ _ _ _ r2
        have k3' : W2.frozen? ⟨R, 3, none⟩ = false := frozen_of_row _ _ _ _ _ r2
        have H2 := Hid_mk (And.intro r2 (And.intro y2 (And.intro b2 (And.intro F2 (And.intro hlen (And.intro hget hsz))))))
        clear r2 y2 b2 F2 hlen hget hsz hone hsrc hX hX2 hWs hcs d0 d2 d3 e0 e2 e3 hu
        go_wp2_with fail
        go_still_tail 11, (by kernel_rfl)
        go_wp2_with fail
        go_meet
        case rel => exact mid_rel hRB hRY H.out.2.1 H.out.2.2.2 hwp H2.out.1 H2.out.2.1 H2.out.2.2.1 H2.out.2.2.2.1 H2.out.2.2.2.2.1 H2.out.2.2.2.2.2.1 (show (0 : Int) = _ from rfl)
      · have hr5 : ¬ 4096 = r := by omega
        have d0 : w.drew.cell? ⟨R, 0, none⟩ = some (.slice (some ⟨Bf, 0, none⟩) 4096 4096) := e0
        have d2 : w.drew.cell? ⟨R, 2, none⟩ = some (.int .i64 r) := e2
        have d3 : w.drew.cell? ⟨R, 3, none⟩ = some (.int .i64 wp) := e3
        go_wp2_with fail
        go_still_tail 17, (by kernel_rfl)
        change wpList _ _ _ _ _ w.drew
        obtain ⟨cs, hcs⟩ : ∃ cs, cs = (C.toList.drop r).take u := ⟨_, rfl⟩
        have hsz := H.out.2.1.size
        have hu := H.out.2.2.2
        have hlen : cs.length = u := by rw [hcs]; simp; omega
        have hget : ∀ j, j < u → cs[j]? = some (.int .u8 (bs.getD (c + j) 0)) := by
          intro j hj
          have := H.out.2.1.buf (r + j) (by omega) (by omega)
          rw [show c + (r + j - r) = c + j by omega] at this
          rw [hcs, List.getElem?_take, if_pos hj, List.getElem?_drop]
          simpa using this
        have hone : ∀ v ∈ cs, v.oneCell' = true := by
          intro v hv
          obtain ⟨j, hj⟩ := List.mem_iff_getElem?.1 hv
          have hju : j < u := by rw [← hlen]; exact (List.getElem?_eq_some_iff.1 hj).1
          rw [hget j hju] at hj
          cases hj
          rfl
        have hsrc : ∀ j v, cs[j]? = some v → w.drew.cell? ((⟨Bf, r, none⟩ : Addr).add j) = some v := by
          intro j v hj
          have hju : j < u := by rw [← hlen]; exact (List.getElem?_eq_some_iff.1 hj).1
          rw [Addr.add_lit]
          have := H.out.2.1.buf (r + j) (by omega) (by omega)
          rw [show c + (r + j - r) = c + j by omega, ← hget j hju, hj] at this
          exact cellAt H.out.2.1.hB this
        refine wpList_copy_own rfl (.tmp 13) (.tmp 26) 22 22 rfl 5 Tryd.underlying22 run_info5 Bf 0 4096 4096 ⟨Bf, r, none⟩ (wp - r) (4096 - r) (by simp [Act.eval]) (by simp [Act.eval]) C 5 H.out.2.1.hB cs (by rw [hlen, hu]; exact (Nat.min_eq_left (by omega)).symm) hsrc (by rw [hlen, hsz]; omega) hone ?_
        generalize hX : (List.take 0 C.toList ++ (cs ++ List.drop (0 + cs.length) C.toList)).toArray = X
        have hX2 : X = laid C cs := by rw [← hX]; simp [laid]
        generalize hWs : World.setRow w.drew Bf X = W2
        have r2 : W2.heap[R]? = some (.cells #[.slice (some ⟨Bf, 0, none⟩) 4096 4096, .iface 35 (.pointer (some ⟨Y, 0, none⟩)), .int .i64 r, .int .i64 wp, .nilIface, .int .i64 lb, .int .i64 lr] 48 (0, 0)) := by rw [← hWs]; exact (setRow_other _ _ _ _ hRB).trans H.out.2.1.hR
        have y2 : W2.heap[Y]? = w.heap[Y]? := by rw [← hWs]; exact setRow_other _ _ _ _ hYB
        have b2 : W2.heap[Bf]? = some (.cells (laid C cs) 5 (0, 0)) := by rw [← hWs, ← hX2]; exact setRow_heap _ _ _ _ _ _ H.out.2.1.hB
        have F2 : Fr [R, Y, Bf] w W2 := by rw [← hWs]; exact (Fr.refl _ _).drew.setRow (by simp) _
        have g2 : W2.drew.cell? ⟨R, 2, none⟩ = some (.int .i64 r) := cellAt r2 rfl
        have g3 : W2.drew.cell? ⟨R, 3, none⟩ = some (.int .i64 wp) := cellAt r2 rfl
        have k3 : W2.drew.frozen? ⟨R, 3, none⟩ = false := frozen_of_row _ _ _ _ _ r2
        have g2' : W2.cell? ⟨R, 2, none⟩ = some (.int .i64 r) := cellAt r2 rfl
        have g3' : W2.cell? ⟨R, 3, none⟩ = some (.int .i64 wp) := cellAt r2 rfl
        have k2' : W2.frozen? ⟨R, 2, none⟩ = false := frozen_of_row _ _ _ _ _ r2
        have k3' : W2.frozen? ⟨R, 3, none⟩ = false := frozen_of_row _ _ _ _ _ r2
        have H2 := Hid_mk (And.intro r2 (And.intro y2 (And.intro b2 (And.intro F2 (And.intro hlen (And.intro hget hsz))))))
        clear r2 y2 b2 F2 hlen hget hsz hone hsrc hX hX2 hWs hcs d0 d2 d3 e0 e2 e3 hu
        go_wp2_with fail
        go_still_tail 11, (by kernel_rfl)
        go_wp2_with fail
        go_meet
        case rel => exact mid_rel hRB hRY H.out.2.1 H.out.2.2.2 hwp H2.out.1 H2.out.2.1 H2.out.2.2.1 H2.out.2.2.2.1 H2.out.2.2.2.2.1 H2.out.2.2.2.2.2.1 rfl
    · have hr0 : r = 0 := by omega
      subst hr0
      go_wp2_with fail
      go_meet
      case rel => exact ⟨(Fr.refl _ _), C, by have hu := H.out.2.2.2; simp at hu; subst hu; exact H.out.2.1.heap rfl rfl rfl⟩
  case rest =>
    obtain ⟨FV, D, HV⟩ := hcut
    clear e0 e2 e3 hle hle2 hwl hrw
    have hwp2 : (u : Int) < 4096 := by omega
    have hwp3 : ¬ 4096 = u := by omega
    have hwp4 : u ≤ 4096 := by omega
    have hwp5 : (u : Int) ≤ 4096 := by omega
    have hmeth := meth_read Y
    have e3 : wc.cell? ⟨R, 3, none⟩ = some (.int .i64 u) := cellAt HV.hR rfl
    have e0 : wc.cell? ⟨R, 0, none⟩ = some (.slice (some ⟨Bf, 0, none⟩) 4096 4096) := cellAt HV.hR rfl
    have SV : Src base wc sv bs (.iface te (.pointer (some ae))) := H.out.1.below (FV.below H.out.1.top H.out.2.2.1)
    have HA0 := Hid_mk (And.intro HV (And.intro FV SV))
    clear HV FV SV
    go_wp2_with fail
    go_quiet (fail)
    go_wp2_with fail
    generalize hW : World.drewN wc _ = V
    have HV : Ln V R Bf Y sv bs c 0 u i lb lr pr D .nilIface := by rw [← hW]; exact HA0.out.1.heap rfl rfl rfl
    have FV : Fr [R, Y, Bf] w V := by rw [← hW]; exact HA0.out.2.1.drewN _
    have SV : Src base V sv bs (.iface te (.pointer (some ae))) := H.out.1.below (FV.below H.out.1.top H.out.2.2.1)
    have HA := Hid_mk (And.intro HV (And.intro FV SV))
    clear hW HV FV SV e0 e3 HA0
    by_cases hi : i = bs.length
    · have hsv : ∃ sa, sv = .slice sa bs.length bs.length := by
        rcases H.out.1.src with ⟨h1, h2⟩ | ⟨Sb, h1, _, _⟩
        · subst h2; exact ⟨_, h1⟩
        · exact ⟨_, h1⟩
      obtain ⟨sa, hsa⟩ := hsv
      have HI := Hid_mk (And.intro hi hsa)
      clear hi hsa
      go_loopg [2] 1 (fun gk v wr => gk = 1 ∧ v = .int .i64 100 ∧ wr = V)
      case atStart => exact ⟨rfl, rfl, rfl⟩
      case round =>
        obtain ⟨hgk, rfl, hVV⟩ := hrel
        rw [hVV]
        clear hVV
        go_wp2_with fail
        have hbr := bread_end_v Y i sa bs.length bs.length (.slice (some ⟨Bf, u, none⟩) (4096 - u) (4096 - u)) (.iface te (.pointer (some ae))) V.drew (Nat.le_of_eq HI.out.1.symm) (cellAt HA.out.1.hY (by rw [HI.out.2]; rfl)) (cellAt HA.out.1.hY rfl) HA.out.2.2.eofc
        have hS1 : ∀ W1 : World, W1.heap = V.drew.heap → W1.cell? ⟨R, 0, none⟩ = some (.slice (some ⟨Bf, 0, none⟩) 4096 4096) ∧ W1.cell? ⟨R, 1, none⟩ = some (.iface 35 (.pointer (some ⟨Y, 0, none⟩))) ∧ W1.cell? ⟨R, 3, none⟩ = some (.int .i64 u) ∧ W1.cell? ⟨R, 4, none⟩ = some .nilIface ∧ W1.frozen? ⟨R, 3, none⟩ = false ∧ W1.frozen? ⟨R, 4, none⟩ = false := by
          intro W1 h
          have h2 : W1.heap[R]? = _ := (congrArg (fun x : Array Obj => x[R]?) h).trans HA.out.1.hR
          exact ⟨cellAt h2 rfl, cellAt h2 rfl, cellAt h2 rfl, cellAt h2 rfl, frozen_of_row _ _ _ _ _ h2, frozen_of_row _ _ _ _ _ h2⟩
        obtain ⟨d0, d1, d3, _, _, _⟩ := hS1 V.drew rfl
        have HU := Hid_mk (And.intro hbr hS1)
        clear hbr hS1
        go_region_held3 (fun w' => w'.cell? ⟨R, 0, none⟩ = some (.slice (some ⟨Bf, 0, none⟩) 4096 4096) ∧ w'.cell? ⟨R, 1, none⟩ = some (.iface 35 (.pointer (some ⟨Y, 0, none⟩))) ∧ w'.cell? ⟨R, 3, none⟩ = some (.int .i64 u)) (first | go_keep | exact ⟨(HU.out.2 _ (by assumption)).1, (HU.out.2 _ (by assumption)).2.1, (HU.out.2 _ (by assumption)).2.2.1⟩ | fail) (first | (go_at_call 46; refine HU.out.1.mono ?_; rintro e W1 ⟨rfl, hheap, hfr⟩; obtain ⟨d40, d41, d43, d44, f43, f44⟩ := HU.out.2 _ hheap))
        all_goals go_wp2_with fail
        have s1 := heap_setCell_same W1 R 3 _ _ (.int .i64 (u : Int)) (by rw [hheap]; exact HA.out.1.hR)
        have s2 := heap_setCell_same _ R 4 _ _ (.iface te (.pointer (some ae))) s1
        have o2 : ∀ x : Nat, x ≠ R → ((W1.setCell ⟨R, 3, none⟩ (.int .i64 (u : Int))).setCell ⟨R, 4, none⟩ (.iface te (.pointer (some ae)))).heap[x]? = V.heap[x]? := fun x hx => by
          rw [heap_setCell_other _ _ _ _ hx, heap_setCell_other _ _ _ _ hx, hheap]; rfl
        have F1 : Fr [R, Y, Bf] w W1 := HA.out.2.1.drew.trans (hfr.mono (fun x hx => by cases hx))
        have F2 := (F1.setCell (p := ⟨R, 3, none⟩) (by simp) (.int .i64 (u : Int))).setCell (p := ⟨R, 4, none⟩) (by simp) (.iface te (.pointer (some ae)))
        go_end0
        refine ⟨rfl, F2, .inl ⟨HI.out.1, pr, D, ?_, ?_, HA.out.1.size, ?_, HA.out.1.rw, HA.out.1.wl, HA.out.1.ci, HA.out.1.il, HA.out.1.buf⟩⟩
        · rw [s2]; simp
        · exact (o2 _ (Ne.symm hRB)).trans HA.out.1.hB
        · exact (o2 _ (Ne.symm hRY)).trans HA.out.1.hY
    · have hil := HA.out.1.il
      have hi : i < bs.length := by omega
      obtain ⟨Sb, hsv, hS0, hSlt⟩ : ∃ Sb, sv = .slice (some ⟨Sb, 0, none⟩) bs.length bs.length ∧ w.heap[Sb]? = some (.cells (bs.map (Value.int .u8)).toArray 5 (0, 0)) ∧ Sb < base := by
        rcases H.out.1.src with ⟨h1, h2⟩ | ⟨Sb, h1, h2, h3⟩
        · subst h2; simp at hi
        · exact ⟨Sb, h1, h2, h3⟩
      have HS0 := Hid_mk (And.intro hS0 (And.intro hSlt hsv))
      clear hS0 hSlt hsv
      go_loopg [2] 1 (fun gk v wr => gk = 1 ∧ v = .int .i64 100 ∧ wr = V)
      case atStart => exact ⟨rfl, rfl, rfl⟩
      case round =>
        obtain ⟨hgk, rfl, hVV⟩ := hrel
        rw [hVV]
        clear hVV
        go_wp2_with fail
        have hSV : V.heap[Sb]? = some (.cells (bs.map (Value.int .u8)).toArray 5 (0, 0)) := by
          refine HA.out.2.1.at HS0.out.1 (fun hm => ?_)
          have := H.out.2.2.1 Sb hm
          have := HS0.out.2.1
          omega
        have hbr := bread_at Y Bf i (4096 - u) (4096 - u) bs.length Sb u bs pr D V.drew hi HA.out.2.2.len (by omega) (by omega) (by rw [HA.out.1.size]; omega) rfl (by have hq := HA.out.1.hY; rw [HS0.out.2.2] at hq; exact hq) HA.out.1.hB hSV
        have hS1 : ∀ W1 : World, Fr [Y, Bf] V.drew W1 → W1.cell? ⟨R, 0, none⟩ = some (.slice (some ⟨Bf, 0, none⟩) 4096 4096) ∧ W1.cell? ⟨R, 1, none⟩ = some (.iface 35 (.pointer (some ⟨Y, 0, none⟩))) ∧ W1.cell? ⟨R, 3, none⟩ = some (.int .i64 u) ∧ W1.cell? ⟨R, 4, none⟩ = some .nilIface ∧ W1.frozen? ⟨R, 3, none⟩ = false ∧ W1.frozen? ⟨R, 4, none⟩ = false := by
          intro W1 h
          have h2 : W1.heap[R]? = _ := h.at HA.out.1.hR (by simp; exact ⟨hRY, hRB⟩)
          exact ⟨cellAt h2 rfl, cellAt h2 rfl, cellAt h2 rfl, cellAt h2 rfl, frozen_of_row _ _ _ _ _ h2, frozen_of_row _ _ _ _ _ h2⟩
        obtain ⟨d0, d1, d3, _, _, _⟩ := hS1 V.drew (Fr.refl _ _)
        have HU := Hid_mk (And.intro hbr hS1)
        clear hbr hS1 hSV
        go_region_held3 (fun w' => w'.cell? ⟨R, 0, none⟩ = some (.slice (some ⟨Bf, 0, none⟩) 4096 4096) ∧ w'.cell? ⟨R, 1, none⟩ = some (.iface 35 (.pointer (some ⟨Y, 0, none⟩))) ∧ w'.cell? ⟨R, 3, none⟩ = some (.int .i64 u)) (first | go_keep | exact ⟨(HU.out.2 _ (by assumption)).1, (HU.out.2 _ (by assumption)).2.1, (HU.out.2 _ (by assumption)).2.2.1⟩ | fail) (first | (go_at_call 46; refine HU.out.1.mono ?_; rintro e W1 ⟨k, hkd, rfl, hY1, hB1, hfr⟩; have HKD := Hid_mk hkd; clear hkd; obtain ⟨d40, d41, d43, d44, f43, f44⟩ := HU.out.2 _ hfr))
        have hk0 : 0 < k := by have := HKD.out; omega
        have hk1 : u + k ≤ 4096 := by have := HKD.out; omega
        have hik : i + k ≤ bs.length := by have := HKD.out; omega
        go_wp2_with fail
        have s1 := heap_setCell_same W1 R 3 _ _ (.int .i64 ((u : Int) + (k : Int))) (hfr.at HA.out.1.hR (by simp; exact ⟨hRY, hRB⟩))
        have o2 : ∀ x : Nat, x ≠ R → (W1.setCell ⟨R, 3, none⟩ (.int .i64 ((u : Int) + (k : Int)))).heap[x]? = W1.heap[x]? := fun x hx => heap_setCell_other _ _ _ _ hx
        have F1 : Fr [R, Y, Bf] w W1 := HA.out.2.1.drew.trans (hfr.mono (fun x hx => by simp at hx ⊢; rcases hx with h | h <;> simp [h]))
        have F2 := F1.setCell (p := ⟨R, 3, none⟩) (by simp) (.int .i64 ((u : Int) + (k : Int)))
        have hlen := seg_length hik
        have hsz := HA.out.1.size
        go_end0
        refine ⟨rfl, F2, .inr ⟨k, -1, laidAt D u (seg bs i k), hk0, hik, ?_, (o2 _ (Ne.symm hRB)).trans hB1, by rw [laidAt_size (by omega)]; exact hsz, ?_, Nat.zero_le _, by omega, by have := HA.out.1.ci; omega, hik, ?_⟩⟩
        · rw [s1]; simp
        · rw [o2 _ (Ne.symm hRY), hY1, HS0.out.2.2]
        · intro j h1 h2
          by_cases hj : j < u
          · rw [laidAt_ahead (by omega) hj]
            exact HA.out.1.buf j h1 hj
          · obtain ⟨t, rfl⟩ : ∃ t, j = u + t := ⟨j - u, by omega⟩
            have hci := HA.out.1.ci
            rw [laidAt_in (by omega) (seg_get hik (show t < k by omega)), show i + t = c + (u + t - 0) by omega]
end Go.Proofs.YtnamkpkdkojhjaaDoor
