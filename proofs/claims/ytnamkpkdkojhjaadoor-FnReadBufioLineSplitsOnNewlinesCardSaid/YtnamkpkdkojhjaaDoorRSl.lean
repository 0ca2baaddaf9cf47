/- The contract of the buffered reader's ReadSlice for a line's end. -/
import Derived.Test.YtnamkpkdkojhjaaDoorSlState
import Derived.Deep.Cut
import Derived.Deep.CutBlock
import Derived.Deep.DeepCutAuto
import Derived.IntWalk
namespace Go.Proofs.YtnamkpkdkojhjaaDoor
open Go.RowKit

set_option maxRecDepth 100000 in
set_option maxHeartbeats 2000000 in
theorem slice_any (base R Bf Y : Nat) (sv : Value) (bs : List Int) (ae af : Addr) (c r wp i : Nat) (lb lr pr : Int) (C : Array Value) (w : World) (hs : Src base w sv bs (.iface 55 (.pointer (some ae)))) (hn : Sen base w ae af)
    (h : Ln w R Bf Y sv bs c r wp i lb lr pr C .nilIface) (hSS : ∀ x, x ∈ [R, Y, Bf] → base ≤ x) :
    Calls Tryd.prog 26 #[.pointer (some ⟨R, 0, none⟩), .int .u8 10] w (SlPost w R Bf Y sv bs c (.iface 55 (.pointer (some ae))) (.iface 55 (.pointer (some af)))) := by
  have hbyte := hs.at
  have H := Hid_mk (And.intro hs (And.intro hn (And.intro h (And.intro hSS hbyte))))
  clear hs hn h hSS hbyte
  go_enter Tryd.func26, Tryd.ntmps26
  go_upto_block 0 with fail
  go_cut [4, 5] (fun v4 v5 wx => SlMid w R Bf Y sv bs c lb lr (.iface 55 (.pointer (some ae))) (.iface 55 (.pointer (some af))) v4 v5 wx)
  case first =>
    go_wp2_with fail
    go_loopg [4, 5, 6] (2 * (bs.length - i) + 1) (fun gk v4 v5 v6 wr => SlRel w R Bf Y sv bs c lb lr (.iface 55 (.pointer (some ae))) gk v5 v6 wr)
    case atStart =>
      have hL := H.out.2.2.1
      have h1 := hL.rw
      have h2 := hL.wl
      exact ⟨rfl, Fr.refl _ _, 0, r, wp, i, pr, C, .nilIface, rfl, hL, Nat.zero_le _, fun j hj => by omega, .inl ⟨rfl, rfl, by omega⟩⟩
    case round =>
      obtain ⟨rfl, hF, s, r1, wp1, i1, pr1, C1, ev, rfl, hL, hsw, hno, hcase⟩ := hrel
      have hRB := hL.RB
      have hRY := hL.RY
      have hrw := hL.rw
      have hwl := hL.wl
      have d0 : wr.cell? ⟨R, 0, none⟩ = some (.slice (some ⟨Bf, 0, none⟩) 4096 4096) := cellAt hL.hR rfl
      have d2 : wr.cell? ⟨R, 2, none⟩ = some (.int .i64 r1) := cellAt hL.hR rfl
      have d3 : wr.cell? ⟨R, 3, none⟩ = some (.int .i64 wp1) := cellAt hL.hR rfl
      have f2 : wr.frozen? ⟨R, 2, none⟩ = false := frozen_of_row _ _ _ _ _ hL.hR
      have d4 : wr.cell? ⟨R, 4, none⟩ = some ev := cellAt hL.hR rfl
      rcases hcase with ⟨rfl, hgk, hrs⟩ | ⟨rfl, hgk, hi, rfl, rfl, hw4⟩
      · by_cases hr4 : r1 = 4096
        · obtain rfl : s = 0 := by omega
          subst hr4
          obtain rfl : wp1 = 4096 := by omega
          have hx : ∀ q, Calls Tryd.prog 27 #[.slice (some ⟨Bf, 0, none⟩) 0 0, .int .u8 10] (wr.drewN q) fun e w' => e = .returned (.int .i64 (-1)) ∧ w' = wr.drewN q := fun q =>
            idx_val Bf 0 0 0 [] (-1) (wr.drewN q) rfl (fun i hi => by omega) rfl
          have hbf : ∀ q, Calls Tryd.prog 24 #[.pointer (some ⟨R, 0, none⟩)] (wr.drewN q) fun e w' => e = .returned (.int .i64 0) ∧ ∃ n, w' = (wr.drewN q).drewN n := fun q =>
            buffered_any R 4096 4096 _ (wr.drewN q) hL.hR rfl rfl hrw hwl
          have hs0 : Src base wr sv bs (.iface 55 (.pointer (some ae))) := H.out.1.below (hF.below H.out.1.top H.out.2.2.2.1)
          have hfl : ∀ q, Calls Tryd.prog 28 #[.pointer (some ⟨R, 0, none⟩)] (wr.drewN q) (FillPost (wr.drewN q) R Bf Y sv bs c 0 i1 lb lr (.iface 55 (.pointer (some ae)))) := fun q =>
            fill_any base R Bf Y sv bs 55 ae c 4096 4096 i1 0 lb lr pr1 C1 (wr.drewN q) (hs0.below ((Fr.refl [] wr).drewN q |>.below hs0.top (fun s hs => by cases hs))) (hL.heap rfl rfl rfl) rfl (by omega) H.out.2.2.2.1
          have HR := Hid_mk (And.intro hF (And.intro hL (And.intro hgk (And.intro hx (And.intro hbf hfl)))))
          clear hF hL hno hgk hx hsw hrw hwl hbf hrs hfl hs0
          go_wp2_with fail
          go_quiet ((go_at_call 27; exact Calls.quiet_of_same (HR.out.2.2.2.1 _)))
          go_wp2_with fail
          go_quiet ((go_at_call 24; exact quiet_on HR.out.2.2.2.2.1))
          go_wp2_with fail
          go_quiet (fail)
          go_wp2_with fail
          refine (HR.out.2.2.2.2.2 _).mono ?_
          rintro e W2 ⟨rfl, hF2, hc2⟩
          have hF3 : Fr [R, Y, Bf] w W2 := (HR.out.1.drewN _).trans hF2
          rcases hc2 with ⟨hi2, pr2, C2, hL2⟩ | ⟨k, pr2, C2, hk0, hk1, hL2⟩
          · have HZ := Hid_mk (And.intro hF3 (And.intro hi2 hL2))
            clear hF3 hi2 hL2 hF2
            go_wp2_with fail
            go_roundg 0
            case rel => exact ⟨rfl, HZ.out.1, 0, 0, 0, i1, pr2, C2, _, rfl, HZ.out.2.2, by omega, fun j hj => by omega, .inr ⟨rfl, rfl, HZ.out.2.1, rfl, rfl, by omega⟩⟩
            case measure => have h1 := HR.out.2.2.1; omega
          · have HZ := Hid_mk (And.intro hF3 (And.intro hk0 (And.intro hk1 hL2)))
            clear hF3 hk0 hk1 hL2 hF2
            go_wp2_with fail
            go_roundg (2 * (bs.length - (i1 + k)) + 1)
            case rel => exact ⟨rfl, HZ.out.1, 0, 0, 0 + k, i1 + k, pr2, C2, _, rfl, HZ.out.2.2.2, by omega, fun j hj => by omega, .inl ⟨rfl, rfl, .inl (by omega)⟩⟩
            case measure => have h1 := HR.out.2.2.1; have h2 := HZ.out.2.1; have h3 := HZ.out.2.2.1; omega
        · have hci := hL.ci
          have hil := hL.il
          obtain ⟨t, ht⟩ : ∃ t, t = r1 + s := ⟨_, rfl⟩
          have ht4 : t < 4096 := by omega
          have htw : t ≤ wp1 := by omega
          obtain ⟨xs, hxs⟩ : ∃ xs, xs = (bs.drop (c + s)).take (wp1 - t) := ⟨_, rfl⟩
          have hxl : xs.length = wp1 - t := by rw [hxs]; simp; omega
          have hxg : ∀ j, j < wp1 - t → xs.getD j 0 = bs.getD (c + (s + j)) 0 := by
            intro j hj
            rw [hxs, List.getD_eq_getElem?_getD, List.getD_eq_getElem?_getD, List.getElem?_take, if_pos hj, List.getElem?_drop]
            congr 2
            omega
          have hxc : ∀ q i, i < wp1 - t → (wr.drewN q).cell? ⟨Bf, t + i, none⟩ = some (.int .u8 (xs.getD i 0)) := by
            intro q i hi
            rw [hxg i hi]
            have := hL.buf (t + i) (by omega) (by omega)
            rw [show c + (t + i - r1) = c + (s + i) by omega] at this
            exact cellAt hL.hB this
          have hsay := idx_says xs (fun z hz => by
            rw [hxs] at hz
            exact (H.out.1.byte z (List.mem_of_mem_drop (List.mem_of_mem_take hz))))
          obtain ⟨rv, hrv⟩ : ∃ rv, Lib.indexByte (Lib.bytesOf xs) (10 : Int).toNat.toUInt8 = rv := ⟨_, rfl⟩
          rw [hrv] at hsay
          have hx : ∀ q, Calls Tryd.prog 27 #[.slice (some ⟨Bf, t, none⟩) (wp1 - t) (4096 - t), .int .u8 10] (wr.drewN q) fun e w' => e = .returned (.int .i64 rv) ∧ w' = wr.drewN q := fun q =>
            idx_val Bf t (wp1 - t) (4096 - t) xs rv (wr.drewN q) hxl (hxc q) hrv
          have hwr : IntKind.i64.wrap ((r1 : Int) + (s : Int)) = (t : Int) := by rw [IntWalk.i64_in _ (by omega)]; omega
          have ht5 : ¬ 4096 = t := by omega
          have hwp5 : (wp1 : Int) ≤ 4096 := by omega
          have htw2 : (t : Int) ≤ (wp1 : Int) := by omega
          rcases hsay with ⟨k, rfl, hk1, hk2, hk3⟩ | ⟨rfl, hk3⟩
          · have hkb : t + k < wp1 := by omega
            obtain ⟨q, hq⟩ : ∃ q, q = k + s := ⟨_, rfl⟩
            obtain ⟨z, hz⟩ : ∃ z, z = r1 + q + 1 := ⟨_, rfl⟩
            have hfound : bs.getD (c + q) 0 = 10 := by rw [← hk2, hxg k (by omega), hq, Nat.add_comm k s]
            have hbefore : ∀ j, j < q → bs.getD (c + j) 0 ≠ 10 := by
              intro j hj
              by_cases hjs : j < s
              · exact hno j hjs
              · have := hk3 (j - s) (by omega)
                rw [hxg _ (by omega), show s + (j - s) = j by omega] at this
                exact this
            have hr5 : ¬ 4096 = r1 := by omega
            have hq1 : (k : Int) + (s : Int) = (q : Int) := by omega
            have hq2 : IntKind.i64.wrap ((r1 : Int) + (q : Int)) = (r1 : Int) + (q : Int) := IntWalk.i64_in _ (by omega)
            have hq3 : IntKind.i64.wrap ((r1 : Int) + (q : Int) + 1) = (z : Int) := by rw [IntWalk.i64_in _ (by omega)]; omega
            have hz1 : r1 ≤ z := by omega
            have hz2 : z ≤ 4096 := by omega
            have hz3 : (z : Int) ≤ 4096 := by omega
            have hz4 : (r1 : Int) ≤ (z : Int) := by omega
            have hq4 : (q : Int) ≤ 4096 := by omega
            have hr6 : (r1 : Int) ≤ 4096 := by omega
            have HR := Hid_mk (And.intro hF (And.intro hL (And.intro hno (And.intro hfound (And.intro hbefore (And.intro hz (And.intro ht hx)))))))
            have HN := Hid_mk (show q + r1 + 1 ≤ wp1 ∧ c + q + 1 ≤ bs.length by omega)
            clear hF hL hno hgk hx hsw hrw hwl hci hil ht hxs hxl hxg hxc hrv hk1 hk2 hk3 hkb hq hz hfound hbefore hrs
            go_wp2_with fail
            go_quiet ((go_at_call 27; exact Calls.quiet_of_same (HR.out.2.2.2.2.2.2.2 _)))
            go_wp2_with fail
            go_quiet (fail)
            go_wp2_with fail
            go_meet
            case rel => exact sl_found (HR.out.1.drewN _) (HR.out.2.1.heap rfl rfl rfl) HR.out.2.2.2.2.2.1 rfl HN.out.1 HN.out.2 HR.out.2.2.2.1 HR.out.2.2.2.2.1
          · have hall : ∀ j, j < wp1 - r1 → bs.getD (c + j) 0 ≠ 10 := by
              intro j hj
              by_cases hjs : j < s
              · exact hno j hjs
              · have := hk3 (j - s) (by omega)
                rw [hxg _ (by omega), show s + (j - s) = j by omega] at this
                exact this
            obtain ⟨u, hu⟩ : ∃ u, u = wp1 - r1 := ⟨_, rfl⟩
            have hbf : ∀ q, Calls Tryd.prog 24 #[.pointer (some ⟨R, 0, none⟩)] (wr.drewN q) fun e w' => e = .returned (.int .i64 (u : Int)) ∧ ∃ n, w' = (wr.drewN q).drewN n := fun q => by
              rw [hu]; exact buffered_any R r1 wp1 _ (wr.drewN q) hL.hR rfl rfl hrw hwl
            by_cases hu4 : u = 4096
            · have hb : (4096 : Int) ≤ (u : Int) := by omega
              have hR2 : R ≠ 2 := by
                have h1 := H.out.2.2.2.1 R (by simp)
                have h2 := H.out.2.1.two
                omega
              have hR3 : 2 ≠ R := Ne.symm hR2
              have hful : wr.cell? ⟨2, 0, none⟩ = some (.iface 55 (.pointer (some af))) := (H.out.2.1.below (hF.below H.out.1.top H.out.2.2.2.1)).full
              have HR := Hid_mk (And.intro hF (And.intro hL (And.intro hall (And.intro hu (And.intro hu4 (And.intro hx hbf))))))
              clear hF hL hno hgk hx hsw hrw hwl hci hil ht hxs hxl hxg hxc hrv hk3 hall hu hu4 hbf hrs
              go_wp2_with fail
              go_quiet ((go_at_call 27; exact Calls.quiet_of_same (HR.out.2.2.2.2.2.1 _)))
              go_wp2_with fail
              go_quiet ((go_at_call 24; exact quiet_on HR.out.2.2.2.2.2.2))
              go_wp2_with fail
              go_meet
              case rel => exact sl_full (HR.out.1.drewN _) (HR.out.2.1.heap rfl rfl rfl) (by have h1 := HR.out.2.2.2.1; have h2 := HR.out.2.2.2.2.1; omega) (by have h1 := HR.out.2.2.2.1; have h2 := HR.out.2.2.2.2.1; intro j hj; exact HR.out.2.2.1 j (by omega))
            · have hb : (u : Int) < 4096 := by omega
              have hs0 : Src base wr sv bs (.iface 55 (.pointer (some ae))) := H.out.1.below (hF.below H.out.1.top H.out.2.2.2.1)
              have hfl : ∀ q, Calls Tryd.prog 28 #[.pointer (some ⟨R, 0, none⟩)] (wr.drewN q) (FillPost (wr.drewN q) R Bf Y sv bs c u i1 lb lr (.iface 55 (.pointer (some ae)))) := fun q =>
                fill_any base R Bf Y sv bs 55 ae c r1 wp1 i1 u lb lr pr1 C1 (wr.drewN q) (hs0.below ((Fr.refl [] wr).drewN q |>.below hs0.top (fun s hs => by cases hs))) (hL.heap rfl rfl rfl) hu.symm (by omega) H.out.2.2.2.1
              have hwu : IntKind.i64.wrap ((wp1 : Int) - (r1 : Int)) = (u : Int) := by rw [IntWalk.i64_in _ (by omega)]; omega
              have HR := Hid_mk (And.intro hF (And.intro hL (And.intro hall (And.intro hu (And.intro hgk (And.intro hx (And.intro hbf hfl)))))))
              have HI := Hid_mk (And.intro hci hil)
              clear hF hL hno hgk hx hsw hrw hwl hci hil ht hxs hxl hxg hxc hrv hk3 hall hu hbf hrs hfl hs0
              go_wp2_with fail
              go_quiet ((go_at_call 27; exact Calls.quiet_of_same (HR.out.2.2.2.2.2.1 _)))
              go_wp2_with fail
              go_quiet ((go_at_call 24; exact quiet_on HR.out.2.2.2.2.2.2.1))
              go_wp2_with fail
              go_quiet (fail)
              go_wp2_with fail
              refine (HR.out.2.2.2.2.2.2.2 _).mono ?_
              rintro e W2 ⟨rfl, hF2, hc2⟩
              have hF3 : Fr [R, Y, Bf] w W2 := (HR.out.1.drewN _).trans hF2
              rcases hc2 with ⟨hi2, pr2, C2, hL2⟩ | ⟨k, pr2, C2, hk0, hk1, hL2⟩
              · have HZ := Hid_mk (And.intro hF3 (And.intro hi2 hL2))
                clear hF3 hi2 hL2 hF2
                go_wp2_with fail
                go_roundg 0
                case rel => exact ⟨rfl, HZ.out.1, u, 0, u, i1, pr2, C2, _, rfl, HZ.out.2.2, by omega, by rw [HR.out.2.2.2.1]; exact HR.out.2.2.1, .inr ⟨rfl, rfl, HZ.out.2.1, rfl, rfl, by omega⟩⟩
                case measure => have h1 := HR.out.2.2.2.2.1; omega
              · have HZ := Hid_mk (And.intro hF3 (And.intro hk0 (And.intro hk1 hL2)))
                clear hF3 hk0 hk1 hL2 hF2
                go_wp2_with fail
                go_roundg (2 * (bs.length - (i1 + k)) + 1)
                case rel => exact ⟨rfl, HZ.out.1, u, 0, u + k, i1 + k, pr2, C2, _, rfl, HZ.out.2.2.2, by omega, by rw [HR.out.2.2.2.1]; exact HR.out.2.2.1, .inl ⟨rfl, rfl, .inl (by omega)⟩⟩
                case measure => have h1 := HR.out.2.2.2.2.1; have h2 := HZ.out.2.1; have h3 := HZ.out.2.2.1; omega
      · have hx : ∀ q, Calls Tryd.prog 27 #[.slice (some ⟨Bf, s, none⟩) 0 (4096 - s), .int .u8 10] (wr.drewN q) fun e w' => e = .returned (.int .i64 (-1)) ∧ w' = wr.drewN q := fun q =>
          idx_val Bf s 0 (4096 - s) [] (-1) (wr.drewN q) rfl (fun i hi => by omega) rfl
        have HR := Hid_mk (And.intro hF (And.intro hL (And.intro hno (And.intro hi (And.intro hgk hx)))))
        have hs5 : ¬ 4096 = s := by omega
        have hs6 : (s : Int) ≤ 4096 := by omega
        have hwr : IntKind.i64.wrap (s : Int) = (s : Int) := IntWalk.i64_in _ (by omega)
        clear hF hL hno hi hgk hx hsw hrw hwl
        go_wp2_with fail
        go_quiet ((go_at_call 27; exact Calls.quiet_of_same (HR.out.2.2.2.2.2 _)))
        go_wp2_with fail
        go_quiet (fail)
        go_wp2_with fail
        generalize hW : (World.drewN wr _).setCell ⟨R, 2, none⟩ (.int .i64 (s : Int)) = W1
        have hR1 : W1.heap[R]? = some (.cells #[.slice (some ⟨Bf, 0, none⟩) 4096 4096, .iface 35 (.pointer (some ⟨Y, 0, none⟩)), .int .i64 (s : Int), .int .i64 (s : Int), .iface 55 (.pointer (some ae)), .int .i64 lb, .int .i64 lr] 48 (0, 0)) := by
          rw [← hW]; exact Eq.trans (heap_setCell_same _ R 2 _ _ _ HR.out.2.1.hR) (by simp)
        have hO1 : ∀ x : Nat, x ≠ R → W1.heap[x]? = wr.heap[x]? := fun x hx => by rw [← hW]; exact heap_setCell_other _ _ _ _ hx
        have hF1 : Fr [R, Y, Bf] w W1 := by rw [← hW]; exact (HR.out.1.drewN _).setCell (by simp) _
        have HW := Hid_mk (And.intro hR1 (And.intro hO1 hF1))
        clear hW hR1 hO1 hF1
        refine (readerr_any R _ _ _ HW.out.1 rfl).mono ?_
        rintro e W2 ⟨rfl, rfl⟩
        go_wp2_with fail
        go_meet
        case rel =>
          have hL := HR.out.2.1
          have hi := HR.out.2.2.2.1
          have hci := hL.ci
          have hre := heap_setCell_same _ R 4 _ _ .nilIface HW.out.1
          refine ⟨HW.out.2.2.setCell (by simp) _, 0, s, s, s, i1, pr1, C1, rfl, by omega, ?_, by omega, ⟨?_, ?_, hL.size, ?_, Nat.le_refl _, by omega, by omega, hL.il, fun j h1 h2 => by omega⟩, .inr (.inl ⟨rfl, by omega, hw4, HR.out.2.2.1⟩)⟩
          · intro j hj
            have := hL.buf j (Nat.zero_le _) hj
            rw [Nat.zero_add]
            simpa using this
          · rw [hre]; simp
          · exact (heap_setCell_other _ _ _ _ (Ne.symm hRB)).trans ((HW.out.2.1 _ (Ne.symm hRB)).trans hL.hB)
          · exact (heap_setCell_other _ _ _ _ (Ne.symm hRY)).trans ((HW.out.2.1 _ (Ne.symm hRY)).trans hL.hY)
  case rest =>
    obtain ⟨F1, o, n, r1, wp1, i1, pr1, C1, rfl, hon, hC, hcn, hL, hE⟩ := hcut
    have HA := Hid_mk (And.intro F1 (And.intro hL hE))
    clear F1 hL hE
    by_cases hn0 : n = 0
    · subst hn0
      clear hC
      go_wp2_with fail
      go_ret2
      exact ⟨_, _, _, _, rfl, HA.out.1, o, 0, r1, wp1, i1, pr1, C1, rfl, hon, fun j hj => by omega, hcn, HA.out.2.1, HA.out.2.2⟩
    · obtain ⟨m, rfl⟩ : ∃ m, n = m + 1 := ⟨n - 1, by omega⟩
      have hz := H.out.2.2.2.2 (c + m)
      have hcell : wc.cell? ⟨Bf, o + m, none⟩ = some (.int .u8 (bs.getD (c + m) 0)) := cellAt HA.out.2.1.hB (hC m (by omega))
      have HC := Hid_mk hC
      have f5 : wc.frozen? ⟨R, 5, none⟩ = false := frozen_of_row _ _ _ _ _ HA.out.2.1.hR
      have f6 : wc.frozen? ⟨R, 6, none⟩ = false := frozen_of_row _ _ _ _ _ HA.out.2.1.hR
      obtain ⟨z, hzz⟩ : ∃ z, z = bs.getD (c + m) 0 := ⟨_, rfl⟩
      rw [← hzz] at hz hcell
      obtain ⟨hz1, hz2⟩ := hz
      have c5 : wc.cell? ⟨R, 5, none⟩ = some (.int .i64 lb) := cellAt HA.out.2.1.hR rfl
      have c6 : wc.cell? ⟨R, 6, none⟩ = some (.int .i64 lr) := cellAt HA.out.2.1.hR rfl
      clear hC hzz
      go_wp2_with fail
      go_ret2
      exact ⟨_, _, _, _, rfl, ((HA.out.1.setCell (by simp) _).setCell (by simp) _), o, m + 1, r1, wp1, i1, pr1, C1, rfl, hon, HC.out, hcn, HA.out.2.1.note _ _, HA.out.2.2⟩
end Go.Proofs.YtnamkpkdkojhjaaDoor
