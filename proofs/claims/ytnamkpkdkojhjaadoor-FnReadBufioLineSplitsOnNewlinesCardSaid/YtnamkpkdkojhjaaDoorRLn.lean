/- The contract of the buffered reader's ReadLine. -/
import Derived.Test.YtnamkpkdkojhjaaDoorRSl
namespace Go.Proofs.YtnamkpkdkojhjaaDoor
open Go.RowKit

/-- What one ReadLine gives: the end; a piece of a long line; a line's last piece. -/
def LnPost (w : World) (R Bf Y : Nat) (sv : Value) (bs : List Int) (c : Nat) (eof : Value) (e : Ending) (w' : World) : Prop :=
  Fr [R, Y, Bf] w w' ∧
    ((c = bs.length ∧ e = .returned (.tuple #[.slice none 0 0, .bool false, eof]) ∧ Liner w' R Bf Y sv bs c .nilIface) ∨
     (∃ o n cap C r wp i lb lr pr c2 b, e = .returned (.tuple #[.slice (some ⟨Bf, o, none⟩) n cap, .bool b, .nilIface]) ∧ c < bs.length ∧ o + n ≤ 4096 ∧ n ≤ cap ∧ (∀ j, j < n → (C : Array Value)[o + j]? = some (.int .u8 (bs.getD (c + j) 0))) ∧ c + n ≤ bs.length ∧
       Ln w' R Bf Y sv bs c2 r wp i lb lr pr C .nilIface ∧
       ((b = true ∧ c2 = c + n ∧ 0 < n ∧ (∀ j, j < n → bs.getD (c + j) 0 ≠ 10) ∧ (bs.getD (c + n - 1) 0 ≠ 13 ∨ bs.getD (c + n) 0 = 13)) ∨
        (b = false ∧ c2 = bs.length ∧ c + n = bs.length ∧ (∀ j, j < n → bs.getD (c + j) 0 ≠ 10)) ∨
        (b = false ∧ ∃ m, c2 = c + m + 1 ∧ c + m < bs.length ∧ bs.getD (c + m) 0 = 10 ∧ (∀ j, j < m → bs.getD (c + j) 0 ≠ 10) ∧ ((n = m ∧ (m = 0 ∨ bs.getD (c + m - 1) 0 ≠ 13)) ∨ (m = n + 1 ∧ bs.getD (c + n) 0 = 13))))))

/-- The last byte put back. -/
theorem Ln.back {w : World} {R Bf Y : Nat} {sv : Value} {bs : List Int} {c wp i : Nat} {lb lr pr : Int} {C : Array Value} {ev : Value} (h : Ln w R Bf Y sv bs (c + 4096) 4096 wp i lb lr pr C ev) (hC : C[4095]? = some (.int .u8 (bs.getD (c + 4095) 0))) :
    Ln (w.setCell ⟨R, 2, none⟩ (.int .i64 4095)) R Bf Y sv bs (c + 4095) 4095 wp i lb lr pr C ev := by
  have h1 := h.rw
  have h2 := h.wl
  refine ⟨Eq.trans (heap_setCell_same w R 2 _ _ _ h.hR) (by simp), (heap_setCell_other _ _ _ _ (Ne.symm h.RB)).trans h.hB, h.size, (heap_setCell_other _ _ _ _ (Ne.symm h.RY)).trans h.hY, by omega, h.wl, by have := h.ci; omega, h.il, fun j h3 h4 => ?_⟩
  obtain rfl : j = 4095 := by omega
  simpa using hC

set_option maxRecDepth 100000 in
set_option maxHeartbeats 4000000 in
theorem line_any (base R Bf Y : Nat) (sv : Value) (bs : List Int) (ae af : Addr) (c : Nat) (w : World) (hs : Src base w sv bs (.iface 55 (.pointer (some ae)))) (hn : Sen base w ae af)
    (h : Liner w R Bf Y sv bs c .nilIface) (hSS : ∀ x, x ∈ [R, Y, Bf] → base ≤ x) :
    Calls Tryd.prog 22 #[.pointer (some ⟨R, 0, none⟩)] w (LnPost w R Bf Y sv bs c (.iface 55 (.pointer (some ae)))) := by
  obtain ⟨r0, wp0, i0, lb0, lr0, pr0, C0, h⟩ := h
  have hsl := slice_any base R Bf Y sv bs ae af c r0 wp0 i0 lb0 lr0 pr0 C0 w hs hn h hSS
  have H := Hid_mk (And.intro hs (And.intro hn (And.intro hSS hsl)))
  clear hs hn h hSS hsl
  go_enter Tryd.func22, Tryd.ntmps22
  go_wp2_with fail
  refine H.out.2.2.2.mono ?_
  rintro e W1 ⟨line, err, lb, lr, rfl, hF, o, n, r, wp, i, pr, C, rfl, hon, hC, hcn, hL, hE⟩
  have hs1 : Src base W1 sv bs (.iface 55 (.pointer (some ae))) := H.out.1.below (hF.below H.out.1.top H.out.2.2.1)
  have hn1 : Sen base W1 ae af := H.out.2.1.below (hF.below H.out.1.top H.out.2.2.1)
  have g2 := hn1.full
  have d2 : W1.cell? ⟨R, 2, none⟩ = some (.int .i64 r) := cellAt hL.hR rfl
  have f2 : W1.frozen? ⟨R, 2, none⟩ = false := frozen_of_row _ _ _ _ _ hL.hR
  have hcell : ∀ j, j < n → W1.cell? ⟨Bf, o + j, none⟩ = some (.int .u8 (bs.getD (c + j) 0)) := fun j hj => cellAt hL.hB (hC j hj)
  rcases hE with ⟨rfl, m, rfl, h10, hno⟩ | ⟨rfl, hce, hn4, hno⟩ | ⟨rfl, rfl, rfl, rfl, hno⟩
  · have he := nil_err af W1
    have hz := hcell m (by omega)
    rw [h10] at hz
    by_cases hm0 : m = 0
    · subst hm0
      have hz0 : W1.cell? ⟨Bf, o, none⟩ = some (.int .u8 10) := hz
      have HL := Hid_mk (And.intro hF (And.intro hL (And.intro hno (And.intro hC (And.intro h10 hcn)))))
      clear hF hL hno hC h10 hcn hcell hs1 hn1
      go_wp2_with fail
      go_ret3
      refine ⟨HL.out.1, .inr ⟨o, 0, 4096 - o, C, r, wp, i, lb, lr, pr, c + 0 + 1, false, rfl, by have := HL.out.2.2.2.2.2; omega, by omega, Nat.zero_le _, fun j hj => by omega, by have := HL.out.2.2.2.2.2; omega, HL.out.2.1, .inr (.inr ⟨rfl, 0, rfl, by have := HL.out.2.2.2.2.2; omega, HL.out.2.2.2.2.1, HL.out.2.2.1, .inl ⟨rfl, .inl rfl⟩⟩)⟩⟩
    · obtain ⟨m, rfl⟩ : ∃ k, m = k + 1 := ⟨m - 1, by omega⟩
      have hy := hcell m (by omega)
      obtain ⟨z, hzz⟩ : ∃ z, z = bs.getD (c + m) 0 := ⟨_, rfl⟩
      rw [← hzz] at hy
      have hlt : c + (m + 1) < bs.length := by omega
      have HL := Hid_mk (And.intro hF (And.intro hL (And.intro hno (And.intro hC (And.intro h10 hcn)))))
      have HZ := Hid_mk (And.intro hzz hlt)
      clear hF hL hno hC h10 hcn hcell hs1 hn1 hzz hm0 hlt
      by_cases hz13 : z = 13
      · subst hz13
        go_wp2_with fail
        go_ret3
        refine ⟨HL.out.1, .inr ⟨o, m, 4096 - o, C, r, wp, i, lb, lr, pr, c + (m + 1) + 1, false, rfl, by have := HZ.out.2; omega, by omega, by omega, fun j hj => HL.out.2.2.2.1 j (by omega), by have := HZ.out.2; omega, HL.out.2.1, .inr (.inr ⟨rfl, m + 1, rfl, HZ.out.2, HL.out.2.2.2.2.1, HL.out.2.2.1, .inr ⟨rfl, HZ.out.1.symm⟩⟩)⟩⟩
      · have hzb : (z == 13) = false := by simp [hz13]
        go_wp2_with fail
        go_ret3
        refine ⟨HL.out.1, .inr ⟨o, m + 1, 4096 - o, C, r, wp, i, lb, lr, pr, c + (m + 1) + 1, false, rfl, by have := HZ.out.2; omega, by omega, by omega, fun j hj => HL.out.2.2.2.1 j (by omega), by have := HZ.out.2; omega, HL.out.2.1, .inr (.inr ⟨rfl, m + 1, rfl, HZ.out.2, HL.out.2.2.2.2.1, HL.out.2.2.1, .inl ⟨rfl, .inr ?_⟩⟩)⟩⟩
        rw [show c + (m + 1) - 1 = c + m by omega, ← HZ.out.1]
        exact hz13
  · have he := eof_full hn1
    by_cases hn0 : n = 0
    · subst hn0
      have HL := Hid_mk (And.intro hF (And.intro hL (And.intro hno (And.intro hC (And.intro hce hcn)))))
      clear hF hL hno hC hce hcn hcell hs1 hn1
      go_wp2_with fail
      go_ret3
      exact ⟨HL.out.1, .inl ⟨HL.out.2.2.2.2.1, rfl, r, wp, i, lb, lr, pr, C, HL.out.2.1⟩⟩
    · obtain ⟨m, rfl⟩ : ∃ k, n = k + 1 := ⟨n - 1, by omega⟩
      have hy := hcell m (by omega)
      obtain ⟨z, hzz⟩ : ∃ z, z = bs.getD (c + m) 0 := ⟨_, rfl⟩
      rw [← hzz] at hy
      have hzb : (z == 10) = false := by have := hno m (by omega); rw [← hzz] at this; simp [this]
      have HL := Hid_mk (And.intro hF (And.intro hL (And.intro hno (And.intro hC (And.intro hce hcn)))))
      clear hF hL hno hC hce hcn hcell hs1 hn1 hzz hn0
      go_wp2_with fail
      go_ret3
      exact ⟨HL.out.1, .inr ⟨o, m + 1, 4096 - o, C, r, wp, i, lb, lr, pr, c + (m + 1), false, rfl, by have := HL.out.2.2.2.2.1; omega, hon, by omega, HL.out.2.2.2.1, HL.out.2.2.2.2.2, HL.out.2.1, .inr (.inl ⟨rfl, HL.out.2.2.2.2.1, HL.out.2.2.2.2.1, HL.out.2.2.1⟩)⟩⟩
  · have he := err_same af W1
    have hz := hcell 4095 (by omega)
    rw [Nat.zero_add] at hz
    obtain ⟨z, hzz⟩ : ∃ z, z = bs.getD (c + 4095) 0 := ⟨_, rfl⟩
    rw [← hzz] at hz
    have HL := Hid_mk (And.intro hF (And.intro hL (And.intro hno (And.intro hC hcn))))
    have HZ := Hid_mk hzz
    clear hF hL hno hC hcn hcell hs1 hn1 hon hzz
    by_cases hz13 : z = 13
    · subst hz13
      go_wp2_with fail
      go_ret3
      refine ⟨HL.out.1.setCell (by simp) _, .inr ⟨0, 4095, 4096, C, 4095, wp, i, lb, lr, pr, c + 4095, true, rfl, by have := HL.out.2.2.2.2; omega, by omega, by omega, fun j hj => HL.out.2.2.2.1 j (by omega), by have := HL.out.2.2.2.2; omega, HL.out.2.1.back (by simpa using HL.out.2.2.2.1 4095 (by omega)), .inl ⟨rfl, rfl, by omega, fun j hj => HL.out.2.2.1 j (by omega), .inr HZ.out.symm⟩⟩⟩
    · have hzb : (z == 13) = false := by simp [hz13]
      go_wp2_with fail
      go_ret3
      refine ⟨HL.out.1, .inr ⟨0, 4096, 4096, C, 4096, wp, i, lb, lr, pr, c + 4096, true, rfl, by have := HL.out.2.2.2.2; omega, by omega, by omega, HL.out.2.2.2.1, HL.out.2.2.2.2, HL.out.2.1, .inl ⟨rfl, rfl, by omega, HL.out.2.2.1, .inl ?_⟩⟩⟩
      rw [show c + 4096 - 1 = c + 4095 by omega, ← HZ.out]
      exact hz13
end Go.Proofs.YtnamkpkdkojhjaaDoor
