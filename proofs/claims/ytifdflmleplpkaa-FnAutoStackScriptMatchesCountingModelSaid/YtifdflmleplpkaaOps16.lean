/- The contracts of the laws' own capacity, filling and draining. -/
import Derived.Test.YtifdflmleplpkaaStkGrow
import Derived.Test.YtifdflmleplpkaaStkPop
import Derived.Test.YtifdflmleplpkaaStkSp
import Derived.Test.YtifdflmleplpkaaStkEmpty
import Derived.Test.YtifdflmleplpkaaStkFull
import Derived.Test.YtifdflmleplpkaaStkClear
import Derived.Test.YtifdflmleplpkaaNewAuto
import Derived.Deep.LoopGhost
namespace Go.Proofs.Ytifdflmleplpkaa
open Go.RowKit

theorem capof_any (m N : Nat) (w : World) (hm : m ≤ 65536) (hN : N = (m + 7) / 8) :
    Calls Try.prog 7 #[.int .i64 m] w fun e w' => e = .returned (.int .i64 ((8 * N : Nat) : Int)) ∧ w = w' := by
  go_enter Try.func7, Try.ntmps7
  go_wp2_with fail
  go_loopg [3] N (fun gk i wr => ∃ j c : Nat, j + gk = N ∧ c = 8 * j ∧ i = .int .i64 c ∧ w = wr)
  case atStart => exact ⟨0, 0, by omega, rfl, rfl, rfl⟩
  case round =>
    obtain ⟨j, c, hj, hc, rfl, rfl⟩ := hrel
    by_cases hlt : c < m
    · have HH := Hid_mk (And.intro hj (And.intro hc hN))
      have hN2 : c ≤ 65536 := by omega
      clear hj hc hN
      go_wp2_with fail
      go_roundg (gk - 1)
      case rel => exact ⟨j + 1, c + 8, by have := HH.out; omega, by have := HH.out; omega, by go_num, rfl⟩
      case measure => have := HH.out; omega
    · have hcN : c = 8 * N := by omega
      subst hcN
      have HH := Hid_mk (And.intro hj (And.intro hc hN))
      clear hj hc hN
      go_wp2_with fail
      go_ret
      exact ⟨rfl, rfl⟩

/-- The frames that filling pushes. -/
def fr (b : Int) : Nat → Frm := fun m => (b + (m : Int), 0, 0)

def FillPost (base : Nat) (w : World) (s N n g : Nat) (b : Int) (e : Ending) (w' : World) : Prop :=
  e = .returned (.bool true) ∧ ∃ k2 sp2 B2, Stk base w' s N k2 sp2 g B2 (fr b) ∧ 8 * k2 + sp2 = n ∧ Keeps base w w'

set_option maxRecDepth 100000 in
set_option maxHeartbeats 400000 in
theorem fill_any (base s N n g : Nat) (b : Int) (B : Nat → Nat) (F : Nat → Frm) (w : World) (h : Stk base w s N 0 0 g B F) (hn : n ≤ 8 * N) (hb0 : 0 ≤ b) (hb1 : b ≤ 1048576) :
    Calls Try.prog 9 #[.pointer (some ⟨s, 0, none⟩), .int .i64 n, .int .i64 b] w (FillPost base w s N n g b) := by
  have hN2 := h.hN
  have hn2 : n ≤ 65536 := by omega
  have H0 := Hid_mk (And.intro (h.congr (G := fr b) (fun m hm => by omega)) hn)
  clear h hn
  go_enter Try.func9, Try.ntmps9
  go_wp2_with fail
  go_loopg [7] n (fun gk i wr => ∃ (j k sp : Nat) (B' : Nat → Nat), j + gk = n ∧ i = .int .i64 j ∧ Stk base wr s N k sp g B' (fr b) ∧ 8 * k + sp = j ∧ Keeps base w wr)
  case atStart => exact ⟨0, 0, 0, B, by omega, rfl, H0.out.1, by omega, Keeps.refl _ _⟩
  case round =>
    obtain ⟨j, k, sp, B', hj, rfl, hs, hd, hk⟩ := hrel
    have hbz : ((j : Int) == 0) = decide (j = 0) := by
      by_cases h : j = 0
      · subst h; rfl
      · rw [decide_eq_false h]; simp; omega
    have hbz2 : decide (8 * k + sp = 0) = decide (j = 0) := by rw [hd]
    generalize decide (j = 0) = bz at hbz hbz2
    have hsp := sp_any _ s N k sp g B' _ wr hs j (by omega)
    have HH := Hid_mk (And.intro hj (And.intro hd (And.intro hk (And.intro hsp hbz2))))
    clear hs hd hk hsp hbz2
    by_cases hlt : j < n
    · clear hj
      go_wp2_with fail
      refine HH.out.2.2.2.1.mono ?_
      rintro e W1 ⟨rfl, hs1, hk1⟩
      have hem := empty_any _ s N k sp g B' _ W1 hs1
      rw [HH.out.2.2.2.2] at hem
      have H1 := Hid_mk (And.intro hs1 (And.intro hk1 hem))
      clear hs1 hk1 hem
      go_wp2_with fail
      refine H1.out.2.2.mono ?_
      rintro e w' ⟨rfl, rfl⟩
      go_wp2_with fail
      refine (full_any _ s N k sp g B' _ _ H1.out.1).mono ?_
      rintro e W2 ⟨rfl, hs2, hk2⟩
      have hpush := push_any _ s N k sp g B' _ 0 (b + (j : Int)) 0 0 W2 hs2 (by have := HH.out.2.1; have := H0.out.2; omega)
      have H2 := Hid_mk (And.intro hk2 hpush)
      clear hs2 hk2 hpush
      go_wp2_with fail
      refine H2.out.2.mono ?_
      rintro e W3 ⟨rfl, k2, sp2, B2, hs3, hd3, h12, hkk2, hB2, hk3⟩
      have hs3' : Stk base W3 s N k2 sp2 g B2 (fr b) := by
        refine hs3.congr ?_
        intro y hy
        unfold upd
        by_cases hye : y = 8 * k + sp
        · rw [if_pos hye, hye, HH.out.2.1]; rfl
        · rw [if_neg hye]
      have H3 := Hid_mk (And.intro hs3' (And.intro hd3 hk3))
      clear hs3 hs3' hd3 h12 hkk2 hB2 hk3
      go_wp2_with fail
      go_roundg (gk - 1)
      case rel => exact ⟨j + 1, k2, sp2, B2, by have := HH.out.1; omega, by go_num, H3.out.1, by have h1 := HH.out.2.1; have h2 := H3.out.2.1; omega, HH.out.2.2.1.trans (H1.out.2.1.trans (H2.out.1.trans H3.out.2.2))⟩
      case measure => have := HH.out.1; omega
    · have hjn : j = n := by omega
      subst hjn
      clear hj hlt
      go_wp2_with fail
      refine HH.out.2.2.2.1.mono ?_
      rintro e W1 ⟨rfl, hs1, hk1⟩
      have hem := empty_any _ s N k sp g B' _ W1 hs1
      rw [HH.out.2.2.2.2] at hem
      have H1 := Hid_mk (And.intro hs1 (And.intro hk1 hem))
      clear hs1 hk1 hem
      go_wp2_with fail
      refine H1.out.2.2.mono ?_
      rintro e w' ⟨rfl, rfl⟩
      go_wp2_with fail
      refine (full_any _ s N k sp g B' _ _ H1.out.1).mono ?_
      rintro e W2 ⟨rfl, hs2, hk2⟩
      have H2 := Hid_mk (And.intro hs2 hk2)
      clear hs2 hk2
      go_wp2_with fail
      go_ret
      exact ⟨rfl, k, sp, B', H2.out.1, HH.out.2.1, HH.out.2.2.1.trans (H1.out.2.1.trans H2.out.2)⟩

set_option maxRecDepth 100000 in
set_option maxHeartbeats 400000 in
theorem drain_any (base s N n k sp g : Nat) (b : Int) (B : Nat → Nat) (w : World) (h : Stk base w s N k sp g B (fr b)) (hn : 8 * k + sp = n) (hb0 : 0 ≤ b) (hb1 : b ≤ 1048576) :
    Calls Try.prog 10 #[.pointer (some ⟨s, 0, none⟩), .int .i64 n, .int .i64 b] w fun e w' => e = .returned (.bool true) ∧ Keeps base w w' := by
  have hn2 : n ≤ 65536 := by have := h.hN; have := h.hk; have := h.hsp; omega
  have H0 := Hid_mk (And.intro h hn)
  clear h hn
  go_enter Try.func10, Try.ntmps10
  go_wp2_with fail
  go_loopg [7, 8] n (fun gk i f wr => ∃ (iv : Int) (k sp : Nat), iv = (gk : Int) - 1 ∧ gk ≤ n ∧ i = .int .i64 iv ∧ Stk base wr s N k sp g B (fr b) ∧ 8 * k + sp = gk ∧ Keeps base w wr)
  case atStart => exact ⟨_, k, sp, rfl, Nat.le_refl _, rfl, H0.out.1, H0.out.2, Keeps.refl _ _⟩
  case round =>
    obtain ⟨iv, k, sp, hiv, hgn, rfl, hs, hd, hk⟩ := hrel
    cases gk with
    | zero =>
      obtain rfl : iv = -1 := by omega
      obtain ⟨rfl, rfl⟩ : k = 0 ∧ sp = 0 := by omega
      have hsp := sp_any _ s N 0 0 g B _ wr hs 0 (by omega)
      have HH := Hid_mk (And.intro hk hsp)
      clear hs hd hk hsp hiv
      go_wp2_with fail
      refine HH.out.2.mono ?_
      rintro e W1 ⟨rfl, hs1, hk1⟩
      have hem := empty_any _ s N 0 0 g B _ W1 hs1
      have H1 := Hid_mk (And.intro hs1 (And.intro hk1 hem))
      clear hs1 hk1 hem
      go_wp2_with fail
      refine H1.out.2.2.mono ?_
      rintro e w' ⟨rfl, rfl⟩
      go_wp2_with fail
      refine (full_any _ s N 0 0 g B _ _ H1.out.1).mono ?_
      rintro e W2 ⟨rfl, hs2, hk2⟩
      have hpop := pop_nil _ s N g B _ W2 hs2
      have H2 := Hid_mk (And.intro hk2 hpop)
      clear hs2 hk2 hpop
      go_wp2_with fail
      refine H2.out.2.mono ?_
      rintro e W3 ⟨rfl, hs3, hk3⟩
      have H3 := Hid_mk hk3
      clear hs3 hk3
      go_wp2_with fail
      go_ret
      exact ⟨rfl, HH.out.1.trans (H1.out.2.1.trans (H2.out.1.trans H3.out))⟩
    | succ q =>
      obtain rfl : iv = (q : Int) := by omega
      have hsp := sp_any _ s N k sp g B _ wr hs (q + 1) (by omega)
      have hz : decide (8 * k + sp = 0) = false := decide_eq_false (by omega)
      have HH := Hid_mk (And.intro hd (And.intro hk (And.intro hsp hz)))
      clear hs hd hk hsp hz hiv
      go_wp2_with fail
      refine HH.out.2.2.1.mono ?_
      rintro e W1 ⟨rfl, hs1, hk1⟩
      have hem := empty_any _ s N k sp g B _ W1 hs1
      rw [HH.out.2.2.2] at hem
      have H1 := Hid_mk (And.intro hs1 (And.intro hk1 hem))
      clear hs1 hk1 hem
      go_wp2_with fail
      refine H1.out.2.2.mono ?_
      rintro e w' ⟨rfl, rfl⟩
      go_wp2_with fail
      refine (full_any _ s N k sp g B _ _ H1.out.1).mono ?_
      rintro e W2 ⟨rfl, hs2, hk2⟩
      have hpop := pop_any _ s N k sp g B _ W2 hs2 (by have := HH.out.1; omega)
      have H2 := Hid_mk (And.intro hk2 hpop)
      clear hs2 hk2 hpop
      go_wp2_with fail
      refine H2.out.2.mono ?_
      rintro e W3 ⟨k2, sp2, rfl, hs3, hd3, hkk3, h83, hfc, hk3⟩
      have hq3 : 8 * k2 + sp2 = q := by have := HH.out.1; omega
      obtain ⟨fi, fp, hx1, hx2⟩ := hfc
      clear hx1 hx2
      rw [hq3] at fi fp
      have fp2 : (fr b q).1 = b + (q : Int) := rfl
      rw [fp2] at fp
      have H3 := Hid_mk (And.intro hs3 (And.intro hq3 hk3))
      clear hs3 hd3 hkk3 h83 hq3 hk3 fp2
      generalize B k2 = bk at fi fp
      go_wp2_with fail
      go_roundg q
      case rel => exact ⟨(q : Int) - 1, k2, sp2, rfl, by omega, by go_num, H3.out.1, H3.out.2.1, HH.out.2.1.trans (H1.out.2.1.trans (H2.out.1.trans H3.out.2.2))⟩
      case measure => omega
end Go.Proofs.Ytifdflmleplpkaa
