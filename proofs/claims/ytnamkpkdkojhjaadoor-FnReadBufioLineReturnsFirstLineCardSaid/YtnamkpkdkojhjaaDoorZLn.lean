/- The laws' own name for readBufioLine; the fresh reader; lemmas on lines: a line has one length. -/
import Derived.Test.YtnamkpkdkojhjaaDoorBLn
import Derived.Test.YtnamkpkdkojhjaaDoorBytes
namespace Go.Proofs.YtnamkpkdkojhjaaDoor
open Go.RowKit

theorem own_lies {w : World} {base : Nat} {a : Option Addr} {n cap : Nat} {xs : List Int} (h : w.ownsRow base 5 1 (.slice a n cap) n (xs.map (Value.int .u8))) (hn : xs.length = n) : Lies w a xs := by
  intro i hi
  rcases h.2 with ⟨h1, h2⟩ | ⟨g, cap', cur, h1, _, hg, _, _, _, ht⟩
  · omega
  · simp only [Value.slice.injEq] at h1
    refine ⟨g, 0, h1.1, ?_⟩
    rw [Nat.zero_add]
    refine cellAt hg ?_
    have h2 : (cur.toList.take (n * 1))[i]? = (xs.map (Value.int .u8))[i]? := by rw [ht]
    rw [List.getElem?_take, if_pos (by omega)] at h2
    simp only [Array.getElem?_toList] at h2
    rw [h2]
    simp [hi]
theorem row_lies {w : World} {Sb : Nat} {bs : List Int} {m : Nat} (h : w.heap[Sb]? = some (.cells (bs.map (Value.int .u8)).toArray 5 (0, 0))) (hm : m ≤ bs.length) : Lies w (some ⟨Sb, 0, none⟩) (bs.take m) := by
  intro i hi
  have h1 : i < m := by rw [List.length_take] at hi; omega
  have h2 : i < bs.length := by omega
  refine ⟨Sb, 0, rfl, ?_⟩
  rw [Nat.zero_add]
  refine cellAt h ?_
  simp [h1, h2]

theorem Reader.ln {w : World} {R Bf Y : Nat} {sv : Value} {bs : List Int} {c : Nat} (h : Reader w R Bf Y sv bs c) : Liner w R Bf Y sv bs c .nilIface := by
  obtain ⟨r, wp, i, lb, lr, pr, C, h⟩ := h
  exact ⟨r, wp, i, lb, lr, pr, C, h.ln⟩
theorem Sen.up {b b' : Nat} {w : World} {ae af : Addr} (h : Sen b w ae af) (hb : b ≤ b') : Sen b' w ae af :=
  ⟨h.full, Nat.lt_of_lt_of_le h.two hb, h.ne, h.he, h.hf, Nat.lt_of_lt_of_le h.le hb, Nat.lt_of_lt_of_le h.lf hb⟩

theorem LineIs.one {bs : List Int} {c n c2 n' c2' : Nat} (h : LineIs bs c n c2) (h' : LineIs bs c n' c2') : n = n' ∧ c2 = c2' := by
  rcases h with ⟨h1, h2, h3⟩ | ⟨m, h1, h2, h3, h4, h5⟩ <;> rcases h' with ⟨k1, k2, k3⟩ | ⟨m', k1, k2, k3, k4, k5⟩
  · omega
  · exact absurd k3 (h3 m' (by omega))
  · exact absurd h3 (k3 m (by omega))
  · have e : m = m' := by
      rcases Nat.lt_trichotomy m m' with h | h | h
      · exact absurd h3 (k4 m h)
      · exact h
      · exact absurd k3 (h4 m' h)
    subst e
    refine ⟨?_, by omega⟩
    rcases h5 with ⟨a1, a2⟩ | ⟨a1, a2⟩ <;> rcases k5 with ⟨b1, b2⟩ | ⟨b1, b2⟩
    · omega
    · subst b1
      rcases a2 with a2 | a2
      · omega
      · exact absurd b2 (by simpa [show c + (n' + 1) - 1 = c + n' by omega] using a2)
    · subst a1
      rcases b2 with b2 | b2
      · omega
      · exact absurd a2 (by simpa [show c + (n + 1) - 1 = c + n by omega] using b2)
    · omega
theorem LineIs.le {bs : List Int} {c n c2 : Nat} (h : LineIs bs c n c2) : c + n ≤ bs.length ∧ c2 ≤ bs.length ∧ c + n ≤ c2 := by
  rcases h with ⟨h1, h2, h3⟩ | ⟨m, h1, h2, h3, h4, h5⟩
  · omega
  · rcases h5 with ⟨a1, _⟩ | ⟨a1, _⟩ <;> omega

theorem zline_any (base R Bf Y : Nat) (sv : Value) (bs : List Int) (ae af : Addr) (c : Nat) (w : World) (hs : Src base w sv bs (.iface 55 (.pointer (some ae)))) (hn : Sen base w ae af) (h : Liner w R Bf Y sv bs c .nilIface)
    (hSS : ∀ x, x ∈ [R, Y, Bf] → base ≤ x) :
    Calls Tryd.prog 13 #[.pointer (some ⟨R, 0, none⟩)] w (BLPost w R Bf Y sv bs c) := by
  have H := Hid_mk (bline_any base R Bf Y sv bs ae af c w hs hn h hSS)
  clear hs hn h hSS
  go_enter Tryd.func13, Tryd.ntmps13
  go_wp2_with fail
  refine H.out.mono ?_
  rintro e w' ⟨v, m, c2, hv, rfl, ho, hl, hr, hf⟩
  have H1 := Hid_mk (And.intro ho (And.intro hl (And.intro hr (And.intro hf hv))))
  clear ho hl hr hf hv
  obtain ⟨be, hbe⟩ : ∃ be, be = decide (c = bs.length) := ⟨_, rfl⟩
  rw [← hbe]
  have HB := Hid_mk hbe
  clear hbe
  go_wp2_with fail
  go_ret3
  refine ⟨v, m, c2, H1.out.2.2.2.2, ?_, H1.out.1, H1.out.2.1, H1.out.2.2.1, H1.out.2.2.2.1⟩
  rw [← HB.out]
  rfl
end Go.Proofs.YtnamkpkdkojhjaaDoor
