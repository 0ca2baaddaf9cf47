/- The plain law of the lines of a text without carriage returns: after t lines the bytes gathered are a prefix of the text, and t counts the newlines. -/
import Derived.Test.YtnamkpkdkojhjaaDoorZLn
namespace Go.Proofs.YtnamkpkdkojhjaaDoor
open Go.RowKit

/-- t lines read, c bytes handed out, k bytes gathered. -/
def SpSt (bs : List Int) (t c k : Nat) : Prop :=
  (t = 0 ∧ c = 0 ∧ k = 0) ∨ (0 < t ∧ c = k + 1 ∧ c ≤ bs.length ∧ bs.getD k 0 = 10 ∧ t = (bs.take c).count 10) ∨
  (0 < t ∧ k = bs.length ∧ c = k ∧ 0 < c ∧ bs.getD (c - 1) 0 ≠ 10 ∧ t = (bs.take c).count 10 + 1)

theorem count_succ {bs : List Int} {c : Nat} (hc : c < bs.length) : (bs.take (c + 1)).count 10 = (bs.take c).count 10 + (if bs.getD c 0 = 10 then 1 else 0) := by
  rw [List.take_add_one, List.count_append, List.getElem?_eq_getElem hc, List.getD_eq_getElem?_getD, List.getElem?_eq_getElem hc]
  simp [List.count_cons]
theorem count_none {bs : List Int} {c : Nat} : ∀ (n : Nat), c + n ≤ bs.length → (∀ j, j < n → bs.getD (c + j) 0 ≠ 10) → (bs.take (c + n)).count 10 = (bs.take c).count 10
  | 0, _, _ => rfl
  | n + 1, h, hn => by
    rw [← Nat.add_assoc, count_succ (by omega), if_neg (hn n (by omega)), count_none n (by omega) (fun j hj => hn j (by omega))]
    rfl
theorem SpSt.le {bs : List Int} {t c k : Nat} (h : SpSt bs t c k) : t ≤ c ∧ k ≤ c ∧ c ≤ bs.length := by
  have hl : (bs.take c).count 10 ≤ (bs.take c).length := List.count_le_length
  rw [List.length_take] at hl
  rcases h with ⟨rfl, rfl, rfl⟩ | ⟨h1, h2, h3, h4, h5⟩ | ⟨h1, h2, h3, h4, h5, h6⟩
  · omega
  · omega
  · obtain ⟨m, rfl⟩ : ∃ m, c = m + 1 := ⟨c - 1, by omega⟩
    have hm : m < bs.length := by omega
    rw [Nat.add_sub_cancel] at h5
    rw [count_succ hm, if_neg h5] at h6
    have hl2 : (bs.take m).count 10 ≤ (bs.take m).length := List.count_le_length
    rw [List.length_take] at hl2
    omega
theorem SpSt.gather {bs : List Int} {t c k : Nat} (h : SpSt bs t c k) (hc : c < bs.length) : (t = 0 ∧ c = k) ∨ (0 < t ∧ c = k + 1 ∧ bs.getD k 0 = 10) := by
  rcases h with ⟨rfl, rfl, rfl⟩ | ⟨h1, h2, h3, h4, h5⟩ | ⟨h1, h2, h3, h4, h5, h6⟩
  · exact .inl ⟨rfl, rfl⟩
  · exact .inr ⟨h1, h2, h4⟩
  · omega
theorem SpSt.step {bs : List Int} {t c k n c2 : Nat} (h : SpSt bs t c k) (hc : c < bs.length) (hcr : ∀ j, j < bs.length → bs.getD j 0 ≠ 13) (hl : LineIs bs c n c2) : SpSt bs (t + 1) c2 (c + n) ∧ c < c2 := by
  have ht : t = (bs.take c).count 10 := by
    rcases h with ⟨rfl, rfl, rfl⟩ | ⟨h1, h2, h3, h4, h5⟩ | ⟨h1, h2, h3, h4, h5, h6⟩
    · rfl
    · exact h5
    · omega
  rcases hl with ⟨h1, h2, h3⟩ | ⟨m, h1, h2, h3, h4, h5⟩
  · refine ⟨.inr (.inr ⟨by omega, h2, by omega, by omega, ?_, ?_⟩), by omega⟩
    · have := h3 (n - 1) (by omega)
      rwa [show c + (n - 1) = c2 - 1 by omega] at this
    · rw [show c2 = c + n by omega, count_none n (by omega) h3, ht]
  · obtain rfl : n = m := by
      rcases h5 with ⟨h5, _⟩ | ⟨h5, h6⟩
      · exact h5
      · exact absurd h6 (hcr (c + n) (by omega))
    refine ⟨.inr (.inl ⟨by omega, by omega, by omega, h3, ?_⟩), by omega⟩
    rw [h1, count_succ h2, if_pos h3, count_none n (by omega) h4, ht]
theorem seg_ten {bs : List Int} {k : Nat} (hk : k < bs.length) (h : bs.getD k 0 = 10) : seg bs 0 k ++ [Value.int .u8 10] = seg bs 0 (k + 1) := by
  rw [← seg_snoc bs 0 k 1, Nat.zero_add]
  congr 1
  unfold seg
  rw [List.getD_eq_getElem?_getD, List.getElem?_eq_getElem hk, Option.getD_some] at h
  rw [List.drop_eq_getElem_cons hk, h]
  rfl
theorem seg_all (bs : List Int) : seg bs 0 bs.length = bs.map (Value.int .u8) := by
  unfold seg
  rw [List.drop_zero, List.take_of_length_le (Nat.le_refl _)]
end Go.Proofs.YtnamkpkdkojhjaaDoor
