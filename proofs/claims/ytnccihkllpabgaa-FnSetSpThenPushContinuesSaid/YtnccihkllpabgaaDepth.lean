/- The contract of the law's own table of depths behind SetSp. -/
import Derived.Test.YtnccihkllpabgaaOps141
namespace Go.Proofs.Ytnccihkllpabgaa
open Go.RowKit

def depthOf (n k : Nat) : Nat := if k = n ∧ 0 < k ∧ k % 8 = 0 then k - 8 else k

theorem depth_any (n k : Nat) (w : World) (hn : n ≤ 1048576) (hk : k ≤ n) :
    Calls Try.prog 19 #[.int .i64 n, .int .i64 k] w fun e w' => e = .returned (.int .i64 (depthOf n k)) ∧ w = w' := by
  by_cases h : k = n ∧ 0 < k ∧ k % 8 = 0
  · have e : depthOf n k = k - 8 := if_pos h
    obtain ⟨rfl, h1, h2⟩ := h
    obtain ⟨q, rfl⟩ : ∃ q, k = q + 8 := ⟨k - 8, by omega⟩
    rw [e]
    have t1 : (((q + 8 : Nat) : Int) == ((q + 8 : Nat) : Int)) = true := by simp
    have t2 : (((q + 8 : Nat) : Int) % 8 == 0) = true := by simp; omega
    clear e h2
    go_enter Try.func19, Try.ntmps19
    go_wp2
    go_ret
    exact ⟨by simp, rfl⟩
  · have e : depthOf n k = k := if_neg h
    rw [e]
    clear e
    by_cases h1 : k = n
    · subst h1
      by_cases h2 : k = 0
      · subst h2
        clear h
        go_enter Try.func19, Try.ntmps19
        go_wp2
        go_ret
        exact ⟨rfl, rfl⟩
      · have t1 : ((k : Int) == (k : Int)) = true := by simp
        have t2 : ((k : Int) % 8 == 0) = false := by
          simp only [true_and] at h
          simp
          omega
        have h3 : 0 < k := by omega
        clear h h2
        go_enter Try.func19, Try.ntmps19
        go_wp2
        go_ret
        exact ⟨rfl, rfl⟩
    · have t1 : ((k : Int) == (n : Int)) = false := by simp; omega
      clear h h1
      go_enter Try.func19, Try.ntmps19
      go_wp2
      go_ret
      exact ⟨rfl, rfl⟩
end Go.Proofs.Ytnccihkllpabgaa
