/- The contracts of the laws' own capacity and minimum, beside the stack's. -/
import Derived.Test.YtgmlgkfhmdiknaaStkGrow
import Derived.Test.YtgmlgkfhmdiknaaStkPop
import Derived.Test.YtgmlgkfhmdiknaaStkSp
import Derived.Test.YtgmlgkfhmdiknaaStkAt
import Derived.Test.YtgmlgkfhmdiknaaStkEmpty
import Derived.Test.YtgmlgkfhmdiknaaStkClear
import Derived.Test.YtgmlgkfhmdiknaaInts
import Derived.Test.YtgmlgkfhmdiknaaNewAuto
namespace Go.Proofs.Ytgmlgkfhmdiknaa
open Go.RowKit

theorem zcap_any (m N : Nat) (w : World) (hm : m ≤ 65536) (hN : N = (m + 7) / 8) :
    Calls Try.prog 9 #[.int .i64 m] w fun e w' => e = .returned (.int .i64 ((8 * N : Nat) : Int)) ∧ w = w' := by
  have hq : ((m : Int) + 7) / 8 * 8 = ((8 * N : Nat) : Int) := by omega
  have HQ := Hid_mk hq
  clear hN hq
  go_enter Try.func9, Try.ntmps9
  go_wp2_with fail
  go_ret
  refine ⟨?_, rfl⟩
  rw [← HQ.out]
  rfl

theorem zmin_any (a b : Nat) (w : World) :
    Calls Try.prog 8 #[.int .i64 a, .int .i64 b] w fun e w' => e = .returned (.int .i64 ((min a b : Nat) : Int)) ∧ w = w' := by
  by_cases h : a < b
  · rw [Nat.min_eq_left (by omega)]
    go_enter Try.func8, Try.ntmps8
    go_wp2
    go_ret
    exact ⟨rfl, rfl⟩
  · rw [Nat.min_eq_right (by omega)]
    go_enter Try.func8, Try.ntmps8
    go_wp2
    go_ret
    exact ⟨rfl, rfl⟩
end Go.Proofs.Ytgmlgkfhmdiknaa
