/- What the buffered reader's fill leaves; the source's Read at its end. -/
import Derived.Test.YtnamkpkdkojhjaaDoorLnState
import Derived.Test.YtnamkpkdkojhjaaDoorRdRead2
import Derived.Deep.RegionHeld3
import Derived.Deep.LoopGhost
namespace Go.Proofs.YtnamkpkdkojhjaaDoor
open Go.RowKit

def FillPost (w : World) (R Bf Y : Nat) (sv : Value) (bs : List Int) (c u i : Nat) (lb lr : Int) (eof : Value) (e : Ending) (w' : World) : Prop :=
  e = .returned (.tuple #[]) ∧ Fr [R, Y, Bf] w w' ∧
    ((i = bs.length ∧ ∃ pr C, Ln w' R Bf Y sv bs c 0 u i lb lr pr C eof) ∨
     (∃ k pr C, 0 < k ∧ i + k ≤ bs.length ∧ Ln w' R Bf Y sv bs c 0 (u + k) (i + k) lb lr pr C .nilIface))

theorem bread_end_v (Y i : Nat) (sv : Option Addr) (L c : Nat) (dv : Value) (eof : Value) (w : World) (hi : L ≤ i)
    (c0 : w.cell? ⟨Y, 0, none⟩ = some (.slice sv L c)) (c1 : w.cell? ⟨Y, 1, none⟩ = some (.int .i64 i)) (ce : w.cell? ⟨0, 0, none⟩ = some eof) :
    Calls Tryd.prog 46 #[.pointer (some ⟨Y, 0, none⟩), dv] w fun e w' => e = .returned (.tuple #[.int .i64 0, eof]) ∧ w'.heap = w.heap ∧ Fr [] w w' := by
  go_enter Tryd.func46, Tryd.ntmps46
  go_wp2_with fail
  go_quiet (fail)
  go_wp2_with fail
  go_quiet (fail)
  go_wp2_with fail
  go_ret2
  exact ⟨rfl, rfl, ((Fr.refl _ _).drewN _).drewN _⟩
end Go.Proofs.YtnamkpkdkojhjaaDoor
