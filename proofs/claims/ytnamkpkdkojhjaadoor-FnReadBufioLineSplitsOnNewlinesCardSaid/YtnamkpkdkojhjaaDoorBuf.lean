/- The contract of the buffered reader's Buffered; the two listed errors and how they compare. -/
import Derived.Test.YtnamkpkdkojhjaaDoorFillA
import Derived.LaidEql
namespace Go.Proofs.YtnamkpkdkojhjaaDoor
open Go.RowKit

set_option maxHeartbeats 400000 in
theorem buffered_any (R r wp : Nat) (cs : Array Value) (w : World) (hR : w.heap[R]? = some (.cells cs 48 (0, 0))) (h2 : cs[2]? = some (.int .i64 r)) (h3 : cs[3]? = some (.int .i64 wp)) (hrw : r ≤ wp) (hw : wp ≤ 4096) :
    Calls Tryd.prog 24 #[.pointer (some ⟨R, 0, none⟩)] w fun e w' => e = .returned (.int .i64 ((wp - r : Nat) : Int)) ∧ ∃ n, w' = w.drewN n := by
  have e2 : w.cell? ⟨R, 2, none⟩ = some (.int .i64 r) := cellAt hR h2
  have e3 : w.cell? ⟨R, 3, none⟩ = some (.int .i64 wp) := cellAt hR h3

  have b1 : (wp : Int) ≤ 4096 := by omega
  have b2 : (r : Int) ≤ 4096 := by omega
  clear hR h2 h3
  go_enter Tryd.func24, Tryd.ntmps24
  go_wp2_with fail
  go_quiet (fail)
  go_wp2_with fail
  go_ret
  exact ⟨congrArg (fun z => Ending.returned (.int .i64 z)) (show (wp : Int) - (r : Int) = ((wp - r : Nat) : Int) by omega), _, rfl⟩

/-- The two listed errors: two pointers of one type, never the same. -/
structure Sen (base : Nat) (w : World) (ae af : Addr) : Prop where
  full : w.cell? ⟨2, 0, none⟩ = some (.iface 55 (.pointer (some af)))
  two : 2 < base
  ne : ae ≠ af
  he : ∃ c t, w.heap[ae.block]? = some (.cells c t (0, 0))
  hf : ∃ c t, w.heap[af.block]? = some (.cells c t (0, 0))
  le : ae.block < base
  lf : af.block < base

theorem Sen.below {base : Nat} {w w' : World} {ae af : Addr} (h : Sen base w ae af) (k : Below base w w') : Sen base w' ae af := by
  obtain ⟨c, t, h1⟩ := h.he
  obtain ⟨d, u, h2⟩ := h.hf
  exact ⟨(k.cell (p := ⟨2, 0, none⟩) h.two).trans h.full, h.two, h.ne, ⟨c, t, (k.block _ h.le).trans h1⟩, ⟨d, u, (k.block _ h.lf).trans h2⟩, h.le, h.lf⟩

theorem comp55' : (Tryd.prog.info? 55).map (·.comparable) = some true := by kernel_rfl
theorem size74' : (Tryd.prog.info? 74).map (·.size) = some 1 := by kernel_rfl
theorem err_same (a : Addr) (w : World) : (binOp .eql 28 (.iface 55 (.pointer (some a))) (.iface 55 (.pointer (some a)))).run Tryd.prog w = .ok (.bool true) w := by
  obtain ⟨i, hi, hcmp⟩ := Option.map_eq_some_iff.1 comp55'
  obtain ⟨j, hj, _⟩ := Option.map_eq_some_iff.1 size74'
  exact run_eql_iface_ptr_same w a Tryd.underlying28 Tryd.underlying55 hi hcmp hj
theorem nil_err (a : Addr) (w : World) : (binOp .eql 28 .nilIface (.iface 55 (.pointer (some a)))).run Tryd.prog w = .ok (.bool false) w :=
  run_eql_iface_nil_left w 55 _ Tryd.underlying28
theorem eof_full {base : Nat} {w : World} {ae af : Addr} (h : Sen base w ae af) : (binOp .eql 28 (.iface 55 (.pointer (some ae))) (.iface 55 (.pointer (some af)))).run Tryd.prog w = .ok (.bool false) w := by
  obtain ⟨i, hi, hcmp⟩ := Option.map_eq_some_iff.1 comp55'
  obtain ⟨j, hj, hsz⟩ := Option.map_eq_some_iff.1 size74'
  obtain ⟨c, t, h1⟩ := h.he
  obtain ⟨d, u, h2⟩ := h.hf
  exact run_eql_iface_ptr_other w Tryd.underlying28 Tryd.underlying55 hi hcmp hj (by rw [hsz]; decide) h.ne h1 h2
end Go.Proofs.YtnamkpkdkojhjaaDoor
