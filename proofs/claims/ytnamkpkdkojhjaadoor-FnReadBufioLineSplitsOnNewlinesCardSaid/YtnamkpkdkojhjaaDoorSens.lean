/- What the condition on the listed variables gives the line laws: io.EOF's cell, bufio.ErrBufferFull's cell, two different pointers. -/
import Derived.Test.YtnamkpkdkojhjaaDoorBuf
import Derived.Stop.LaidErr
import Derived.Stop.LaidTwo
namespace Go.Proofs.YtnamkpkdkojhjaaDoor
open Go.ChangeShapes Go.RowKit

theorem laid_skip {P : Program} {x y : String × DataW Unit} {r : List (String × DataW Unit)} {w : World} (h : laidMet P (x :: y :: r) w) : laidMet P (x :: r) w := by
  obtain ⟨ps, hv, hnd, hrows⟩ := h
  obtain ⟨n, d⟩ := x
  obtain ⟨m, e⟩ := y
  obtain ⟨g, t, cs, fuel, p, q, h1, h2, h3, h4, ⟨g', t', cs', fuel', p', q', _, _, _, _, hq, rfl⟩, rfl⟩ := hv
  have hsub : ∀ a b c : List MemPlace, (a ++ c).Sublist (a ++ (b ++ c)) := fun a b c => List.Sublist.append (List.Sublist.refl a) (List.sublist_append_right b c)
  exact ⟨_, ⟨g, t, cs, fuel, p, q', h1, h2, h3, h4, hq, rfl⟩, List.Nodup.sublist (hsub _ _ _) hnd, fun b off hm => hrows b off ((hsub _ _ _).subset hm)⟩

theorem row55' (u : TypeId) (h : Tryd.prog.typeName? 3 u = some "*errors.errorString") : u = 55 :=
  typeName_ptr_named (nm := "errors.errorString") (by kernel_rfl) (by kernel_rfl) (by decide) u h

theorem sens {W : World} (h : laidMet Tryd.prog [("io.EOF", Rows.laid_io_EOF), ("io.ErrNoProgress", Rows.laid_io_ErrNoProgress), ("bufio.ErrBufferFull", Rows.laid_bufio_ErrBufferFull), ("bufio.errNegativeRead", Rows.laid_bufio_errNegativeRead)] W) :
    ∃ ae af : Addr, W.cell? ⟨0, 0, none⟩ = some (.iface 55 (.pointer (some ae))) ∧ Sen W.heap.size W ae af := by
  have h2 := laid_skip h
  have g0 : Tryd.prog.globalNamed "io.EOF" = some 0 := by kernel_rfl
  have g1 : Tryd.prog.globalNamed "bufio.ErrBufferFull" = some 2 := by kernel_rfl
  obtain ⟨a0, a1, s0, s1, c0, c1, t0, t1, hv0, hv1, _, _, _, _, _, _, hne, hb0, hb1⟩ := laid_sentinels2 h2 g0 (show (Tryd.prog.globals[0]?).map (·.type) = some 28 by kernel_rfl) g1 (show (Tryd.prog.globals[2]?).map (·.type) = some 28 by kernel_rfl)
    Tryd.underlying28 row55' Tryd.underlying55 Tryd.underlying74 rfl rfl (by kernel_rfl) (by kernel_rfl) (by kernel_rfl)
  have e0 : W.cell? ⟨0, 0, none⟩ = some (.iface 55 (.pointer (some a0))) := by simpa using World.var?_cell g0 hv0 0
  have e2 : W.cell? ⟨2, 0, none⟩ = some (.iface 55 (.pointer (some a1))) := by simpa using World.var?_cell g1 hv1 0
  exact ⟨a0, a1, e0, e2, World.block_lt_of_cell? W _ e2, hne, ⟨c0, t0, hb0⟩, ⟨c1, t1, hb1⟩, lt_of_block hb0, lt_of_block hb1⟩
end Go.Proofs.YtnamkpkdkojhjaaDoor
