/- The contract of the maker of a buffered reader over a slice of bytes. -/
import Derived.Test.YtnamkpkdkojhjaaDoorRdState
namespace Go.Proofs.YtnamkpkdkojhjaaDoor
open Go.RowKit

theorem infoByte : (Tryd.prog.info? 5).map (fun i => (i.zero, i.size, i.bytes)) = some (some (.int .u8 0), 1, 1) := by kernel_rfl
theorem assert_no (a : Addr) (w : World) : (Instr.typeAssert (.iface 35 (.pointer (some a))) 38 25 true).run Tryd.prog w = .ok (.tuple #[.pointer none, .bool false]) w := by kernel_rfl

theorem made_row {w : World} {base n g cap : Nat} {xs : List Value} {e : TypeId} (h : w.ownsRow base e 1 (.slice (some ⟨g, 0, none⟩) n cap) n xs) (hc : cap = n) : ∃ P : Array Value, w.heap[g]? = some (.cells P e (0, 0)) ∧ P.size = n := by
  rcases h.2 with ⟨h', _⟩ | ⟨g', cap', cur, h', _, hg, _, _, hs, _⟩
  · simp at h'
  · simp only [Value.slice.injEq, Option.some.injEq, Addr.mk.injEq, and_true, true_and] at h'
    obtain ⟨rfl, rfl⟩ := h'
    exact ⟨cur, hg, by omega⟩

set_option maxHeartbeats 1000000 in
theorem reset_any (R Bf Y : Nat) (w3 : World) (r3 : w3.heap[R]? = some (.cells #[.slice none 0 0, .nilIface, .int .i64 0, .int .i64 0, .nilIface, .int .i64 0, .int .i64 0] 48 (0, 0))) :
    Calls Tryd.prog 23 #[.pointer (some ⟨R, 0, none⟩), .slice (some ⟨Bf, 0, none⟩) 4096 4096, .iface 35 (.pointer (some ⟨Y, 0, none⟩))] w3 fun e w' => e = .returned (.tuple #[]) ∧
      w'.heap[R]? = some (.cells #[.slice (some ⟨Bf, 0, none⟩) 4096 4096, .iface 35 (.pointer (some ⟨Y, 0, none⟩)), .int .i64 0, .int .i64 0, .nilIface, .int .i64 (-1), .int .i64 (-1)] 48 (0, 0)) ∧ Fr [R] w3 w' := by
  have c0 := cellAt (j := 0) r3 rfl
  have c1 := cellAt (j := 1) r3 rfl
  have c2 := cellAt (j := 2) r3 rfl
  have c3 := cellAt (j := 3) r3 rfl
  have c4 := cellAt (j := 4) r3 rfl
  have c5 := cellAt (j := 5) r3 rfl
  have c6 := cellAt (j := 6) r3 rfl
  have hfz : ∀ j, w3.frozen? ⟨R, j, none⟩ = false := fun j => frozen_of_row _ _ _ _ _ r3
  have f0 := hfz 0
  have f1 := hfz 1
  have f2 := hfz 2
  have f3 := hfz 3
  have f4 := hfz 4
  have f5 := hfz 5
  have f6 := hfz 6
  have H := Hid_mk r3
  clear r3 hfz
  go_enter Tryd.func23, Tryd.ntmps23
  go_wp2_with fail
  go_end0
  have s0 := heap_setCell_same _ R 0 _ _ (.slice (some ⟨Bf, 0, none⟩) 4096 4096) H.out
  have s1 := heap_setCell_same _ R 1 _ _ (.iface 35 (.pointer (some ⟨Y, 0, none⟩))) s0
  have s2 := heap_setCell_same _ R 2 _ _ (.int .i64 0) s1
  have s3 := heap_setCell_same _ R 3 _ _ (.int .i64 0) s2
  have s4 := heap_setCell_same _ R 4 _ _ .nilIface s3
  have s5 := heap_setCell_same _ R 5 _ _ (.int .i64 (-1)) s4
  have s6 := heap_setCell_same _ R 6 _ _ (.int .i64 (-1)) s5
  refine ⟨rfl, ?_, (((((((Fr.refl _ _).setCell (by simp) _).setCell (by simp) _).setCell (by simp) _).setCell (by simp) _).setCell (by simp) _).setCell (by simp) _).setCell (by simp) _⟩
  rw [s6]
  simp

def NewPost (w : World) (sv : Value) (bs : List Int) (e : Ending) (w' : World) : Prop :=
  ∃ R Bf Y, e = .returned (.pointer (some ⟨R, 0, none⟩)) ∧ Reader w' R Bf Y sv bs 0 ∧ Fr [] w w' ∧ (∀ x, x ∈ [R, Y, Bf] → w.heap.size ≤ x)

set_option maxRecDepth 100000 in
set_option maxHeartbeats 1000000 in
theorem new_any (sa : Option Addr) (bs : List Int) (w : World) :
    Calls Tryd.prog 9 #[.slice sa bs.length bs.length] w (NewPost w (.slice sa bs.length bs.length) bs) := by
  obtain ⟨i0, hi, hz0, hz1, hz2⟩ := info_parts infoByte
  generalize hL : bs.length = L
  have HL := Hid_mk hL
  clear hL
  have hta := assert_no
  go_enter Tryd.func9, Tryd.ntmps9
  go_wp2_with (first | (at_make; refine wpList_make_full _ rfl (.tmp 27) (.tmp 27) 22 rfl (w.heap.size + 2) 5 i0 (.int .u8 0) 1 Tryd.underlying22 hi hz0 hz1 .i64 .i64 4096 4096 4096 rfl rfl rfl rfl ?c1 ?c2 ?c3 ?_) | (go_at_call 17; go_in) | (go_at_call 16; go_in) | (go_at_call 20; go_in))
  case c1 => rw [hz2]; omega
  case c2 => unfold maxLen; omega
  case c3 => simp
  intro w3 hown hgrow
  obtain ⟨C, hB, hC⟩ := made_row hown rfl
  have q1 : (w.alloc (.cells #[.slice sa L L, .int .i64 0, .int .i64 (-1)] 41)).heap.size = w.heap.size + 1 := by simp
  have y1 := heap_alloc_new w (.cells #[.slice sa L L, .int .i64 0, .int .i64 (-1)] 41)
  have F1 := (Fr.refl [] w).alloc (.cells #[.slice sa L L, .int .i64 0, .int .i64 (-1)] 41)
  generalize w.alloc (.cells #[.slice sa L L, .int .i64 0, .int .i64 (-1)] 41) = u at q1 y1 F1 hgrow
  have r1 := heap_alloc_new u (.cells #[.slice none 0 0, .nilIface, .int .i64 0, .int .i64 0, .nilIface, .int .i64 0, .int .i64 0] 48)
  rw [q1] at r1
  have y2 : (u.alloc (.cells #[.slice none 0 0, .nilIface, .int .i64 0, .int .i64 0, .nilIface, .int .i64 0, .int .i64 0] 48)).heap[w.heap.size]? = _ := (Below.heap_alloc _ _ _ (by omega)).trans y1
  have q2 : (u.alloc (.cells #[.slice none 0 0, .nilIface, .int .i64 0, .int .i64 0, .nilIface, .int .i64 0, .int .i64 0] 48)).heap.size = w.heap.size + 2 := by simp [q1]
  have F2 := F1.alloc (.cells #[.slice none 0 0, .nilIface, .int .i64 0, .int .i64 0, .nilIface, .int .i64 0, .int .i64 0] 48)
  generalize u.alloc (.cells #[.slice none 0 0, .nilIface, .int .i64 0, .int .i64 0, .nilIface, .int .i64 0, .int .i64 0] 48) = x at r1 y2 q2 F2 hgrow
  have y3 : w3.heap[w.heap.size]? = _ := (hgrow.block _ (by omega) (by simp)).trans y2
  have r3 : w3.heap[w.heap.size + 1]? = _ := (hgrow.block _ (by omega) (by simp)).trans r1
  have F3 := F2.grown hgrow (fun g h => by cases h)
  have H := Hid_mk (And.intro y3 (And.intro r3 (And.intro hB (And.intro hC F3))))
  clear hown hgrow hi hz0 hz1 hz2 hB hC q1 y1 F1 r1 y2 q2 F2 y3 r3 F3
  go_wp2_with fail
  refine (reset_any (w.heap.size + 1) (w.heap.size + 1 + 1) w.heap.size w3 H.out.2.1).mono ?_
  rintro e w4 ⟨rfl, hR4, hF4⟩
  have H4 := Hid_mk (And.intro hR4 hF4)
  clear hR4 hF4
  go_wp2_with fail
  go_ret
  have hY4 := H4.out.2.at H.out.1 (by simp)
  have hB4 := H4.out.2.at H.out.2.2.1 (by simp)
  refine ⟨w.heap.size + 1, w.heap.size + 1 + 1, w.heap.size, rfl, ⟨0, 0, 0, -1, -1, -1, C, ⟨H4.out.1, hB4, H.out.2.2.2.1, hY4, Nat.le_refl _, by omega, by omega, Nat.zero_le _, fun j h1 h2 => by omega⟩⟩, ?_, ?_⟩
  · have F3 := H.out.2.2.2.2
    have F4 := H4.out.2
    exact ⟨F4.os.trans F3.os, F4.tape.trans F3.tape, F4.output.trans F3.output, Nat.le_trans F3.size F4.size, fun b hb _ => (F4.block b (Nat.lt_of_lt_of_le hb F3.size) (by simp; omega)).trans (F3.block b hb (by simp))⟩
  · intro x hx
    simp at hx
    omega
end Go.Proofs.YtnamkpkdkojhjaaDoor
