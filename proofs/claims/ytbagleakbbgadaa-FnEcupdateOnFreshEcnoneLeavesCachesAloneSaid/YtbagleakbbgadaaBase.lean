/- Contracts of the small functions over expression contexts (ecnone, shouldmove, savereg, ecupdate and the field readers), each for every argument. Conditions: none. -/
import Derived.Test.YtbagleakbbgadaaRows
import Derived.WalkKit
namespace Go.Proofs.Ytbagleakbbgadaa
open Go.RowKit

theorem Hid_mk {p : Prop} (h : p) : Hid p := h

/-- is it one of the three that are shared -/
def shr (v : Int) : Bool := v == 0 || v == -1 || v == -2

/-- the cells of a context -/
def ecCells (c r v : Int) (s : Bool) : Array Value := #[.int .i64 c, .int .i64 r, .int .i64 v, .bool s]

theorem ecnone_any (v : Int) (w : World) :
    Calls Try.prog 6 #[.int .i64 v] w fun e w' => e = .returned (.pointer (some ⟨w.heap.size, 0, none⟩)) ∧ w.alloc (.cells (ecCells 6 256 v (shr v)) 33) = w' := by
  unfold ecCells
  by_cases h0 : v = 0
  · subst h0
    go_enter Try.func6, Try.ntmps6
    go_wp2
    go_ret
    exact ⟨rfl, rfl⟩
  · by_cases h1 : v = -1
    · subst h1
      go_enter Try.func6, Try.ntmps6
      go_wp2
      go_ret
      exact ⟨rfl, rfl⟩
    · by_cases h2 : v = -2
      · subst h2
        go_enter Try.func6, Try.ntmps6
        go_wp2
        go_ret
        exact ⟨rfl, rfl⟩
      · have e0 : (v == 0) = false := by simpa using h0
        have e1 : (v == -1) = false := by simpa using h1
        have e2 : (v == -2) = false := by simpa using h2
        have e : shr v = false := by simp [shr, h0, h1, h2]
        rw [e]
        clear h0 h1 h2 e
        go_enter Try.func6, Try.ntmps6
        go_wp2
        go_ret
        exact ⟨rfl, rfl⟩

/-- the same, its cells behind a name; what is shared is known -/
theorem ecnone_c (v : Int) (w : World) :
    Calls Try.prog 6 #[.int .i64 v] w fun e w' => e = .returned (.pointer (some ⟨w.heap.size, 0, none⟩)) ∧ ∃ C : Array Value, w.alloc (.cells C 33) = w' ∧ C[0]? = some (.int .i64 6) ∧ C[1]? = some (.int .i64 256) ∧ C[2]? = some (.int .i64 v) ∧ C[3]? = some (.bool (shr v)) :=
  (ecnone_any v w).mono fun _ _ h => ⟨h.1, _, h.2, rfl, rfl, rfl, rfl⟩

theorem shouldmove_none (b : Nat) (reg : Int) (w : World) (h0 : w.cell? ⟨b, 0, none⟩ = some (.int .i64 6)) :
    Calls Try.prog 7 #[.pointer (some ⟨b, 0, none⟩), .int .i64 reg] w fun e w' => e = .returned (.bool false) ∧ w = w' := by
  go_enter Try.func7, Try.ntmps7
  go_wp2
  go_ret
  exact ⟨rfl, rfl⟩

theorem savereg_none (b : Nat) (reg : Int) (w : World) (h0 : w.cell? ⟨b, 0, none⟩ = some (.int .i64 6)) :
    Calls Try.prog 8 #[.pointer (some ⟨b, 0, none⟩), .int .i64 reg] w fun e w' => e = .returned (.int .i64 reg) ∧ w = w' := by
  go_enter Try.func8, Try.ntmps8
  go_wp2
  go_ret
  exact ⟨rfl, rfl⟩

theorem ctype_any (b : Nat) (c : Int) (w : World) (h0 : w.cell? ⟨b, 0, none⟩ = some (.int .i64 c)) :
    Calls Try.prog 10 #[.pointer (some ⟨b, 0, none⟩)] w fun e w' => e = .returned (.int .i64 c) ∧ w = w' := by
  go_enter Try.func10, Try.ntmps10
  go_wp2
  go_ret
  exact ⟨rfl, rfl⟩

theorem reg_any (b : Nat) (c : Int) (w : World) (h0 : w.cell? ⟨b, 1, none⟩ = some (.int .i64 c)) :
    Calls Try.prog 11 #[.pointer (some ⟨b, 0, none⟩)] w fun e w' => e = .returned (.int .i64 c) ∧ w = w' := by
  go_enter Try.func11, Try.ntmps11
  go_wp2
  go_ret
  exact ⟨rfl, rfl⟩

theorem vararg_any (b : Nat) (c : Int) (w : World) (h0 : w.cell? ⟨b, 2, none⟩ = some (.int .i64 c)) :
    Calls Try.prog 12 #[.pointer (some ⟨b, 0, none⟩)] w fun e w' => e = .returned (.int .i64 c) ∧ w = w' := by
  go_enter Try.func12, Try.ntmps12
  go_wp2
  go_ret
  exact ⟨rfl, rfl⟩

theorem isnone_yes (v : Int) (w : World) :
    Calls Try.prog 9 #[.int .i64 6, .int .i64 256, .int .i64 v, .int .i64 v] w fun e w' => e = .returned (.bool true) ∧ w = w' := by
  have e : (v == v) = true := by simp
  go_enter Try.func9, Try.ntmps9
  go_wp2
  go_ret
  exact ⟨rfl, rfl⟩

theorem update_c (b : Nat) (c r u : Int) (C : Array Value) (w : World) (hb : b = w.heap.size) (x0 x1 x2 : Value) (c0 : C[0]? = some x0) (c1 : C[1]? = some x1) (c2 : C[2]? = some x2) (c3 : C[3]? = some (.bool false)) :
    Calls Try.prog 14 #[.pointer (some ⟨b, 0, none⟩), .int .i64 c, .int .i64 r, .int .i64 u] (w.alloc (.cells C 33)) fun e w' => e = .returned (.tuple #[]) ∧ ∃ D : Array Value, w.alloc (.cells D 33) = w' ∧ D[0]? = some (.int .i64 c) ∧ D[1]? = some (.int .i64 r) ∧ D[2]? = some (.int .i64 u) := by
  subst hb
  have k0 : 0 < C.size := (Array.getElem?_eq_some_iff.1 c0).1
  have k1 : 1 < C.size := (Array.getElem?_eq_some_iff.1 c1).1
  have k2 : 2 < C.size := (Array.getElem?_eq_some_iff.1 c2).1
  have d0 : ∀ v, (C.setIfInBounds 0 v)[1]? = some x1 := fun v => by simp [c1]
  have d1 : ∀ v x, ((C.setIfInBounds 0 v).setIfInBounds 1 x)[2]? = some x2 := fun v x => by simp [c2]
  have e0 : (((C.setIfInBounds 0 (.int .i64 c)).setIfInBounds 1 (.int .i64 r)).setIfInBounds 2 (.int .i64 u))[0]? = some (.int .i64 c) := by simp [k0]
  have e1 : (((C.setIfInBounds 0 (.int .i64 c)).setIfInBounds 1 (.int .i64 r)).setIfInBounds 2 (.int .i64 u))[1]? = some (.int .i64 r) := by simp [k1]
  have e2 : (((C.setIfInBounds 0 (.int .i64 c)).setIfInBounds 1 (.int .i64 r)).setIfInBounds 2 (.int .i64 u))[2]? = some (.int .i64 u) := by simp [k2]
  have H := Hid_mk (And.intro e0 (And.intro e1 e2))
  clear e0 e1 e2 k0 k1 k2
  go_enter Try.func14, Try.ntmps14
  go_wp2
  go_end0
  go_wp2
  go_end0
  exact ⟨rfl, _, rfl, H.out.1, H.out.2.1, H.out.2.2⟩
end Go.Proofs.Ytbagleakbbgadaa
