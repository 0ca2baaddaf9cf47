/- The contract of popenArgs: whatever its argument it hands back the one shell and a new slice of two strings, the flag and the argument. Conditions: the argument is no longer than a string can be. -/
import Derived.Test.YtepbgcokclhoeaaRows
import Derived.WalkKit
namespace Go.Proofs.Ytepbgcokclhoeaa
open Go.RowKit

theorem Hid_mk {p : Prop} (h : p) : Hid p := h

def SH : ByteArray := { data := #[47, 98, 105, 110, 47, 115, 104] }
def FL : ByteArray := { data := #[45, 99] }

def PopenPost (s : ByteArray) (w : World) (e : Ending) (w' : World) : Prop :=
  ∃ g cap cur, e = .returned (.tuple #[.string SH, .slice (some ⟨g, 0, none⟩) 2 cap]) ∧ w.heap.size ≤ g ∧
    w'.heap[g]? = some (.cells cur 9 (0, 0)) ∧ cur[0]? = some (.string FL) ∧ cur[1]? = some (.string s) ∧ 2 ≤ cap ∧ Below w.heap.size w w'

theorem info9 : (Try.prog.info? 9).map (fun i => (i.zero, i.size, i.bytes)) = some (some (.string { data := #[] }), 1, 16) := by kernel_rfl

theorem popen_of_row {s : ByteArray} {B : Nat} {v : Value} {w' : World} (h : w'.ownsRow B 9 1 v 2 [.string FL, .string s]) :
    ∃ g cap cur, v = .slice (some ⟨g, 0, none⟩) 2 cap ∧ B ≤ g ∧ w'.heap[g]? = some (.cells cur 9 (0, 0)) ∧ cur[0]? = some (.string FL) ∧ cur[1]? = some (.string s) ∧ 2 ≤ cap := by
  obtain ⟨_, h2⟩ := h
  rcases h2 with ⟨_, h⟩ | ⟨g, cap, cur, hv, hb, hh, hn, _, hs, ht⟩
  · omega
  · have e0 : (cur.toList.take 2)[0]? = some (Value.string FL) := by rw [ht]; rfl
    have e1 : (cur.toList.take 2)[1]? = some (Value.string s) := by rw [ht]; rfl
    refine ⟨g, cap, cur, hv, hb, hh, ?_, ?_, hn⟩
    · simpa using e0
    · simpa using e1

theorem popen_any (s : ByteArray) (w : World) : Calls Try.prog 5 #[.string s] w (PopenPost s w) := by
  obtain ⟨i0, hi, hz0, hz1, hz2⟩ := info_parts info9
  have hown : (w.alloc (.cells #[.string FL] 9)).ownsRow w.heap.size 9 1 (.slice (some ⟨w.heap.size, 0, none⟩) 1 1) 1 [.string FL] := World.ownsRow_lit w #[.string FL] 1 (Nat.le_refl _) (by unfold maxLen; omega) rfl
  have hO := Hid_mk hown
  clear hown
  go_enter Try.func5, Try.ntmps5
  go_wp2_with (first
    | (at_builtin; refine wpList_append_own _ rfl (.tmp 8) (.tmp 10) 23 rfl w.heap.size 9 i0 (.string { data := #[] }) 1 16 Try.underlying23 hi hz0 hz1 hz2 rfl (by decide) _ 1 [.string FL] rfl (hO.out.alloc _) ⟨w.heap.size + 1, 0, none⟩ 1 1 [.string s] rfl rfl ?c1 ?c2 ?c3 ?c4 ?c5 ?_)
    | go_in)
  case c1 => intro j u hj; match j, hj with | 0, hj => simp at hj; subst hj; simp [Addr.add]
  case c2 => intro u hu; simp at hu; subst hu; rfl
  case c3 => unfold maxLen; omega
  case c4 => omega
  case c5 => simp; omega
  · intro v' w' hown' hgrow _
    have hbel : Below w.heap.size w w' := (((Below.refl _ _).alloc (Nat.le_refl _) _).alloc (by simp) _).grown hgrow (by simp; omega) (fun k h => by simp [Value.ownBlock] at h; omega)
    obtain ⟨g, cap, cur, rfl, hb, hh, h0, h1, hc⟩ := popen_of_row hown'
    have H := Hid_mk (And.intro hb (And.intro hh (And.intro h0 (And.intro h1 (And.intro hc hbel)))))
    clear hb hh h0 h1 hc hbel hgrow hown'
    go_wp2
    go_ret2
    exact ⟨g, cap, cur, rfl, H.out.1, H.out.2.1, H.out.2.2.1, H.out.2.2.2.1, H.out.2.2.2.2.1, H.out.2.2.2.2.2⟩
end Go.Proofs.Ytepbgcokclhoeaa
