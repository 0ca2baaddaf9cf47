/- The contract of bytes.IndexByte for a line's end: where the first one lies, or that there is none. -/
import Derived.Test.YtnamkpkdkojhjaaDoorRdState
import Derived.Lib.Strings
import Derived.Lib.Walk
import Derived.Lib.BytesEntry
namespace Go.Proofs.YtnamkpkdkojhjaaDoor
open Go.RowKit

/-- The first 10 in a row of bytes. -/
def IdxSays (xs : List Int) (r : Int) : Prop :=
  (∃ k : Nat, r = k ∧ k < xs.length ∧ xs.getD k 0 = 10 ∧ ∀ j, j < k → xs.getD j 0 ≠ 10) ∨ (r = -1 ∧ ∀ j, j < xs.length → xs.getD j 0 ≠ 10)

theorem idx_says : ∀ (xs : List Int), (∀ z, z ∈ xs → 0 ≤ z ∧ z ≤ 255) → IdxSays xs (Lib.indexByte (Lib.bytesOf xs) (10 : Int).toNat.toUInt8)
  | [], _ => .inr ⟨rfl, fun j hj => by simp at hj⟩
  | x :: xs, h => by
    have ih := idx_says xs (fun z hz => h z (List.mem_cons_of_mem _ hz))
    have hx := h x (by simp)
    have hcons : Lib.bytesOf (x :: xs) = x.toNat.toUInt8 :: Lib.bytesOf xs := rfl
    rw [hcons]
    unfold Lib.indexByte
    by_cases hx10 : x = 10
    · subst hx10
      rw [if_pos (by decide)]
      exact .inl ⟨0, rfl, by simp, rfl, fun j hj => by omega⟩
    · have hne : ¬ (x.toNat.toUInt8 == (10 : Int).toNat.toUInt8) = true := by
        intro e
        have e1 := congrArg UInt8.toNat (eq_of_beq e)
        simp at e1
        omega
      rw [if_neg hne]
      rcases ih with ⟨k, hk, h1, h2, h3⟩ | ⟨hk, h1⟩
      · rw [if_neg (by rw [hk]; simp)]
        refine .inl ⟨k + 1, by rw [hk]; rfl, by simpa using h1, by simpa using h2, fun j hj => ?_⟩
        cases j with
        | zero => simpa using hx10
        | succ j => simpa using h3 j (by omega)
      · rw [if_pos (by rw [hk]; rfl)]
        refine .inr ⟨rfl, fun j hj => ?_⟩
        cases j with
        | zero => simpa using hx10
        | succ j => simpa using h1 j (by simpa using hj)

set_option maxRecDepth 100000 in
set_option maxHeartbeats 1000000 in
theorem idx_any (b o n c : Nat) (xs : List Int) (w : World) (hx : xs.length = n) (hc : ∀ i, i < n → w.cell? ⟨b, o + i, none⟩ = some (.int .u8 (xs.getD i 0))) (hb : ∀ z, z ∈ xs → 0 ≤ z ∧ z ≤ 255) :
    Calls Tryd.prog 27 #[.slice (some ⟨b, o, none⟩) n c, .int .u8 10] w fun e w' => w = w' ∧ ∃ r, e = .returned (.int .i64 r) ∧ IdxSays xs r := by
  have hs := idx_says xs hb
  go_enter Tryd.func27, Tryd.ntmps27
  go_wp2
  rw [run_callFunc_extern Tryd.func29 (by kernel_rfl) (by kernel_rfl) (by kernel_rfl) (e := Extern.BytealgIndexByte.indexByte) (by kernel_rfl), Lib.run_indexByteSlice w b o n c xs hx hc 10]
  simp only [Result.andThen]
  rw [Oper.upon_value]
  go_wp2
  go_ret
  exact ⟨rfl, _, rfl, hs⟩
end Go.Proofs.YtnamkpkdkojhjaaDoor
