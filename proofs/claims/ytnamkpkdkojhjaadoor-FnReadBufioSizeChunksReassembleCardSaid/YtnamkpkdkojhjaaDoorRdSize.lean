/- The contract of readBufioSize over a buffered reader of a slice of bytes. -/
import Derived.Test.YtnamkpkdkojhjaaDoorRdAll
import Derived.Test.YtnamkpkdkojhjaaDoorRdNew
import Derived.Deep.LoopGhost
import Derived.BigQuiet
import Derived.Deep.QuietTactic
import Derived.LaidEql
namespace Go.Proofs.YtnamkpkdkojhjaaDoor
open Go.RowKit

theorem comp55 : (Tryd.prog.info? 55).map (·.comparable) = some true := by kernel_rfl
theorem size74 : (Tryd.prog.info? 74).map (·.size) = some 1 := by kernel_rfl
theorem eof_same (a : Addr) (w : World) : (binOp .eql 28 (.iface 55 (.pointer (some a))) (.iface 55 (.pointer (some a)))).run Tryd.prog w = .ok (.bool true) w := by
  obtain ⟨i, hi, hcmp⟩ := Option.map_eq_some_iff.1 comp55
  obtain ⟨j, hj, _⟩ := Option.map_eq_some_iff.1 size74
  exact run_eql_iface_ptr_same w a Tryd.underlying28 Tryd.underlying55 hi hcmp hj
theorem nil_eof (a : Addr) (w : World) : (binOp .eql 28 .nilIface (.iface 55 (.pointer (some a)))).run Tryd.prog w = .ok (.bool false) w :=
  run_eql_iface_nil_left w 55 _ Tryd.underlying28

theorem Fr.comp {S T : List Nat} {a b c : World} (h : Fr S a b) (k : Fr T b c) (hT : ∀ x, x ∈ T → x ∈ S ∨ a.heap.size ≤ x) : Fr S a c :=
  ⟨k.os.trans h.os, k.tape.trans h.tape, k.output.trans h.output, Nat.le_trans h.size k.size, fun x hx hS =>
    (k.block x (Nat.lt_of_lt_of_le hx h.size) (fun hm => by
      rcases hT x hm with h1 | h1
      · exact hS h1
      · omega)).trans (h.block x hx hS)⟩

theorem seg_snoc (bs : List Int) (c m k : Nat) : seg bs c m ++ seg bs (c + m) k = seg bs c (m + k) := by
  unfold seg
  rw [← List.map_append, ← List.drop_drop]
  congr 1
  rw [List.take_add]

def SizePost (w : World) (R Bf Y : Nat) (sv : Value) (bs : List Int) (c n : Nat) (e : Ending) (w' : World) : Prop :=
  ∃ v m, m = min n (bs.length - c) ∧ e = .returned (.tuple #[v, .nilIface, .bool (decide (c = bs.length ∧ 0 < n))]) ∧ w'.ownsRow w.heap.size 5 1 v m (seg bs c m) ∧ Reader w' R Bf Y sv bs (c + m) ∧ Fr [R, Y, Bf] w w'

theorem Reader.fr {w w' : World} {R Bf Y : Nat} {sv : Value} {bs : List Int} {c : Nat} {S : List Nat} (h : Reader w R Bf Y sv bs c) (k : Fr S w w') (h1 : R ∉ S) (h2 : Bf ∉ S) (h3 : Y ∉ S) : Reader w' R Bf Y sv bs c := by
  obtain ⟨r, wp, i, lb, lr, pr, C, h⟩ := h
  exact ⟨r, wp, i, lb, lr, pr, C, h.fr k h1 h2 h3⟩
theorem Reader.lt {w : World} {R Bf Y : Nat} {sv : Value} {bs : List Int} {c : Nat} (h : Reader w R Bf Y sv bs c) : R < w.heap.size ∧ Bf < w.heap.size ∧ Y < w.heap.size := by
  obtain ⟨r, wp, i, lb, lr, pr, C, h⟩ := h
  exact ⟨lt_of_block h.hR, lt_of_block h.hB, lt_of_block h.hY⟩
theorem Reader.cl {w : World} {R Bf Y : Nat} {sv : Value} {bs : List Int} {c : Nat} (h : Reader w R Bf Y sv bs c) : c ≤ bs.length := by
  obtain ⟨r, wp, i, lb, lr, pr, C, h⟩ := h
  exact h.cl

theorem own_form {w : World} {base : Nat} {v : Value} {n : Nat} {xs : List Value} (h : w.ownsRow base 5 1 v n xs) : ∃ a cap, v = .slice a n cap ∧ ∀ g, v.ownBlock = some g → a = some ⟨g, 0, none⟩ := by
  rcases h.2 with ⟨h1, h2⟩ | ⟨g, cap, cur, h1, _⟩
  · subst h2; exact ⟨none, 0, h1, fun g hg => by rw [h1] at hg; simp [Value.ownBlock] at hg⟩
  · exact ⟨_, cap, h1, fun g' hg => by rw [h1] at hg; simp [Value.ownBlock] at hg; rw [hg]⟩
theorem own_fr {w w' : World} {base : Nat} {v : Value} {n : Nat} {xs : List Value} {S : List Nat} (h : w.ownsRow base 5 1 v n xs) (k : Fr S w w') (hS : ∀ g, v.ownBlock = some g → g ∉ S) : w'.ownsRow base 5 1 v n xs := by
  refine ⟨h.1, ?_⟩
  rcases h.2 with hn | ⟨g, cap, cur, rfl, hb, hg, rest⟩
  · exact .inl hn
  · exact .inr ⟨g, cap, cur, rfl, hb, k.at hg (hS g rfl), rest⟩

set_option maxRecDepth 100000 in
set_option maxHeartbeats 2000000 in
theorem size_any (base R Bf Y : Nat) (sv : Value) (bs : List Int) (ae : Addr) (c n : Nat) (w : World) (hs : Src base w sv bs (.iface 55 (.pointer (some ae)))) (h : Reader w R Bf Y sv bs c)
    (hn : n ≤ 65536) (hSS : ∀ x, x ∈ [R, Y, Bf] → base ≤ x) :
    Calls Tryd.prog 18 #[.pointer (some ⟨R, 0, none⟩), .int .i64 n] w (SizePost w R Bf Y sv bs c n) := by
  obtain ⟨i0, hi, hz0, hz1, hz2⟩ := info_parts infoByte
  have heq1 := eof_same ae
  have heq2 := nil_eof ae
  obtain ⟨l1, l2, l3⟩ := h.lt
  have hcl := h.cl
  have hlen := hs.len
  have H0 := Hid_mk (And.intro hs (And.intro h hSS))
  clear hs h hSS
  go_enter Tryd.func18, Tryd.ntmps18
  go_wp2_with fail
  have hw1 := World.ownsRow_made (base := w.heap.size) (size := 1) (e := 5) w #[] 0 (Nat.le_refl _) (Nat.zero_le _) rfl
  have FA := (Fr.refl [R, Y, Bf] w).alloc (.cells #[] 5)
  have FB := (Fr.refl [] w).alloc (.cells #[] 5)
  generalize w.alloc (.cells #[] 5) = w1 at hw1 FA FB
  have h1 : Reader w1 R Bf Y sv bs c := H0.out.2.1.fr (S := []) FB (by simp) (by simp) (by simp)
  have H1 := Hid_mk (And.intro hw1 (And.intro h1 FA))
  clear hw1 h1 FA FB
  go_loopg [7, 8, 9] n (fun gk v i er wr => ∃ m : Nat, m + gk = n ∧ i = .int .i64 m ∧ er = .nilIface ∧ Reader wr R Bf Y sv bs (c + m) ∧ wr.ownsRow w.heap.size 5 1 v m (seg bs c m) ∧ Fr [R, Y, Bf] w wr)
  case atStart => exact ⟨0, by omega, rfl, rfl, H1.out.2.1, H1.out.1, H1.out.2.2⟩
  case round =>
    obtain ⟨m, hm, rfl, rfl, hr, ho, hf⟩ := hrel
    have hcm := hr.cl
    obtain ⟨ga, gc, rfl, hga⟩ := own_form ho
    by_cases hlt : m = n
    · subst hlt
      have hs2 : Src base wr sv bs (.iface 55 (.pointer (some ae))) := H0.out.1.below (hf.below H0.out.1.top H0.out.2.2)
      have ceof := hs2.eofc
      have hd : decide (c = bs.length ∧ 0 < m) = false := decide_eq_false (by omega)
      have hmin : m = min m (bs.length - c) := by omega
      have HH := Hid_mk (And.intro hr (And.intro ho (And.intro hf (And.intro hd hmin))))
      clear hm hr ho hf hd hmin hga hs2
      by_cases h0 : m = 0
      · have hz : ((m : Int) == 0) = true := by simp; omega
        go_wp2_with fail
        go_quiet (fail)
        go_wp2_with fail
        go_ret3
        refine ⟨_, m, HH.out.2.2.2.2, ?_, HH.out.2.1, ?_, HH.out.2.2.1.drewN _⟩
        · rw [HH.out.2.2.2.1]; rfl
        · exact HH.out.1.fr ((Fr.refl [] _).drewN _) (by simp) (by simp) (by simp)
      · have hz : ((m : Int) == 0) = false := by simp; omega
        go_wp2_with fail
        go_quiet (fail)
        go_wp2_with fail
        go_ret3
        refine ⟨_, m, HH.out.2.2.2.2, ?_, HH.out.2.1, ?_, HH.out.2.2.1.drewN _⟩
        · rw [HH.out.2.2.2.1]; rfl
        · exact HH.out.1.fr ((Fr.refl [] _).drewN _) (by simp) (by simp) (by simp)
    · obtain ⟨k1, k2, k3⟩ := hr.lt
      have hneq : ((m : Int) == (n : Int)) = false := by simp; omega
      have hsub : (n : Int) - (m : Int) = (gk : Int) := by omega
      have HH := Hid_mk (And.intro hm (And.intro hr (And.intro ho hf)))
      clear hm hr ho hf
      go_wp2_with (at_make; refine wpList_make_full _ rfl (.tmp 19) (.tmp 19) 22 rfl wr.heap.size 5 i0 (.int .u8 0) 1 Tryd.underlying22 hi hz0 hz1 .i64 .i64 (gk : Int) (gk : Int) gk rfl rfl rfl rfl ?c1 ?c2 (Nat.le_refl _) ?_)
      case c1 => first | omega | (rw [hz2]; omega)
      case c2 => unfold maxLen; omega
      intro w2 hown hgrow
      obtain ⟨D, hD, hDs⟩ := made_row hown rfl
      have hr2 : Reader w2 R Bf Y sv bs (c + m) := HH.out.2.1.fr (S := []) ((Fr.refl [] wr).grown hgrow (fun g h => by cases h)) (by simp) (by simp) (by simp)
      have ho2 := HH.out.2.2.1.kept hgrow (by cases ga <;> simp [Value.ownBlock])
      have hf2 : Fr [R, Y, Bf] w w2 := HH.out.2.2.2.grown hgrow (fun g h => by cases h)
      have hs2 : Src base w2 sv bs (.iface 55 (.pointer (some ae))) := H0.out.1.below (hf2.below H0.out.1.top H0.out.2.2)
      have hrlt := HH.out.2.2.2.size
      have htop := H0.out.1.top
      have hread := read_any base R Bf Y wr.heap.size sv bs 55 ae (c + m) gk D w2 hs2 hr2 (by have := HH.out.1; omega) (by have := HH.out.1; omega) hD hDs (by omega) (by
        intro x hx
        simp at hx
        have := H0.out.2.2
        rcases hx with h | h | h | h
        · exact this x (by simp [h])
        · exact this x (by simp [h])
        · exact this x (by simp [h])
        · omega)
      have hvlt := fun g hg => (HH.out.2.2.1.lt g hg).2
      generalize hP : wr.heap.size = P at hread hD hvlt
      have H2 := Hid_mk (And.intro hread (And.intro ho2 (And.intro hf2 (And.intro hvlt (And.intro hP (And.intro hrlt hDs))))))
      clear hown hgrow hread ho2 hf2 hvlt hP hrlt hD hr2 hs2 hDs htop
      go_wp2_with fail
      refine H2.out.1.mono ?_
      rintro e w3 (⟨hc, rfl, hr3, hf3⟩ | ⟨k, hk0, hkg, hck, rfl, hr3, ⟨E, hE, hEs, hEc⟩, hf3⟩)
      · have hfa : Fr [R, Y, Bf] w w3 := H2.out.2.2.1.comp hf3 (by intro x hx; simp at hx ⊢; have h1 := H2.out.2.2.2.2.1; have h2 := H2.out.2.2.2.2.2.1; rcases hx with h | h | h | h <;> simp [h]; omega)
        have ho3 := own_fr H2.out.2.1 hf3 (by
          intro g hg
          have h1 := H2.out.2.2.2.1 g hg
          have h2 := (HH.out.2.2.1.lt g hg).1
          simp; omega)
        have hs3 : Src base w3 sv bs (.iface 55 (.pointer (some ae))) := H0.out.1.below (hfa.below H0.out.1.top H0.out.2.2)
        have ceof := hs3.eofc
        have hmin : m = min n (bs.length - c) := by have := HH.out.1; omega
        have hn0 : 0 < n := by have := HH.out.1; omega
        have H3 := Hid_mk (And.intro hfa (And.intro ho3 (And.intro hr3 hmin)))
        clear hfa ho3 hs3 hr3 hmin hf3
        by_cases h0 : m = 0
        · subst h0
          have hd : decide (c = bs.length ∧ 0 < n) = true := decide_eq_true ⟨by omega, hn0⟩
          have HD := Hid_mk hd
          clear hd hc
          go_wp2_with fail
          go_quiet (fail)
          go_wp2_with fail
          go_ret3
          refine ⟨_, 0, H3.out.2.2.2, ?_, H3.out.2.1, ?_, H3.out.1.drewN _⟩
          · rw [HD.out]; rfl
          · exact H3.out.2.2.1.fr ((Fr.refl [] _).drewN _) (by simp) (by simp) (by simp)
        · have hz : ((m : Int) == 0) = false := by simp; omega
          have hd : decide (c = bs.length ∧ 0 < n) = false := decide_eq_false (by omega)
          have HD := Hid_mk hd
          clear hd hc
          go_wp2_with fail
          go_quiet (fail)
          go_wp2_with fail
          go_ret3
          refine ⟨_, m, H3.out.2.2.2, ?_, H3.out.2.1, ?_, H3.out.1.drewN _⟩
          · rw [HD.out]; rfl
          · exact H3.out.2.2.1.fr ((Fr.refl [] _).drewN _) (by simp) (by simp) (by simp)
      · have hfa : Fr [R, Y, Bf] w w3 := H2.out.2.2.1.comp hf3 (by intro x hx; simp at hx ⊢; have h1 := H2.out.2.2.2.2.1; have h2 := H2.out.2.2.2.2.2.1; rcases hx with h | h | h | h <;> simp [h]; omega)
        have ho3 := own_fr H2.out.2.1 hf3 (by
          intro g hg
          have h1 := H2.out.2.2.2.1 g hg
          have h2 := (HH.out.2.2.1.lt g hg).1
          simp; omega)
        have hkn : k ≤ 65536 := by have := HH.out.1; omega
        have hmn : m ≤ 65536 := by have := HH.out.1; omega
        have hck2 : c + m + k ≤ bs.length := hck
        have hl := seg_length hck2
        have hnews : ∀ j u, (seg bs (c + m) k)[j]? = some u → w3.cell? ((⟨P, 0, none⟩ : Addr).add j) = some u := by
          intro j u hj
          have hjk : j < k := by rw [← hl]; exact (List.getElem?_eq_some_iff.1 hj).1
          rw [seg_get hck2 hjk] at hj
          rw [Addr.add_lit, Nat.zero_add]
          exact (cellAt hE (hEc j hjk)).trans hj
        have hbase : w.heap.size ≤ w3.heap.size := hfa.size
        have hgS : ∀ g, (Value.slice ga m gc).ownBlock = some g → w.heap.size ≤ g := fun g hg => (HH.out.2.2.1.lt g hg).1
        have H3 := Hid_mk (And.intro hfa (And.intro ho3 (And.intro hr3 (And.intro hl (And.intro hnews (And.intro hbase hgS))))))
        have hone := seg_one bs (c + m) k
        have HO := Hid_mk hone
        clear hfa ho3 hr3 hf3 hE hEs hEc hl hnews hbase hgS hone hga
        go_wp2_with (at_builtin; refine wpList_append_own _ rfl (.tmp 32) (.tmp 35) 22 rfl w.heap.size 5 i0 (.int .u8 0) 1 1 Tryd.underlying22 hi hz0 hz1 hz2 rfl (by omega) (.slice ga m gc) m (seg bs c m) rfl H3.out.2.1 ⟨P, 0, none⟩ k gk (seg bs (c + m) k) rfl (by rw [H3.out.2.2.2.1]; omega) H3.out.2.2.2.2.1 HO.out (by unfold maxLen; omega) (by omega) H3.out.2.2.2.2.2.1 ?_)
        intro v' w4 hown4 hgrow4 hnil4
        have hf4 : Fr [R, Y, Bf] w w4 := by
          refine H3.out.1.comp (T := match (Value.slice ga m gc).ownBlock with | some g => [g] | none => []) ((Fr.refl _ _).grown hgrow4 (fun g hg => by rw [hg]; simp)) ?_
          intro x hx
          cases hb : (Value.slice ga m gc).ownBlock with
          | none => rw [hb] at hx; cases hx
          | some g =>
            rw [hb] at hx
            simp at hx
            subst hx
            exact .inr (H3.out.2.2.2.2.2.2 x hb)
        have hr4 : Reader w4 R Bf Y sv bs (c + (m + k)) := by
          rw [← Nat.add_assoc]
          refine H3.out.2.2.1.fr (S := match (Value.slice ga m gc).ownBlock with | some g => [g] | none => []) ((Fr.refl _ _).grown hgrow4 (fun g hg => by rw [hg]; simp)) ?_ ?_ ?_
          all_goals
            cases hb : (Value.slice ga m gc).ownBlock with
            | none => simp
            | some g =>
              have := H3.out.2.2.2.2.2.2 g hb
              simp; omega
        have ho4 := seg_snoc bs c m k ▸ hown4
        have H4 := Hid_mk (And.intro hf4 (And.intro hr4 ho4))
        clear hown4 hgrow4 hnil4 hf4 hr4 ho4
        go_wp2_with fail
        go_roundg (gk - k)
        case rel => exact ⟨m + k, by have := HH.out.1; omega, by go_num, rfl, H4.out.2.1, H4.out.2.2, H4.out.1⟩
        case measure => omega
end Go.Proofs.YtnamkpkdkojhjaaDoor
