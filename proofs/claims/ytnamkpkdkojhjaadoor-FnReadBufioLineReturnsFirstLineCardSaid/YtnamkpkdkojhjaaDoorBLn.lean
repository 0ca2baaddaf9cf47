/- The contract of readBufioLine over a buffered reader of a slice of bytes. -/
import Derived.Test.YtnamkpkdkojhjaaDoorRLn
import Derived.Test.YtnamkpkdkojhjaaDoorRdNew
import Derived.Deep.LoopGhost
import Derived.BigQuiet
import Derived.Deep.QuietTactic
namespace Go.Proofs.YtnamkpkdkojhjaaDoor
open Go.RowKit

theorem Fr.comp {S T : List Nat} {a b c : World} (h : Fr S a b) (k : Fr T b c) (hT : ∀ x, x ∈ T → x ∈ S ∨ a.heap.size ≤ x) : Fr S a c :=
  ⟨k.os.trans h.os, k.tape.trans h.tape, k.output.trans h.output, Nat.le_trans h.size k.size, fun x hx hS =>
    (k.block x (Nat.lt_of_lt_of_le hx h.size) (fun hm => by
      rcases hT x hm with h1 | h1
      · exact hS h1
      · omega)).trans (h.block x hx hS)⟩
theorem seg_snoc (bs : List Int) (c m k : Nat) : seg bs c m ++ seg bs (c + m) k = seg bs c (m + k) := by
  unfold seg
  rw [← List.map_append, ← List.drop_drop]
  congr 1
  rw [List.take_add]
theorem own_form {w : World} {base : Nat} {v : Value} {n : Nat} {xs : List Value} (h : w.ownsRow base 5 1 v n xs) : ∃ a cap, v = .slice a n cap ∧ ∀ g, v.ownBlock = some g → a = some ⟨g, 0, none⟩ := by
  rcases h.2 with ⟨h1, h2⟩ | ⟨g, cap, cur, h1, _⟩
  · subst h2; exact ⟨none, 0, h1, fun g hg => by rw [h1] at hg; simp [Value.ownBlock] at hg⟩
  · exact ⟨_, cap, h1, fun g' hg => by rw [h1] at hg; simp [Value.ownBlock] at hg; rw [hg]⟩
theorem own_fr {w w' : World} {base : Nat} {v : Value} {n : Nat} {xs : List Value} {S : List Nat} (h : w.ownsRow base 5 1 v n xs) (k : Fr S w w') (hS : ∀ g, v.ownBlock = some g → g ∉ S) : w'.ownsRow base 5 1 v n xs := by
  refine ⟨h.1, ?_⟩
  rcases h.2 with hn | ⟨g, cap, cur, rfl, hb, hg, rest⟩
  · exact .inl hn
  · exact .inr ⟨g, cap, cur, rfl, hb, k.at hg (hS g rfl), rest⟩
theorem Liner.fr {w w' : World} {R Bf Y : Nat} {sv : Value} {bs : List Int} {c : Nat} {ev : Value} {S : List Nat} (h : Liner w R Bf Y sv bs c ev) (k : Fr S w w') (h1 : R ∉ S) (h2 : Bf ∉ S) (h3 : Y ∉ S) : Liner w' R Bf Y sv bs c ev := by
  obtain ⟨r, wp, i, lb, lr, pr, C, h⟩ := h
  exact ⟨r, wp, i, lb, lr, pr, C, h.fr k h1 h2 h3⟩
theorem Liner.lt {w : World} {R Bf Y : Nat} {sv : Value} {bs : List Int} {c : Nat} {ev : Value} (h : Liner w R Bf Y sv bs c ev) : R < w.heap.size ∧ Bf < w.heap.size ∧ Y < w.heap.size := by
  obtain ⟨r, wp, i, lb, lr, pr, C, h⟩ := h
  exact ⟨lt_of_block h.hR, lt_of_block h.hB, lt_of_block h.hY⟩
theorem Liner.cl {w : World} {R Bf Y : Nat} {sv : Value} {bs : List Int} {c : Nat} {ev : Value} (h : Liner w R Bf Y sv bs c ev) : c ≤ bs.length := by
  obtain ⟨r, wp, i, lb, lr, pr, C, h⟩ := h
  exact h.cl

/-- The line that begins at c has n bytes; what follows it begins at c2. -/
def LineIs (bs : List Int) (c n c2 : Nat) : Prop :=
  (c2 = bs.length ∧ c + n = bs.length ∧ ∀ j, j < n → bs.getD (c + j) 0 ≠ 10) ∨
  (∃ m, c2 = c + m + 1 ∧ c + m < bs.length ∧ bs.getD (c + m) 0 = 10 ∧ (∀ j, j < m → bs.getD (c + j) 0 ≠ 10) ∧ ((n = m ∧ (m = 0 ∨ bs.getD (c + m - 1) 0 ≠ 13)) ∨ (m = n + 1 ∧ bs.getD (c + n) 0 = 13)))

def BLPost (w : World) (R Bf Y : Nat) (sv : Value) (bs : List Int) (c : Nat) (e : Ending) (w' : World) : Prop :=
  ∃ v n c2, v ≠ .slice none 0 0 ∧ e = .returned (.tuple #[v, .nilIface, .bool (decide (c = bs.length))]) ∧ w'.ownsRow w.heap.size 5 1 v n (seg bs c n) ∧ LineIs bs c n c2 ∧ Liner w' R Bf Y sv bs c2 .nilIface ∧ Fr [R, Y, Bf] w w'

/-- At the head of the loop: m bytes of the line have been read. -/
def BLRel (w : World) (R Bf Y : Nat) (sv : Value) (bs : List Int) (c : Nat) (gk : Nat) (v5 v7 v8 : Value) (wr : World) : Prop :=
  v7 = .nilIface ∧ v5 ≠ .slice none 0 0 ∧ ∃ m b, v8 = .bool b ∧ wr.ownsRow w.heap.size 5 1 v5 m (seg bs c m) ∧ Fr [R, Y, Bf] w wr ∧ c + m ≤ bs.length ∧
    ((b = true ∧ gk = bs.length - (c + m) + 1 ∧ Liner wr R Bf Y sv bs (c + m) .nilIface ∧ (∀ j, j < m → bs.getD (c + j) 0 ≠ 10) ∧ (m = 0 ∨ bs.getD (c + m - 1) 0 ≠ 13 ∨ bs.getD (c + m) 0 = 13)) ∨
     (b = false ∧ gk = 0 ∧ c < bs.length ∧ ∃ c2, LineIs bs c m c2 ∧ Liner wr R Bf Y sv bs c2 .nilIface))

theorem no_join {bs : List Int} {c m n : Nat} (h1 : ∀ j, j < m → bs.getD (c + j) 0 ≠ 10) (h2 : ∀ j, j < n → bs.getD (c + m + j) 0 ≠ 10) : ∀ j, j < m + n → bs.getD (c + j) 0 ≠ 10 := by
  intro j hj
  by_cases h : j < m
  · exact h1 j h
  · have := h2 (j - m) (by omega)
    rwa [show c + m + (j - m) = c + j by omega] at this
theorem line_join {bs : List Int} {c m n k c2 : Nat} (h1 : ∀ j, j < m → bs.getD (c + j) 0 ≠ 10) (hl : m = 0 ∨ bs.getD (c + m - 1) 0 ≠ 13 ∨ bs.getD (c + m) 0 = 13) (hc : c2 = c + m + k + 1) (hk : c + m + k < bs.length)
    (h10 : bs.getD (c + m + k) 0 = 10) (h2 : ∀ j, j < k → bs.getD (c + m + j) 0 ≠ 10) (hn : (n = k ∧ (k = 0 ∨ bs.getD (c + m + k - 1) 0 ≠ 13)) ∨ (k = n + 1 ∧ bs.getD (c + m + n) 0 = 13)) : LineIs bs c (m + n) c2 := by
  refine .inr ⟨m + k, by omega, by omega, by rw [← Nat.add_assoc]; exact h10, no_join h1 h2, ?_⟩
  rcases hn with ⟨rfl, h⟩ | ⟨rfl, h⟩
  · refine .inl ⟨rfl, ?_⟩
    rcases h with rfl | h
    · rcases hl with h | h | h
      · exact .inl (by omega)
      · exact .inr (by simpa using h)
      · rw [Nat.add_zero] at h10
        rw [h] at h10
        exact absurd h10 (by decide)
    · exact .inr (by rw [← Nat.add_assoc]; exact h)
  · exact .inr ⟨by omega, by rw [← Nat.add_assoc]; exact h⟩

set_option maxRecDepth 100000 in
set_option maxHeartbeats 2000000 in
theorem bline_any (base R Bf Y : Nat) (sv : Value) (bs : List Int) (ae af : Addr) (c : Nat) (w : World) (hs : Src base w sv bs (.iface 55 (.pointer (some ae)))) (hn : Sen base w ae af) (h : Liner w R Bf Y sv bs c .nilIface)
    (hSS : ∀ x, x ∈ [R, Y, Bf] → base ≤ x) :
    Calls Tryd.prog 19 #[.pointer (some ⟨R, 0, none⟩)] w (BLPost w R Bf Y sv bs c) := by
  obtain ⟨i0, hi, hz0, hz1, hz2⟩ := info_parts infoByte
  have heq1 := err_same ae
  have heq2 := nil_err ae
  obtain ⟨l1, l2, l3⟩ := h.lt
  have hcl := h.cl
  have hlen := hs.len
  have H0 := Hid_mk (And.intro hs (And.intro h (And.intro hSS hn)))
  clear hs h hSS hn
  go_enter Tryd.func19, Tryd.ntmps19
  go_wp2_with fail
  have hw1 := World.ownsRow_made (base := w.heap.size) (size := 1) (e := 5) w #[] 0 (Nat.le_refl _) (Nat.zero_le _) rfl
  have FA := (Fr.refl [R, Y, Bf] w).alloc (.cells #[] 5)
  have FB := (Fr.refl [] w).alloc (.cells #[] 5)
  generalize w.alloc (.cells #[] 5) = w1 at hw1 FA FB
  have h1 : Liner w1 R Bf Y sv bs c .nilIface := H0.out.2.1.fr (S := []) FB (by simp) (by simp) (by simp)
  have H1 := Hid_mk (And.intro hw1 (And.intro h1 FA))
  clear hw1 h1 FA FB
  go_loopg [5, 7, 8] (bs.length - c + 1) (fun gk v5 v7 v8 wr => BLRel w R Bf Y sv bs c gk v5 v7 v8 wr)
  case atStart => exact ⟨rfl, by simp, 0, true, rfl, H1.out.1, H1.out.2.2, hcl, .inl ⟨rfl, rfl, H1.out.2.1, fun j hj => by omega, .inl rfl⟩⟩
  case round =>
    obtain ⟨rfl, hnn, m, b, rfl, ho, hf, hcm, hcase⟩ := hrel
    obtain ⟨ga, gc, rfl, hga⟩ := own_form ho
    have HNN := Hid_mk hnn
    clear hnn
    rcases hcase with ⟨rfl, hgk, hr, hno, hlast⟩ | ⟨rfl, hgk, hclt, c2, hli, hr⟩
    · have hs2 : Src base wr sv bs (.iface 55 (.pointer (some ae))) := H0.out.1.below (hf.below H0.out.1.top H0.out.2.2.1)
      have hn2 : Sen base wr ae af := H0.out.2.2.2.below (hf.below H0.out.1.top H0.out.2.2.1)
      have hline := line_any base R Bf Y sv bs ae af (c + m) wr hs2 hn2 hr H0.out.2.2.1
      have hgS : ∀ g, (Value.slice ga m gc).ownBlock = some g → w.heap.size ≤ g := fun g hg => (ho.lt g hg).1
      have HH := Hid_mk (And.intro hgk (And.intro hline (And.intro ho (And.intro hf (And.intro hno (And.intro hlast hgS))))))
      clear hgk hline ho hf hno hlast hgS hga hs2 hn2 hr
      go_wp2_with fail
      refine HH.out.2.1.mono ?_
      rintro e w3 ⟨hF3, (⟨hce, rfl, hL3⟩ | ⟨o, n, cap, C, r, wp, i, lb, lr, pr, c2, b, rfl, hclt, hon, hcap, hC, hcn, hL, hcase⟩)⟩
      · have hfa : Fr [R, Y, Bf] w w3 := HH.out.2.2.2.1.trans hF3
        have ho3 := own_fr HH.out.2.2.1 hF3 (by
          intro g hg
          have := HH.out.2.2.2.2.2.2 g hg
          simp; omega)
        have hs3 : Src base w3 sv bs (.iface 55 (.pointer (some ae))) := H0.out.1.below (hfa.below H0.out.1.top H0.out.2.2.1)
        have ceof := hs3.eofc
        have hli : LineIs bs c m (c + m) := .inl ⟨hce, hce, HH.out.2.2.2.2.1⟩
        have H3 := Hid_mk (And.intro hfa (And.intro ho3 (And.intro hL3 (And.intro hli hce))))
        clear hfa ho3 hs3 hL3 hF3 hli hce
        by_cases h0 : m = 0
        · subst h0
          have hd : decide (c = bs.length) = true := decide_eq_true (by have := H3.out.2.2.2.2; omega)
          have HD := Hid_mk hd
          clear hd
          go_wp2_with fail
          go_quiet (fail)
          go_wp2_with fail
          go_ret3
          refine ⟨_, 0, c + 0, HNN.out, ?_, H3.out.2.1, H3.out.2.2.2.1, ?_, H3.out.1.drewN _⟩
          · rw [HD.out]; rfl
          · exact H3.out.2.2.1.fr ((Fr.refl [] _).drewN _) (by simp) (by simp) (by simp)
        · have hz : ((m : Int) == 0) = false := by simp; omega
          have hd : decide (c = bs.length) = false := decide_eq_false (by have := H3.out.2.2.2.2; omega)
          have HD := Hid_mk hd
          clear hd
          go_wp2_with fail
          go_quiet (fail)
          go_wp2_with fail
          go_ret3
          refine ⟨_, m, c + m, HNN.out, ?_, H3.out.2.1, H3.out.2.2.2.1, ?_, H3.out.1.drewN _⟩
          · rw [HD.out]; rfl
          · exact H3.out.2.2.1.fr ((Fr.refl [] _).drewN _) (by simp) (by simp) (by simp)
      · have hfa : Fr [R, Y, Bf] w w3 := HH.out.2.2.2.1.trans hF3
        have ho3 := own_fr HH.out.2.2.1 hF3 (by
          intro g hg
          have := HH.out.2.2.2.2.2.2 g hg
          simp; omega)
        have hl := seg_length hcn
        have hnews : ∀ j u, (seg bs (c + m) n)[j]? = some u → w3.cell? ((⟨Bf, o, none⟩ : Addr).add j) = some u := by
          intro j u hj
          have hjk : j < n := by rw [← hl]; exact (List.getElem?_eq_some_iff.1 hj).1
          rw [seg_get hcn hjk] at hj
          rw [Addr.add_lit]
          exact (cellAt hL.hB (hC j hjk)).trans hj
        have hbase : w.heap.size ≤ w3.heap.size := hfa.size
        have hmn : m + n ≤ 1048576 := by omega
        have H3 := Hid_mk (And.intro hfa (And.intro ho3 (And.intro hL (And.intro hl (And.intro hnews (And.intro hbase (And.intro hcase hcn)))))))
        have hone := seg_one bs (c + m) n
        have HO := Hid_mk hone
        clear hfa ho3 hL hF3 hC hl hnews hbase hone hcase hcn
        go_wp2_with (at_builtin; refine wpList_append_own _ rfl (.tmp 20) (.tmp 21) 22 rfl w.heap.size 5 i0 (.int .u8 0) 1 1 Tryd.underlying22 hi hz0 hz1 hz2 rfl (by omega) (.slice ga m gc) m (seg bs c m) rfl H3.out.2.1 ⟨Bf, o, none⟩ n cap (seg bs (c + m) n) rfl (by rw [H3.out.2.2.2.1]; omega) H3.out.2.2.2.2.1 HO.out (by unfold maxLen; omega) (by omega) H3.out.2.2.2.2.2.1 ?_)
        intro v' w4 hown4 hgrow4 hnil4
        have hf4 : Fr [R, Y, Bf] w w4 := by
          refine H3.out.1.comp (T := match (Value.slice ga m gc).ownBlock with | some g => [g] | none => []) ((Fr.refl _ _).grown hgrow4 (fun g hg => by rw [hg]; simp)) ?_
          intro x hx
          cases hb : (Value.slice ga m gc).ownBlock with
          | none => rw [hb] at hx; cases hx
          | some g =>
            rw [hb] at hx
            simp at hx
            subst hx
            exact .inr (HH.out.2.2.2.2.2.2 x hb)
        have hr4 : Ln w4 R Bf Y sv bs c2 r wp i lb lr pr C .nilIface := by
          refine H3.out.2.2.1.fr (S := match (Value.slice ga m gc).ownBlock with | some g => [g] | none => []) ((Fr.refl _ _).grown hgrow4 (fun g hg => by rw [hg]; simp)) ?_ ?_ ?_
          all_goals
            cases hb : (Value.slice ga m gc).ownBlock with
            | none => simp
            | some g =>
              have := HH.out.2.2.2.2.2.2 g hb
              simp; omega
        have ho4 := seg_snoc bs c m n ▸ hown4
        have hnn4 : v' ≠ .slice none 0 0 := fun h => HNN.out (by simpa using (hnil4.1 h).1)
        have H4 := Hid_mk (And.intro hf4 (And.intro hr4 (And.intro ho4 hnn4)))
        clear hown4 hgrow4 hnil4 hf4 hr4 ho4 hnn4
        go_wp2_with fail
        go_roundg (match b with | true => bs.length - (c + (m + n)) + 1 | false => 0)
        case rel =>
          have hcn := H3.out.2.2.2.2.2.2.2
          refine ⟨rfl, H4.out.2.2.2, m + n, b, rfl, H4.out.2.2.1, H4.out.1, by omega, ?_⟩
          have hL4 := H4.out.2.1
          rcases H3.out.2.2.2.2.2.2.1 with ⟨rfl, rfl, hn0, hno2, hla⟩ | ⟨rfl, rfl, hce, hno2⟩ | ⟨rfl, k, rfl, hk, h10, hno2, hnk⟩
          · refine .inl ⟨rfl, rfl, ⟨r, wp, i, lb, lr, pr, C, by rw [← Nat.add_assoc]; exact hL4⟩, no_join HH.out.2.2.2.2.1 hno2, .inr ?_⟩
            rw [← Nat.add_assoc]
            exact hla
          · exact .inr ⟨rfl, rfl, by omega, bs.length, .inl ⟨rfl, by omega, no_join HH.out.2.2.2.2.1 hno2⟩, r, wp, i, lb, lr, pr, C, hL4⟩
          · exact .inr ⟨rfl, rfl, by omega, c + m + k + 1, line_join HH.out.2.2.2.2.1 HH.out.2.2.2.2.2.1 rfl hk h10 hno2 hnk, r, wp, i, lb, lr, pr, C, hL4⟩
        case measure =>
          have h1 := HH.out.1
          rcases H3.out.2.2.2.2.2.2.1 with ⟨rfl, rfl, hn0, _, _⟩ | ⟨rfl, _⟩ | ⟨rfl, _⟩
          · show bs.length - (c + (m + n)) + 1 < gk
            omega
          · show 0 < gk
            omega
          · show 0 < gk
            omega
    · have hs2 : Src base wr sv bs (.iface 55 (.pointer (some ae))) := H0.out.1.below (hf.below H0.out.1.top H0.out.2.2.1)
      have ceof := hs2.eofc
      have hd : decide (c = bs.length) = false := decide_eq_false (by omega)
      have HH := Hid_mk (And.intro hr (And.intro ho (And.intro hf (And.intro hd hli))))
      clear hr ho hf hd hli hga hs2 hgk
      by_cases h0 : m = 0
      · have hz : ((m : Int) == 0) = true := by simp; omega
        go_wp2_with fail
        go_quiet (fail)
        go_wp2_with fail
        go_ret3
        refine ⟨_, m, c2, HNN.out, ?_, HH.out.2.1, HH.out.2.2.2.2, ?_, HH.out.2.2.1.drewN _⟩
        · rw [HH.out.2.2.2.1]; rfl
        · exact HH.out.1.fr ((Fr.refl [] _).drewN _) (by simp) (by simp) (by simp)
      · have hz : ((m : Int) == 0) = false := by simp; omega
        go_wp2_with fail
        go_quiet (fail)
        go_wp2_with fail
        go_ret3
        refine ⟨_, m, c2, HNN.out, ?_, HH.out.2.1, HH.out.2.2.2.2, ?_, HH.out.2.2.1.drewN _⟩
        · rw [HH.out.2.2.2.1]; rfl
        · exact HH.out.1.fr ((Fr.refl [] _).drewN _) (by simp) (by simp) (by simp)
end Go.Proofs.YtnamkpkdkojhjaaDoor
