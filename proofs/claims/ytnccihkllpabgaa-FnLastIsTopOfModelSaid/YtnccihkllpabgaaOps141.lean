/- The contracts of the thin exports over the stack and of the laws' own loops (push all, drain), for every stack with room. -/
import Derived.Test.YtnccihkllpabgaaStkGrow
import Derived.Test.YtnccihkllpabgaaStkPop
import Derived.Test.YtnccihkllpabgaaStkLast
import Derived.Test.YtnccihkllpabgaaStkAt
import Derived.Test.YtnccihkllpabgaaStkEmpty
import Derived.Test.YtnccihkllpabgaaStkSetSp
import Derived.Test.YtnccihkllpabgaaInts
import Derived.Test.YtnccihkllpabgaaNewAG
namespace Go.Proofs.Ytnccihkllpabgaa
open Go.RowKit

/-- The world is as it was but for draws. -/
def Drawn (w w' : World) : Prop := ∃ n, w.drewN n = w'
theorem Drawn.refl (w : World) : Drawn w w := ⟨0, rfl⟩
theorem Drawn.heap {w w' : World} (h : Drawn w w') : w'.heap = w.heap := by obtain ⟨n, rfl⟩ := h; rfl
theorem Drawn.keeps {base : Nat} {a w w' : World} (h : Drawn w w') (k : Keeps base a w) : Keeps base a w' := by obtain ⟨n, rfl⟩ := h; exact k.alike rfl rfl rfl rfl

theorem zpush_any (base s N k sp g : Nat) (B : Nat → Nat) (F : Nat → Frm) (pc : Int) (w : World) (h : Stk base w s N k sp g B F) (hlt : 8 * k + sp < 8 * N) :
    Calls Try.prog 28 #[.pointer (some ⟨s, 0, none⟩), .int .i64 pc] w fun e w' => e = .returned (.tuple #[]) ∧ PushPost base w s N k sp g B F (pc, 0, 0) w' := by
  have hc := push_any base s N k sp g B F 0 pc 0 0 w h hlt
  have H := Hid_mk hc
  clear hc h
  go_enter Try.func28, Try.ntmps28
  go_wp2_with fail
  refine H.out.mono ?_
  rintro e w' ⟨rfl, hp⟩
  have HP := Hid_mk hp
  clear hp
  go_wp2_with fail
  go_end0
  exact ⟨rfl, HP.out⟩

theorem zpop_any (base s N k sp g : Nat) (B : Nat → Nat) (F : Nat → Frm) (w : World) (h : Stk base w s N k sp g B F) (hpos : 0 < 8 * k + sp) :
    Calls Try.prog 22 #[.pointer (some ⟨s, 0, none⟩)] w (PopPost base w s N k sp g B F) := by
  have hc := pop_any base s N k sp g B F w h hpos
  have H := Hid_mk hc
  clear hc h
  go_enter Try.func22, Try.ntmps22
  go_wp2_with fail
  refine H.out.mono ?_
  rintro e w' ⟨k', sp', rfl, hp⟩
  have HP := Hid_mk hp
  clear hp
  go_wp2_with fail
  go_ret
  exact ⟨k', sp', rfl, HP.out⟩

def NilPost (base : Nat) (w : World) (s N g : Nat) (B : Nat → Nat) (F : Nat → Frm) (e : Ending) (w' : World) : Prop :=
  e = .returned (.pointer none) ∧ Stk base w' s N 0 0 g B F ∧ Keeps base w w'
theorem zpop_nil (base s N g : Nat) (B : Nat → Nat) (F : Nat → Frm) (w : World) (h : Stk base w s N 0 0 g B F) :
    Calls Try.prog 22 #[.pointer (some ⟨s, 0, none⟩)] w (NilPost base w s N g B F) := by
  have hc := pop_nil base s N g B F w h
  have H := Hid_mk hc
  clear hc h
  go_enter Try.func22, Try.ntmps22
  go_wp2_with fail
  refine H.out.mono ?_
  rintro e w' ⟨rfl, hp⟩
  have HP := Hid_mk hp
  clear hp
  go_wp2_with fail
  go_ret
  exact ⟨rfl, HP.out⟩

theorem zempty_any (base s N k sp g : Nat) (B : Nat → Nat) (F : Nat → Frm) (w : World) (h : Stk base w s N k sp g B F) :
    Calls Try.prog 15 #[.pointer (some ⟨s, 0, none⟩)] w fun e w' => e = .returned (.bool (decide (8 * k + sp = 0))) ∧ w = w' := by
  have hc := empty_any base s N k sp g B F w h
  have H := Hid_mk hc
  clear hc h
  generalize decide (8 * k + sp = 0) = b at H
  go_enter Try.func15, Try.ntmps15
  go_wp2_with fail
  refine H.out.mono ?_
  rintro e w' ⟨rfl, rfl⟩
  go_wp2_with fail
  go_ret
  exact ⟨rfl, rfl⟩

theorem zat_any (base s N k sp g m : Nat) (B : Nat → Nat) (F : Nat → Frm) (w : World) (h : Stk base w s N k sp g B F) (hm : m < 8 * k + sp) :
    Calls Try.prog 21 #[.pointer (some ⟨s, 0, none⟩), .int .i64 m] w fun e w' => e = .returned (.pointer (some ⟨B (m / 8), m % 8 * 10, none⟩)) ∧ w = w' := by
  have hc := at_any base s N k sp g m B F w h hm
  have H := Hid_mk hc
  clear hc h
  generalize B (m / 8) = b at H
  generalize m % 8 * 10 = o at H
  go_enter Try.func21, Try.ntmps21
  go_wp2_with fail
  refine H.out.mono ?_
  rintro e w' ⟨rfl, rfl⟩
  go_wp2_with fail
  go_ret
  exact ⟨rfl, rfl⟩

theorem zlast_any (base s N k sp g : Nat) (B : Nat → Nat) (F : Nat → Frm) (w : World) (h : Stk base w s N k sp g B F) (hpos : 0 < 8 * k + sp) :
    Calls Try.prog 24 #[.pointer (some ⟨s, 0, none⟩)] w (LastPost w k sp B) := by
  have hc := last_any base s N k sp g B F w h hpos
  have H := Hid_mk hc
  clear hc h
  go_enter Try.func24, Try.ntmps24
  go_wp2_with fail
  refine H.out.mono ?_
  rintro e w' ⟨i, j, rfl, hp⟩
  have HP := Hid_mk hp
  clear hp
  go_wp2_with fail
  go_ret
  exact ⟨i, j, rfl, HP.out⟩

theorem zlast_nil (base s N g : Nat) (B : Nat → Nat) (F : Nat → Frm) (w : World) (h : Stk base w s N 0 0 g B F) :
    Calls Try.prog 24 #[.pointer (some ⟨s, 0, none⟩)] w fun e w' => e = .returned (.pointer none) ∧ Drawn w w' := by
  have hc := last_nil base s N g B F w h
  have H := Hid_mk hc
  clear hc h
  go_enter Try.func24, Try.ntmps24
  go_wp2_with fail
  refine H.out.mono ?_
  rintro e w' ⟨rfl, hp⟩
  have HP := Hid_mk hp
  clear hp
  go_wp2_with fail
  go_ret
  exact ⟨rfl, HP.out⟩

theorem zsetsp_any (base s N k sp g t : Nat) (B : Nat → Nat) (F : Nat → Frm) (w : World) (h : Stk base w s N k sp g B F) (ht : t ≤ 8 * k + sp) :
    Calls Try.prog 18 #[.pointer (some ⟨s, 0, none⟩), .int .i64 t] w (SetPost base w s N k g B F t) := by
  have hc := setsp_any base s N k sp g t B F w h ht
  have H := Hid_mk hc
  clear hc h
  go_enter Try.func18, Try.ntmps18
  go_wp2_with fail
  refine H.out.mono ?_
  rintro e w' ⟨rfl, hp⟩
  have HP := Hid_mk hp
  clear hp
  go_wp2_with fail
  go_end0
  exact ⟨rfl, HP.out⟩

/-- The data behind pushing zs onto a stack of depth n. -/
def app (F : Nat → Frm) (n : Nat) (zs : List Int) : Nat → Frm := fun m => if n ≤ m then (zs.getD (m - n) 0, 0, 0) else F m

def PushAllPost (base : Nat) (w : World) (s N k sp g : Nat) (B : Nat → Nat) (F : Nat → Frm) (zs : List Int) (e : Ending) (w' : World) : Prop :=
  e = .returned (.tuple #[]) ∧ ∃ k' sp' B', Stk base w' s N k' sp' g B' (app F (8 * k + sp) zs) ∧ 8 * k' + sp' = 8 * k + sp + zs.length ∧ (1 ≤ sp' ∨ (zs.length = 0 ∧ k' = k ∧ sp' = sp)) ∧ (∀ i, i ≤ k → B' i = B i) ∧ Keeps base w w'

set_option maxHeartbeats 400000 in
theorem pushall_any (base s N k sp g : Nat) (B : Nat → Nat) (F : Nat → Frm) (zs : List Int) (v : Value) (w : World) (h : Stk base w s N k sp g B F) (hv : Row w v zs) (hroom : 8 * k + sp + zs.length ≤ 8 * N) (hlen : zs.length ≤ 1048576) :
    Calls Try.prog 14 #[.pointer (some ⟨s, 0, none⟩), v] w (PushAllPost base w s N k sp g B F zs) := by
  have hst : Stk base w s N k sp g B (app F (8 * k + sp) zs) := h.congr fun m hm => by unfold app; rw [if_neg (by omega)]
  have happ : ∀ m, m < zs.length → app F (8 * k + sp) zs (8 * k + sp + m) = (zs.getD m 0, 0, 0) := fun m _ => by
    unfold app; rw [if_pos (by omega), show 8 * k + sp + m - (8 * k + sp) = m by omega]
  generalize hG : app F (8 * k + sp) zs = G at hst happ
  obtain ⟨a, rfl, hx⟩ := hv.form
  clear hx
  generalize hL : zs.length = L at hroom hlen happ hv
  have H := Hid_mk (And.intro hv (And.intro hst (And.intro happ (And.intro hL hG))))
  clear hv hst h happ hL hG
  go_enter Try.func14, Try.ntmps14
  go_wp2_with fail
  go_loopg [4] L (fun gk i wr => ∃ (m k' sp' : Nat) (B' : Nat → Nat), m + gk = L ∧ i = .int .i64 m ∧ Stk base wr s N k' sp' g B' G ∧ 8 * k' + sp' = 8 * k + sp + m ∧ (1 ≤ sp' ∨ (m = 0 ∧ k' = k ∧ sp' = sp)) ∧ (∀ i, i ≤ k → B' i = B i) ∧ k ≤ k' ∧ Keeps base w wr)
  case atStart => exact ⟨0, k, sp, B, by omega, rfl, H.out.2.1, by omega, .inr ⟨rfl, rfl, rfl⟩, fun _ _ => rfl, Nat.le_refl _, Keeps.refl _ _⟩
  case round =>
    obtain ⟨m, k', sp', B', hk, rfl, hs, hd, hor, hB, hkk, hkp⟩ := hrel
    by_cases hlt : m < L
    · obtain ⟨b, hab, hcell⟩ := (H.out.1.keeps hkp).at (i := m) (by rw [H.out.2.2.2.1]; exact hlt)
      have hpush := zpush_any base s N k' sp' g B' G (zs.getD m 0) wr hs (by omega)
      generalize hz : zs.getD m 0 = z at hcell hpush
      subst hab
      have HH := Hid_mk (And.intro hk (And.intro hd (And.intro hor (And.intro hB (And.intro hkk (And.intro hkp (And.intro hz (And.intro hpush hs))))))))
      clear hk hs hd hor hB hkk hkp hz hpush
      go_wp2_with fail
      refine HH.out.2.2.2.2.2.2.2.1.mono ?_
      rintro e w' ⟨rfl, k2, sp2, B2, hs2, hd2, h12, hkk2, hB2, hkp2⟩
      have H2 := Hid_mk (And.intro hs2 (And.intro hd2 (And.intro h12 (And.intro hkk2 (And.intro hB2 hkp2)))))
      clear hs2 hd2 h12 hkk2 hB2 hkp2
      go_wp2_with fail
      go_roundg (gk - 1)
      case rel =>
        obtain ⟨hk, hd, hor, hB, hkk, hkp, hz, _, hs⟩ := HH.out
        obtain ⟨hs2, hd2, h12, hkk2, hB2, hkp2⟩ := H2.out
        refine ⟨m + 1, k2, sp2, B2, by omega, by go_num, hs2.congr ?_, by omega, .inl h12, fun i hi => (hB2 i (by omega)).trans (hB i hi), by omega, hkp.trans hkp2⟩
        intro x hx
        unfold upd
        by_cases hxe : x = 8 * k' + sp'
        · rw [if_pos hxe, hxe, hd, H.out.2.2.1 m hlt, hz]
        · rw [if_neg hxe]
      case measure => have := HH.out.1; omega
    · have hml : m = L := by omega
      subst hml
      have HH := Hid_mk (And.intro hd (And.intro hor (And.intro hB (And.intro hkk (And.intro hkp hs)))))
      clear hk hs hd hor hB hkk hkp
      go_wp2_with fail
      go_end0
      obtain ⟨hd, hor, hB, hkk, hkp, hs⟩ := HH.out
      refine ⟨rfl, k', sp', B', by rw [H.out.2.2.2.2]; exact hs, by rw [H.out.2.2.2.1]; exact hd, ?_, hB, hkp⟩
      rw [H.out.2.2.2.1]; exact hor

/-- What a drain of the first n leaves: true, and nothing but the stack's own memory has turned. -/
def DrainPost (base : Nat) (w : World) (e : Ending) (w' : World) : Prop := e = .returned (.bool true) ∧ Keeps base w w'

set_option maxHeartbeats 400000 in
theorem drain_any (base s N k sp g : Nat) (B : Nat → Nat) (F : Nat → Frm) (zs : List Int) (v : Value) (w : World) (h : Stk base w s N k sp g B F) (hv : Row w v zs) (hn : 8 * k + sp ≤ zs.length) (hF : ∀ m, m < 8 * k + sp → (F m).1 = zs.getD m 0) (n : Nat) (hd : n = 8 * k + sp) (hlen : n ≤ 1048576) :
    Calls Try.prog 16 #[.pointer (some ⟨s, 0, none⟩), v, .int .i64 n] w (DrainPost base w) := by
  obtain ⟨a, rfl, hx⟩ := hv.form
  clear hx
  generalize hL : zs.length = L at hv
  have H := Hid_mk (And.intro hv (And.intro h (And.intro hF (And.intro hL (And.intro hd hn)))))
  clear hv h hF hL hd hn
  go_enter Try.func16, Try.ntmps16
  go_wp2_with fail
  go_loopg [7, 8] n (fun gk i f wr => ∃ (k' sp' : Nat), 8 * k' + sp' = gk ∧ gk ≤ n ∧ i = .int .i64 ((gk : Int) - 1) ∧ Stk base wr s N k' sp' g B F ∧ Keeps base w wr)
  case atStart => exact ⟨k, sp, H.out.2.2.2.2.1.symm, Nat.le_refl _, rfl, H.out.2.1, Keeps.refl _ _⟩
  case round =>
    obtain ⟨k', sp', hk, hgn, rfl, hs, hkp⟩ := hrel
    by_cases hlt : 0 < gk
    · obtain ⟨m, rfl⟩ : ∃ m, gk = m + 1 := ⟨gk - 1, by omega⟩
      have hpop := zpop_any base s N k' sp' g B F wr hs (by omega)
      have hmn : m < n := by omega
      have hmL : m < L := by have := H.out.2.2.2; omega
      have em : ((m + 1 : Nat) : Int) - 1 = (m : Int) := by omega
      rw [em]
      have HH := Hid_mk (And.intro hk (And.intro hgn (And.intro hkp (And.intro hpop hs))))
      clear hk hgn hs hkp hpop em hlt
      go_wp2_with fail
      refine HH.out.2.2.2.1.mono ?_
      rintro e w' ⟨k2, sp2, rfl, hs2, hd2, hkk2, h82, hfc, hkp2⟩
      have hm2 : 8 * k2 + sp2 = m := by have := HH.out.1; omega
      obtain ⟨b, hab, hcell⟩ := (H.out.1.keeps (HH.out.2.2.1.trans hkp2)).at (i := m) (by rw [H.out.2.2.2.1]; exact hmL)
      obtain ⟨fi, fp, hx1, hx2⟩ := hfc
      clear hx1 hx2
      rw [hm2] at fi fp
      rw [H.out.2.2.1 m (by have := H.out.2.2.2; omega)] at fp
      generalize zs.getD m 0 = z at hcell fp
      have H2 := Hid_mk (And.intro hs2 (And.intro hm2 (And.intro hkk2 hkp2)))
      clear hs2 hd2 hkk2 hkp2 hm2
      generalize B k2 = bk at fi fp
      subst hab
      go_wp2_with fail
      go_quiet (fail)
      go_wp2_with fail
      go_roundg m
      case rel => exact ⟨k2, sp2, H2.out.2.1, by omega, rfl, H2.out.1.heap rfl, (HH.out.2.2.1.trans H2.out.2.2.2).alike rfl rfl rfl rfl⟩
      case measure => omega
    · have h0 : gk = 0 := by omega
      subst h0
      obtain ⟨rfl, rfl⟩ : k' = 0 ∧ sp' = 0 := by omega
      have hpop := zpop_nil base s N g B F wr hs
      have HH := Hid_mk (And.intro hkp hpop)
      clear hk hgn hs hkp hpop hlt
      go_wp2_with fail
      refine HH.out.2.mono ?_
      rintro e w' ⟨rfl, hs2, hkp2⟩
      have hem := zempty_any base s N 0 0 g B F w' hs2
      have H2 := Hid_mk (And.intro hs2 (And.intro hkp2 hem))
      clear hs2 hkp2 hem
      go_wp2_with fail
      refine H2.out.2.2.mono ?_
      rintro e w2 ⟨rfl, rfl⟩
      go_wp2_with fail
      go_ret
      exact ⟨rfl, HH.out.1.trans H2.out.2.1⟩
end Go.Proofs.Ytnccihkllpabgaa
