/- The buffered reader's Read, all ways in one. -/
import Derived.Test.YtnamkpkdkojhjaaDoorRdRead
import Derived.Test.YtnamkpkdkojhjaaDoorRdRead2
import Derived.Test.YtnamkpkdkojhjaaDoorRdRead3
namespace Go.Proofs.YtnamkpkdkojhjaaDoor
open Go.RowKit

theorem read_any (base R Bf Y P : Nat) (sv : Value) (bs : List Int) (te : TypeId) (ae : Addr) (c n : Nat) (cur : Array Value) (w : World) (hs : Src base w sv bs (.iface te (.pointer (some ae)))) (h : Reader w R Bf Y sv bs c)
    (hn0 : 0 < n) (hn : n ≤ 1048576) (hP : w.heap[P]? = some (.cells cur 5 (0, 0))) (hcur : cur.size = n) (hPB : P ≠ Bf) (hSS : ∀ x, x ∈ [R, Y, Bf, P] → base ≤ x) :
    Calls Tryd.prog 21 #[.pointer (some ⟨R, 0, none⟩), .slice (some ⟨P, 0, none⟩) n n] w (ReadPost w R Bf Y P sv bs c n cur (.iface te (.pointer (some ae)))) := by
  obtain ⟨r, wp, i, lb, lr, pr, C, h⟩ := h
  have hrw := h.rw
  by_cases hr : r < wp
  · exact read_buf base R Bf Y P sv bs _ c n r wp i lb lr pr C cur w hs h hr hn0 hn hP hcur hPB
  · have hr' : r = wp := by omega
    have hcl := h.cl
    by_cases hb : 4096 ≤ n
    · by_cases hc : c = bs.length
      · exact read_dir_end base R Bf Y P sv bs te ae c n r wp i lb lr pr C cur w hs h hr' hn0 hn hb hc hP hcur hPB
      · exact read_dir_some base R Bf Y P sv bs te ae c n r wp i lb lr pr C cur w hs h hr' hn0 hn hb (by omega) hP hcur hPB
    · by_cases hc : c = bs.length
      · exact read_fill_end base R Bf Y P sv bs te ae c n r wp i lb lr pr C cur w hs h hr' hn0 hn (by omega) hc hP hcur hPB hSS
      · exact read_fill_some base R Bf Y P sv bs te ae c n r wp i lb lr pr C cur w hs h hr' hn0 hn (by omega) (by omega) hP hcur hPB hSS
end Go.Proofs.YtnamkpkdkojhjaaDoor
