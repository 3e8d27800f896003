/-
  What the functions of differences give: the contracts of the road from both ends put in. Condition: at most a million elements each.
-/
import Derived.Test.YtbolgikdadhaeaaLcsD
import Derived.Test.YtbolgikdadhaeaaLcsF2
import Derived.Test.YtbolgikdadhaeaaLcsBr
namespace Go.Proofs.Ytbolgikdadhaeaa
set_option linter.unusedVariables false
open Go.RowKit

theorem difBytes {w : World} {A C : Option Addr} {c d : Nat} {xs ys : List Int} (hx : IntsR .u8 w A xs) (hy : IntsR .u8 w C ys) (hc : xs.length ≤ c) (hd : ys.length ≤ d) (hl : xs.length ≤ 1000001) (hm : ys.length ≤ 1000001) :
    Calls Try.prog 24 #[.slice A xs.length c, .slice C ys.length d] w (DOut (eqI xs ys) xs.length ys.length (QT (eqI xs ys) xs.length ys.length 50) 39 w) := by
  refine iBytes_any ?_ hl hm
  have hS := bytes_seq hx hy hc hd hl hm
  refine compute_any (lim := 50) hS (bytes_len _) (enters_of Try.func118 (by kernel_rfl) rfl) (enters_of Try.func43 (by kernel_rfl) rfl) (fun W _ => bytesLen_any W A C xs.length c ys.length d) ?_ (by omega) (by omega)
  intro W g K vf vb rf rb hG hb hsq hux huy hdl hlim
  exact twosided_any hS hb hG hsq hux huy hdl hlim (by omega) (by omega) (fun W' vf' rf' vb' rb' df db j j' k hFS hF hB ho hk hsh hdf hdb => twolcs_any hS hFS hsq hux huy hdl hlim (by omega) (by omega) hF hB ho hk hsh hdf hdb) (fix_any hl hm)
theorem difRunes {w : World} {A C : Option Addr} {c d : Nat} {xs ys : List Int} (hx : IntsR .i32 w A xs) (hy : IntsR .i32 w C ys) (hc : xs.length ≤ c) (hd : ys.length ≤ d) (hl : xs.length ≤ 1000001) (hm : ys.length ≤ 1000001) :
    Calls Try.prog 31 #[.slice A xs.length c, .slice C ys.length d] w (DOut (eqI xs ys) xs.length ys.length (QT (eqI xs ys) xs.length ys.length 50) 39 w) := by
  refine iRunes_any ?_ hl hm
  have hS := runes_seq hx hy hc hd hl hm
  refine compute_any (lim := 50) hS (runes_len _) (enters_of Try.func128 (by kernel_rfl) rfl) (enters_of Try.func43 (by kernel_rfl) rfl) (fun W _ => runesLen_any W A C xs.length c ys.length d) ?_ (by omega) (by omega)
  intro W g K vf vb rf rb hG hb hsq hux huy hdl hlim
  exact twosided_any hS hb hG hsq hux huy hdl hlim (by omega) (by omega) (fun W' vf' rf' vb' rb' df db j j' k hFS hF hB ho hk hsh hdf hdb => twolcs_any hS hFS hsq hux huy hdl hlim (by omega) (by omega) hF hB ho hk hsh hdf hdb) (fix_any hl hm)
end Go.Proofs.Ytbolgikdadhaeaa
