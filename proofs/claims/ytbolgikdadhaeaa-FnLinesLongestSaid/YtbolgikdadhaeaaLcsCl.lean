/-
  What DiffLines gives, under any relation that says where the texts are alike. Condition: at most a million and one each.
-/
import Derived.Test.YtbolgikdadhaeaaLcsC
import Derived.Test.YtbolgikdadhaeaaLcsSs
import Derived.Test.YtbolgikdadhaeaaStrsW
namespace Go.Proofs.Ytbolgikdadhaeaa
set_option linter.unusedVariables false
open Go.RowKit

theorem difLines {w : World} {A C : Option Addr} {c d : Nat} {xs ys : List ByteArray} {E : EQT} (hE : ∀ i j, i < xs.length → j < ys.length → E i j = eqS xs ys i j) (hx : StrsR w A xs) (hy : StrsR w C ys) (hc : xs.length ≤ c) (hd : ys.length ≤ d) (hl : xs.length ≤ 1000001) (hm : ys.length ≤ 1000001) :
    Calls Try.prog 29 #[.slice A xs.length c, .slice C ys.length d] w (DOut E xs.length ys.length (QT E xs.length ys.length 50) 39 w) := by
  refine iLines_any ?_ hl hm
  have hS := lines_seq_of hE hx hy hc hd hl hm
  refine compute_any (lim := 50) hS (lines_len _) (enters_of Try.func123 (by kernel_rfl) rfl) (enters_of Try.func43 (by kernel_rfl) rfl) (fun W _ => linesLen_any W A C xs.length c ys.length d) ?_ (by omega) (by omega)
  intro W g K vf vb rf rb hG hb hsq hux huy hdl hlim
  exact twosided_any hS hb hG hsq hux huy hdl hlim (by omega) (by omega) (fun W' vf' rf' vb' rb' df db j j' k hFS hF hB ho hk hsh hdf hdb => twolcs_any hS hFS hsq hux huy hdl hlim (by omega) (by omega) hF hB ho hk hsh hdf hdb) (fix_any hl hm)
theorem eqS_refl (xs : List ByteArray) (i : Nat) : eqS xs xs i i = true := by simp [eqS]
theorem sx_app (xs : List ByteArray) (x : ByteArray) (i : Nat) (h : i < xs.length) : sx (xs ++ [x]) i = sx xs i := by simp [sx, List.getElem?_append_left h, h]
theorem eqS_more (xs : List ByteArray) (x : ByteArray) (i : Nat) (h : i < xs.length) : eqS xs (xs ++ [x]) i i = true := by simp [eqS, sx_app xs x i h]
theorem eqS_less (xs : List ByteArray) (x : ByteArray) (i : Nat) (h : i < xs.length) : eqS (xs ++ [x]) xs i i = true := by simp [eqS, sx_app xs x i h]
end Go.Proofs.Ytbolgikdadhaeaa
