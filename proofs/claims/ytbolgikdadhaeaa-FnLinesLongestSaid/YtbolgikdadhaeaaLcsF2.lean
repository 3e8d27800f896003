/-
  lcs.TwoSided and the thin package's TwoSided: what they give. Condition: at most a million elements each.
-/
import Derived.Test.YtbolgikdadhaeaaLcsI
import Derived.Test.YtbolgikdadhaeaaLcsT3
import Derived.Test.YtbolgikdadhaeaaLcsY
import Derived.Test.YtbolgikdadhaeaaLcsZ
namespace Go.Proofs.Ytbolgikdadhaeaa
set_option linter.unusedVariables false
open Go.RowKit

theorem compT {w : World} {A C : Option Addr} {c d lim : Nat} {xs ys : List Int} (hx : IntsR .u8 w A xs) (hy : IntsR .u8 w C ys) (hc : xs.length ≤ c) (hd : ys.length ≤ d) (hl : xs.length ≤ 1000001) (hm : ys.length ≤ 1000001) (h1 : 1 ≤ lim) (h2 : lim ≤ 2000) :
    Calls Try.prog 44 #[.iface 72 (.agg #[.slice A xs.length c, .slice C ys.length d]), .func (.func 43) #[] #[], .int .i64 lim] w (CompOut (eqI xs ys) xs.length ys.length (QT (eqI xs ys) xs.length ys.length lim) w) := by
  have hS := bytes_seq hx hy hc hd hl hm
  refine compute_any hS (bytes_len _) (enters_of Try.func118 (by kernel_rfl) rfl) (enters_of Try.func43 (by kernel_rfl) rfl) (fun W _ => bytesLen_any W A C xs.length c ys.length d) ?_ h1 h2
  intro W g K vf vb rf rb hG hb hsq hux huy hdl hlim
  exact twosided_any hS hb hG hsq hux huy hdl hlim h1 h2 (fun W' vf' rf' vb' rb' df db j j' k hFS hF hB ho hk hsh hdf hdb => twolcs_any hS hFS hsq hux huy hdl hlim h1 h2 hF hB ho hk hsh hdf hdb) (fix_any hl hm)

set_option maxRecDepth 100000 in
set_option maxHeartbeats 400000 in
theorem lTwoSided_any {w : World} {A C : Option Addr} {c d lim : Nat} {xs ys : List Int} (hx : IntsR .u8 w A xs) (hy : IntsR .u8 w C ys) (hc : xs.length ≤ c) (hd : ys.length ≤ d) (hl : xs.length ≤ 1000001) (hm : ys.length ≤ 1000001) (h1 : 1 ≤ lim) (h2 : lim ≤ 2000) :
    Calls Try.prog 37 #[.slice A xs.length c, .slice C ys.length d, .int .i64 lim] w (RoadOut (eqI xs ys) xs.length ys.length (QT (eqI xs ys) xs.length ys.length lim) 68 69 w) := by
  have hr := road_any (compT hx hy hc hd hl hm h1 h2) hl hm
  have HR := Lib.hid hr; clear hr hx hy
  generalize eqI xs ys = E at *
  generalize xs.length = n at *
  generalize ys.length = m at *
  go_enter Try.func37, Try.ntmps37
  go_wp2_with (fail)
  refine HR.out.mono ?_
  rintro e w' ⟨ps, A1, c1, A2, c2, rfl, h1, h2, h3, h4, h5⟩
  have H1 := Lib.hid h1; have H2 := Lib.hid h2; have H3 := Lib.hid h3; have H4 := Lib.hid h4; have H5 := Lib.hid h5
  clear h1 h2 h3 h4 h5
  go_wp2
  go_ret2
  exact ⟨ps, A1, c1, A2, c2, rfl, H1.out, H2.out, H3.out, H4.out, H5.out⟩

set_option maxRecDepth 100000 in
set_option maxHeartbeats 400000 in
theorem iTwoSided_any {w : World} {A C : Option Addr} {c d : Nat} {xs ys : List Int} (limit : Int) (hx : IntsR .u8 w A xs) (hy : IntsR .u8 w C ys) (hc : xs.length ≤ c) (hd : ys.length ≤ d) (hl : xs.length ≤ 1000001) (hm : ys.length ≤ 1000001) :
    Calls Try.prog 26 #[.slice A xs.length c, .slice C ys.length d, .int .i64 limit] w (RoadOut (eqI xs ys) xs.length ys.length (QT (eqI xs ys) xs.length ys.length (limI limit).toNat) 39 62 w) := by
  have hb := limI_bd limit
  have hlm := limit_any limit
  obtain ⟨lim, hlim⟩ : ∃ lim : Nat, limI limit = lim := ⟨(limI limit).toNat, by omega⟩
  have hr := lTwoSided_any (lim := lim) hx hy hc hd hl hm (by omega) (by omega)
  rw [hlim] at hlm ⊢
  rw [Int.toNat_natCast]
  have HR := Lib.hid hr; have HLM := Lib.hid hlm
  clear hr hx hy hlm hlim hb
  generalize eqI xs ys = E at *
  generalize xs.length = n at *
  generalize ys.length = m at *
  go_enter Try.func26, Try.ntmps26
  go_wp2_with (fail)
  refine (HLM.out _).mono ?_
  rintro e w' ⟨rfl, rfl⟩
  go_wp2_with (fail)
  refine HR.out.mono ?_
  rintro e w1 ⟨ps, A1, c1, A2, c2, rfl, h1, h2, h3, h4, h5⟩
  have hlen := ch_len h4
  have hdl := diffs_len n m ps 0 0
  have hp1 := parts_any A1 c1 (diffsFrom n m 0 0 ps) w1 (CellsR.of_own h1) (by omega)
  have hp2 := fun W (hW : Below w1.heap.size w1 W) => pieces_any A2 c2 ps W ((CellsR.of_own h2).below hW (Nat.le_refl _)) (by omega)
  have HP1 := Lib.hid hp1; have HP2 := Lib.hid hp2
  have H3 := Lib.hid h3; have H4 := Lib.hid h4; have H5 := Lib.hid h5
  have hsz := h3.size
  clear h1 h2 h3 h4 h5 hlen hdl hp1 hp2
  obtain ⟨dl, hdl⟩ : ∃ dl, (diffsFrom n m 0 0 ps).length = dl := ⟨_, rfl⟩
  obtain ⟨pl, hpl⟩ : ∃ pl, ps.length = pl := ⟨_, rfl⟩
  rw [hdl] at HP1
  rw [hpl] at HP2
  rw [hdl, hpl]
  have HDL := Lib.hid hdl; have HPL := Lib.hid hpl; clear hdl hpl
  go_wp2_with (fail)
  refine HP1.out.mono ?_
  rintro e w2 ⟨A3, c3, rfl, o3, b3⟩
  have O3 := Lib.hid o3; have B3 := Lib.hid b3; clear o3 b3
  rw [HDL.out]
  go_wp2_with (fail)
  refine (HP2.out _ B3.out).mono ?_
  rintro e w3 ⟨A4, c4, rfl, o4, b4⟩
  have O4 := Lib.hid o4; have B4 := Lib.hid b4; clear o4 b4
  rw [HPL.out]
  go_wp2
  go_ret2
  have hs3 := B3.out.size
  refine ⟨ps, A3, c3, A4, c4, by rw [HDL.out, HPL.out]; rfl, own_mono (own_below O3.out B4.out (Nat.le_refl _)) hsz, own_mono O4.out (by omega), (H3.out.trans (B3.out.mono hsz)).trans (B4.out.mono (by omega)), H4.out, H5.out⟩
end Go.Proofs.Ytbolgikdadhaeaa
