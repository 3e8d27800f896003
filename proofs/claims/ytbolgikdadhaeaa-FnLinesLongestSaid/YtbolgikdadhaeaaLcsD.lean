/-
  lcs.diff and the functions of differences of bytes, code points, texts, over compute's answer. Condition: at most a million elements each.
-/
import Derived.Test.YtbolgikdadhaeaaLcsI
import Derived.Test.YtbolgikdadhaeaaLcsT3
namespace Go.Proofs.Ytbolgikdadhaeaa
set_option linter.unusedVariables false
open Go.RowKit

/-- what a function of differences gives -/
def DOut (E : EQT) (N M : Nat) (Q : List Pc → Prop) (t : TypeId) (w : World) (e : Ending) (w' : World) : Prop :=
  ∃ ps A c, e = .returned (.slice A (diffsFrom N M 0 0 ps).length c) ∧ w'.ownsRow w.heap.size t 4 (.slice A (diffsFrom N M 0 0 ps).length c) (diffsFrom N M 0 0 ps).length (dfCells (diffsFrom N M 0 0 ps)) ∧ Below w.heap.size w w' ∧ Ch E 0 0 ps N M ∧ Q ps
set_option maxRecDepth 100000 in
set_option maxHeartbeats 400000 in
theorem diff_any {w : World} {N M : Nat} {E : EQT} {Q : List Pc → Prop} {T : TypeId} {rv : Value} (hc : Calls Try.prog 44 #[.iface T rv, .func (.func 43) #[] #[], .int .i64 50] w (CompOut E N M Q w)) :
    Calls Try.prog 42 #[.iface T rv] w (DOut E N M Q 68 w) := by
  have HC := Lib.hid hc; clear hc
  go_enter Try.func42, Try.ntmps42
  go_wp2_with (fail)
  refine HC.out.mono ?_
  rintro e w1 ⟨ps, A1, c1, v, rfl, ho1, ho2, hb1, hch, hq⟩
  have HO := Lib.hid ho1; have HB := Lib.hid hb1; have HCH := Lib.hid hch; have HQ := Lib.hid hq
  clear ho1 ho2 hb1 hch hq
  go_wp2
  go_ret
  exact ⟨ps, A1, c1, rfl, HO.out, HB.out, HCH.out, HQ.out⟩
set_option maxRecDepth 100000 in
set_option maxHeartbeats 400000 in
theorem lBytes_any {w : World} {N M c d : Nat} {A C : Option Addr} {E : EQT} {Q : List Pc → Prop} (hc : Calls Try.prog 44 #[.iface 72 (.agg #[.slice A N c, .slice C M d]), .func (.func 43) #[] #[], .int .i64 50] w (CompOut E N M Q w)) :
    Calls Try.prog 36 #[.slice A N c, .slice C M d] w (DOut E N M Q 68 w) := by
  have HD := Lib.hid (diff_any hc); clear hc
  go_enter Try.func36, Try.ntmps36
  go_wp2_with (fail)
  refine HD.out.mono ?_
  rintro e w1 ⟨ps, A1, c1, rfl, ho1, hb1, hch, hq⟩
  have HO := Lib.hid ho1; have HB := Lib.hid hb1; have HCH := Lib.hid hch; have HQ := Lib.hid hq
  clear ho1 hb1 hch hq
  go_wp2
  go_ret
  exact ⟨ps, A1, c1, rfl, HO.out, HB.out, HCH.out, HQ.out⟩
set_option maxRecDepth 100000 in
set_option maxHeartbeats 400000 in
theorem iBytes_any {w : World} {N M c d : Nat} {A C : Option Addr} {E : EQT} {Q : List Pc → Prop} (hc : Calls Try.prog 44 #[.iface 72 (.agg #[.slice A N c, .slice C M d]), .func (.func 43) #[] #[], .int .i64 50] w (CompOut E N M Q w)) (hN : N ≤ 1000001) (hM : M ≤ 1000001) :
    Calls Try.prog 24 #[.slice A N c, .slice C M d] w (DOut E N M Q 39 w) := by
  have HD := Lib.hid (lBytes_any hc); clear hc
  go_enter Try.func24, Try.ntmps24
  go_wp2_with (fail)
  refine HD.out.mono ?_
  rintro e w1 ⟨ps, A1, c1, rfl, ho1, hb1, hch, hq⟩
  have hlen := ch_len hch
  have hdl := diffs_len N M ps 0 0
  have hp := parts_any A1 c1 (diffsFrom N M 0 0 ps) w1 (CellsR.of_own ho1) (by omega)
  have HP := Lib.hid hp; have HB := Lib.hid hb1; have HCH := Lib.hid hch; have HQ := Lib.hid hq
  have hsz := hb1.size
  clear ho1 hb1 hch hq hp hlen hdl
  obtain ⟨dl, hdl⟩ : ∃ dl, (diffsFrom N M 0 0 ps).length = dl := ⟨_, rfl⟩
  rw [hdl] at HP ⊢
  have HDL := Lib.hid hdl; clear hdl
  go_wp2_with (fail)
  refine HP.out.mono ?_
  rintro e w2 ⟨A2, c2, rfl, ho2, hb2⟩
  have HO := Lib.hid ho2; have HB2 := Lib.hid hb2; clear ho2 hb2
  go_wp2
  go_ret
  exact ⟨ps, A2, c2, rfl, own_mono HO.out hsz, HB.out.trans (HB2.out.mono hsz), HCH.out, HQ.out⟩
set_option maxRecDepth 100000 in
set_option maxHeartbeats 400000 in
theorem lRunes_any {w : World} {N M c d : Nat} {A C : Option Addr} {E : EQT} {Q : List Pc → Prop} (hc : Calls Try.prog 44 #[.iface 76 (.agg #[.slice A N c, .slice C M d]), .func (.func 43) #[] #[], .int .i64 50] w (CompOut E N M Q w)) :
    Calls Try.prog 39 #[.slice A N c, .slice C M d] w (DOut E N M Q 68 w) := by
  have HD := Lib.hid (diff_any hc); clear hc
  go_enter Try.func39, Try.ntmps39
  go_wp2_with (fail)
  refine HD.out.mono ?_
  rintro e w1 ⟨ps, A1, c1, rfl, ho1, hb1, hch, hq⟩
  have HO := Lib.hid ho1; have HB := Lib.hid hb1; have HCH := Lib.hid hch; have HQ := Lib.hid hq
  clear ho1 hb1 hch hq
  go_wp2
  go_ret
  exact ⟨ps, A1, c1, rfl, HO.out, HB.out, HCH.out, HQ.out⟩
set_option maxRecDepth 100000 in
set_option maxHeartbeats 400000 in
theorem iRunes_any {w : World} {N M c d : Nat} {A C : Option Addr} {E : EQT} {Q : List Pc → Prop} (hc : Calls Try.prog 44 #[.iface 76 (.agg #[.slice A N c, .slice C M d]), .func (.func 43) #[] #[], .int .i64 50] w (CompOut E N M Q w)) (hN : N ≤ 1000001) (hM : M ≤ 1000001) :
    Calls Try.prog 31 #[.slice A N c, .slice C M d] w (DOut E N M Q 39 w) := by
  have HD := Lib.hid (lRunes_any hc); clear hc
  go_enter Try.func31, Try.ntmps31
  go_wp2_with (fail)
  refine HD.out.mono ?_
  rintro e w1 ⟨ps, A1, c1, rfl, ho1, hb1, hch, hq⟩
  have hlen := ch_len hch
  have hdl := diffs_len N M ps 0 0
  have hp := parts_any A1 c1 (diffsFrom N M 0 0 ps) w1 (CellsR.of_own ho1) (by omega)
  have HP := Lib.hid hp; have HB := Lib.hid hb1; have HCH := Lib.hid hch; have HQ := Lib.hid hq
  have hsz := hb1.size
  clear ho1 hb1 hch hq hp hlen hdl
  obtain ⟨dl, hdl⟩ : ∃ dl, (diffsFrom N M 0 0 ps).length = dl := ⟨_, rfl⟩
  rw [hdl] at HP ⊢
  have HDL := Lib.hid hdl; clear hdl
  go_wp2_with (fail)
  refine HP.out.mono ?_
  rintro e w2 ⟨A2, c2, rfl, ho2, hb2⟩
  have HO := Lib.hid ho2; have HB2 := Lib.hid hb2; clear ho2 hb2
  go_wp2
  go_ret
  exact ⟨ps, A2, c2, rfl, own_mono HO.out hsz, HB.out.trans (HB2.out.mono hsz), HCH.out, HQ.out⟩
set_option maxRecDepth 100000 in
set_option maxHeartbeats 400000 in
theorem lLines_any {w : World} {N M c d : Nat} {A C : Option Addr} {E : EQT} {Q : List Pc → Prop} (hc : Calls Try.prog 44 #[.iface 74 (.agg #[.slice A N c, .slice C M d]), .func (.func 43) #[] #[], .int .i64 50] w (CompOut E N M Q w)) :
    Calls Try.prog 38 #[.slice A N c, .slice C M d] w (DOut E N M Q 68 w) := by
  have HD := Lib.hid (diff_any hc); clear hc
  go_enter Try.func38, Try.ntmps38
  go_wp2_with (fail)
  refine HD.out.mono ?_
  rintro e w1 ⟨ps, A1, c1, rfl, ho1, hb1, hch, hq⟩
  have HO := Lib.hid ho1; have HB := Lib.hid hb1; have HCH := Lib.hid hch; have HQ := Lib.hid hq
  clear ho1 hb1 hch hq
  go_wp2
  go_ret
  exact ⟨ps, A1, c1, rfl, HO.out, HB.out, HCH.out, HQ.out⟩
set_option maxRecDepth 100000 in
set_option maxHeartbeats 400000 in
theorem iLines_any {w : World} {N M c d : Nat} {A C : Option Addr} {E : EQT} {Q : List Pc → Prop} (hc : Calls Try.prog 44 #[.iface 74 (.agg #[.slice A N c, .slice C M d]), .func (.func 43) #[] #[], .int .i64 50] w (CompOut E N M Q w)) (hN : N ≤ 1000001) (hM : M ≤ 1000001) :
    Calls Try.prog 29 #[.slice A N c, .slice C M d] w (DOut E N M Q 39 w) := by
  have HD := Lib.hid (lLines_any hc); clear hc
  go_enter Try.func29, Try.ntmps29
  go_wp2_with (fail)
  refine HD.out.mono ?_
  rintro e w1 ⟨ps, A1, c1, rfl, ho1, hb1, hch, hq⟩
  have hlen := ch_len hch
  have hdl := diffs_len N M ps 0 0
  have hp := parts_any A1 c1 (diffsFrom N M 0 0 ps) w1 (CellsR.of_own ho1) (by omega)
  have HP := Lib.hid hp; have HB := Lib.hid hb1; have HCH := Lib.hid hch; have HQ := Lib.hid hq
  have hsz := hb1.size
  clear ho1 hb1 hch hq hp hlen hdl
  obtain ⟨dl, hdl⟩ : ∃ dl, (diffsFrom N M 0 0 ps).length = dl := ⟨_, rfl⟩
  rw [hdl] at HP ⊢
  have HDL := Lib.hid hdl; clear hdl
  go_wp2_with (fail)
  refine HP.out.mono ?_
  rintro e w2 ⟨A2, c2, rfl, ho2, hb2⟩
  have HO := Lib.hid ho2; have HB2 := Lib.hid hb2; clear ho2 hb2
  go_wp2
  go_ret
  exact ⟨ps, A2, c2, rfl, own_mono HO.out hsz, HB.out.trans (HB2.out.mono hsz), HCH.out, HQ.out⟩
end Go.Proofs.Ytbolgikdadhaeaa
