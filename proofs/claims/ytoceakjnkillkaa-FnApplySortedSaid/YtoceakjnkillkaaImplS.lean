/-
  The walk of impl.SortEdits; the sort of no edit. Condition: at most 2000000 edits.
-/
import Derived.Test.YtoceakjnkillkaaToldS
namespace Go.Proofs.Ytoceakjnkillkaa
set_option linter.unusedVariables false
open Go.RowKit Go.Shelf

set_option maxRecDepth 100000 in
theorem insertion_zero (v : Value) (w : World) : Calls Try.prog 47 #[v, .int .i64 0, .int .i64 0] w fun e w' => e = .returned (.tuple #[]) ∧ w' = w := by
  go_enter Try.func47, Try.ntmps47
  go_wp2
  go_loopg [6] 0 (fun q u wr => u = .int .i64 1 ∧ wr = w)
  case atStart => exact ⟨rfl, rfl⟩
  case round =>
    obtain ⟨rfl, rfl⟩ := hrel
    go_wp2
    go_end0
    exact ⟨rfl, rfl⟩
set_option maxRecDepth 100000 in
theorem stable_zero (v : Value) (w : World) : Calls Try.prog 44 #[v, .int .i64 0] w fun e w' => e = .returned (.tuple #[]) ∧ w' = w := by
  have HI := Lib.hid (insertion_zero v w)
  go_enter Try.func44, Try.ntmps44
  go_wp2
  go_loopg [5, 6] 0 (fun q u v wr => u = .int .i64 0 ∧ v = .int .i64 20 ∧ wr = w)
  case atStart => exact ⟨rfl, rfl, rfl⟩
  case round =>
    obtain ⟨rfl, rfl, rfl⟩ := hrel
    go_wp2_with fail
    refine HI.out.mono ?_
    rintro e w2 ⟨rfl, rfl⟩
    go_wp2
    go_loopg [4] 0 (fun q u wr => u = .int .i64 20 ∧ wr = w2)
    case atStart => exact ⟨rfl, rfl⟩
    case round =>
      obtain ⟨rfl, rfl⟩ := hrel
      go_wp2
      go_end0
      exact ⟨rfl, rfl⟩
set_option maxHeartbeats 1000000 in
theorem sortEdits_zero (A : Option Addr) (c : Nat) (w : World) : Calls Try.prog 29 #[.slice A 0 c] w fun e w' => e = .returned (.tuple #[]) ∧ w' = w := by
  have m1 := mLen A 0 c
  have e1 := enters_of Try.func75 (by kernel_rfl) rfl
  have HLN := Lib.hid (len_any A 0 c w)
  have hst : Calls Try.prog 38 #[.iface 68 (.slice A 0 c)] w fun e w' => e = .returned (.tuple #[]) ∧ w' = w := by
    have HS := Lib.hid (stable_zero (.iface 68 (.slice A 0 c)) w)
    go_enter Try.func38, Try.ntmps38
    go_wp2_with fail
    refine HLN.out.mono ?_
    rintro e w' ⟨rfl, rfl⟩
    go_wp2_with fail
    refine HS.out.mono ?_
    rintro e w' ⟨rfl, rfl⟩
    go_wp2
    go_end0
    exact ⟨rfl, rfl⟩
  have HS := Lib.hid hst
  clear hst HLN
  go_enter Try.func29, Try.ntmps29
  go_wp2_with fail
  refine HS.out.mono ?_
  rintro e w' ⟨rfl, rfl⟩
  go_wp2
  go_end0
  exact ⟨rfl, rfl⟩
/-- at any number of edits -/
theorem sortEdits_own {w : World} {base c : Nat} {A : Option Addr} {es : List Ed} (h : w.ownsRow base 66 3 (.slice A es.length c) es.length (edCells es)) (hl : es.length ≤ 20000000) :
    Calls Try.prog 29 #[.slice A es.length c] w (SortedOut base es.length c A es w) := by
  cases es with
  | nil =>
    refine (sortEdits_zero A c w).mono ?_
    rintro e w' ⟨rfl, rfl⟩
    exact ⟨rfl, [], List.Perm.refl _, fun _ => rfl, h, Below.refl _ _⟩
  | cons x l => exact sortEdits_any rfl h (by simp) hl
/-- what impl.SortEdits gives -/
def ImplSortOut (es : List Ed) (w : World) (e : Ending) (w' : World) : Prop :=
  ∃ es' A c, SortOf es es' ∧ e = .returned (.slice A es.length c) ∧ EdsR w' A es' ∧ Below w.heap.size w w'
set_option maxHeartbeats 1000000 in
theorem implSort_any (A : Option Addr) (c : Nat) (es : List Ed) (w : World) (hr : EdsR w A es) (hl : es.length ≤ 20000000) :
    Calls Try.prog 18 #[.slice A es.length c] w (ImplSortOut es w) := by
  have HG := Lib.hid (given_any A c es w hr hl)
  have hs := fun (W : World) (A : Option Addr) (c : Nat) (h : W.ownsRow w.heap.size 66 3 (.slice A es.length c) es.length (edCells es)) => sortEdits_own (base := w.heap.size) h hl
  have ht := fun (W : World) (A : Option Addr) (c : Nat) (es' : List Ed) (h : EdsR W A es') (hp : es'.Perm es) => told_any A c es' W h (by rw [hp.length_eq]; exact hl)
  have ht2 : ∀ W A c es', EdsR W A es' → es'.Perm es → Calls Try.prog 30 #[.slice A es.length c] W fun e w' => ∃ A' c', e = .returned (.slice A' es.length c') ∧ EdsR w' A' es' ∧ Below W.heap.size W w' := by
    intro W A c es' h hp
    have h1 := ht W A c es' h hp
    rw [hp.length_eq] at h1
    refine h1.mono ?_
    rintro e w' ⟨A', c', rfl, ho, hb⟩
    exact ⟨A', c', rfl, CellsR.of_own ho, hb⟩
  have HS := Lib.hid hs; have HT := Lib.hid ht2
  clear hs ht ht2 hr
  unfold ImplSortOut SortOf
  unfold SortedOut at HS
  generalize hn : es.length = n at *
  go_enter Try.func18, Try.ntmps18
  go_wp2_with fail
  refine HG.out.mono ?_
  rintro e w1 ⟨A1, c1, rfl, ho1, hb1⟩
  have HO1 := Lib.hid ho1; have HB1 := Lib.hid hb1
  clear ho1 hb1
  go_wp2_with fail
  refine (HS.out _ A1 c1 HO1.out).mono ?_
  rintro e w2 ⟨rfl, es', hp, hg, ho2, hb2⟩
  have HR2 := Lib.hid (CellsR.of_own ho2); have HB2 := Lib.hid (HB1.out.trans hb2); have HP := Lib.hid hp; have HGG := Lib.hid hg
  clear ho2 hb2 hp hg
  go_wp2_with fail
  refine (HT.out _ A1 c1 es' HR2.out HP.out).mono ?_
  rintro e w3 ⟨A3, c3, rfl, hr3, hb3⟩
  have HR3 := Lib.hid hr3; have HB3 := Lib.hid (HB2.out.trans (hb3.mono HB2.out.size))
  clear hr3 hb3
  go_wp2
  go_ret
  exact ⟨es', A3, c3, ⟨HP.out, HGG.out⟩, rfl, HR3.out, HB3.out⟩
end Go.Proofs.Ytoceakjnkillkaa
