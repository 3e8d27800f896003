/-
  The walk of impl.Apply.
-/
import Derived.Test.YtoceakjnkillkaaApplyW
namespace Go.Proofs.Ytoceakjnkillkaa
set_option linter.unusedVariables false
open Go.RowKit Go.Shelf

/-- the text that edits make, if they can be applied -/
def apF (s : ByteArray) (es : List Ed) : Option ByteArray := if inOrderF s.size 0 es = true then some (patchB s 0 es) else none
def ImplApplyOut (s : ByteArray) (es : List Ed) (w : World) (e : Ending) (w' : World) : Prop :=
  e = .returned (.tuple #[.string ((apF s es).getD ⟨#[]⟩), .bool (apF s es).isSome]) ∧ Below w.heap.size w w'

/-- over edits in their order -/
theorem validate_sorted (s : ByteArray) (es : List Ed) (hs : s.size ≤ 2000000) (hl : es.length ≤ 2000000) (hz : szE es ≤ 4000000) (ho : sortedW es = true) :
    ∀ A c w, EdsR w A es → Calls Try.prog 36 #[.string s, .slice A es.length c] w (ValidOut s.size es w) :=
  fun A c w hr => validate_any s A c es es w hr hl hs hz (fun _ => rfl) (fun h => by rw [ho] at h; cases h)

def ImplApplyG (s : ByteArray) (P : List Ed → Prop) (w : World) (e : Ending) (w' : World) : Prop := ∃ es', P es' ∧ ImplApplyOut s es' w e w'
set_option maxHeartbeats 1000000 in
theorem implApply_gen {P : List Ed → Prop} (s : ByteArray) (A : Option Addr) (c : Nat) (es : List Ed) (w : World) (hr : EdsR w A es) (hs : s.size ≤ 2000000) (hl : es.length ≤ 2000000) (hP : ∀ es', P es' → es'.length ≤ 2000000 ∧ szE es' ≤ 4000000)
    (hv : ∀ A c w, EdsR w A es → Calls Try.prog 36 #[.string s, .slice A es.length c] w (ValidG s.size P w)) :
   Calls Try.prog 13 #[.string s, .slice A es.length c] w (ImplApplyG s P w) := by
  have hc1 := given_any A c es w hr (by omega)
  have HC1 := Lib.hid hc1; clear hc1
  have ha := fun A c w (h : EdsR w A es) => apply_gen s A c es w hs hP (hv A c w h)
  have HA := Lib.hid ha; clear ha hv
  go_enter Try.func13, Try.ntmps13
  go_wp2_with fail
  refine HC1.out.mono ?_
  rintro e w1 ⟨A1, c1, rfl, ho1, hb1⟩
  go_wp2_with fail
  refine (HA.out A1 c1 w1 (CellsR.of_own ho1)).mono ?_
  rintro e w2 ⟨es', hpp, hb2, ⟨hio, rfl⟩ | ⟨hio, T, v, rfl⟩⟩
  · have HB := Lib.hid (hb1.trans (hb2.mono hb1.size))
    clear hb1 hb2 ho1
    go_wp2
    go_quiet (fail)
    go_wp2
    go_ret2
    refine ⟨es', hpp, ?_, below_drewN HB.out _⟩
    unfold apF
    rw [if_pos hio]
    rfl
  · have HB := Lib.hid (hb1.trans (hb2.mono hb1.size))
    clear hb1 hb2 ho1
    go_wp2
    go_quiet (fail)
    go_wp2
    go_ret2
    refine ⟨es', hpp, ?_, below_drewN HB.out _⟩
    unfold apF
    rw [if_neg (by rw [hio]; simp)]
    rfl
theorem implApply_any (s : ByteArray) (A : Option Addr) (c : Nat) (es es' : List Ed) (w : World) (hr : EdsR w A es) (hs : s.size ≤ 2000000) (hl : es.length ≤ 2000000) (hl' : es'.length ≤ 2000000) (hz : szE es' ≤ 4000000)
    (hv : ∀ A c w, EdsR w A es → Calls Try.prog 36 #[.string s, .slice A es.length c] w (ValidOut s.size es' w)) :
   Calls Try.prog 13 #[.string s, .slice A es.length c] w (ImplApplyOut s es' w) :=
  (implApply_gen (P := fun l => l = es') s A c es w hr hs hl (fun l h => by subst h; exact ⟨hl', hz⟩) (fun A c w h => (hv A c w h).mono fun e w' h => ⟨es', rfl, h⟩)).mono fun e w' ⟨l, h1, h2⟩ => h1 ▸ h2
end Go.Proofs.Ytoceakjnkillkaa
