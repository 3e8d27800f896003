/-
  The walk of overlap: the piece that is proposed, trimmed. No condition but bounds.
-/
import Derived.Test.YtgphjnhbheimiaaGreatDoorWwA
import Derived.Test.YtgphjnhbheimiaaGreatDoorLcsX
import Derived.Test.YtgphjnhbheimiaaGreatDoorDetT
import Derived.RegionTactic
import Derived.ChangeAlike
import Derived.Handy
namespace Go.Proofs.YtgphjnhbheimiaaGreatDoor
set_option linter.unusedVariables false
open Go.RowKit

/-- what overlap gives -/
def OvI (ex ey el px py pl d X Y L : Int) : Prop := (d = 0 ∧ L ≤ 0) ∨ d = 3 ∨ ((d = 1 ∨ d = 2) ∧ ∃ k, X = px + k ∧ Y = py + k ∧ 0 ≤ k ∧ 0 < L ∧ k + L ≤ pl ∧ ((X + L ≤ ex ∧ Y + L ≤ ey) ∨ (ex + el ≤ X ∧ ey + el ≤ Y)))
theorem OvI.of {ex ey el px py pl d X Y L : Int} (hd : d = 1 ∨ d = 2) (h1 : X - px = Y - py) (h2 : 0 ≤ X - px) (h3 : 0 < L) (h4 : X - px + L ≤ pl) (h5 : (X + L ≤ ex ∧ Y + L ≤ ey) ∨ (ex + el ≤ X ∧ ey + el ≤ Y)) : OvI ex ey el px py pl d X Y L :=
  .inr (.inr ⟨hd, X - px, by omega, by omega, h2, h3, h4, h5⟩)
set_option maxRecDepth 100000 in
set_option maxHeartbeats 4000000 in
theorem ov_any (w : World) (ex ey el px py pl : Int) (h1 : 0 ≤ ex) (h2 : 0 ≤ ey) (h3 : 0 < el) (h4 : 0 ≤ px) (h5 : 0 ≤ py) (h6 : 0 < pl) (h7 : ex ≤ 2000002) (h8 : ey ≤ 2000002) (h9 : el ≤ 2000002) (h10 : px ≤ 2000002) (h11 : py ≤ 2000002) (h12 : pl ≤ 2000002) :
    Calls Tryz.prog 78 #[.agg #[.int .i64 ex, .int .i64 ey, .int .i64 el], .agg #[.int .i64 px, .int .i64 py, .int .i64 pl]] w fun e w' =>
      ∃ d X Y L, e = .returned (.tuple #[.int .i64 d, .agg #[.int .i64 X, .int .i64 Y, .int .i64 L]]) ∧ Below w.heap.size w w' ∧ OvI ex ey el px py pl d X Y L ∧ ovC1 ex ey el px py pl = (d, X, Y, L) := by
  go_enter Tryz.func78, Tryz.ntmps78
  go_wp2
  all_goals go_region
  all_goals (try go_wp2)
  all_goals go_returns
  all_goals refine ⟨_, _, _, _, rfl, ?_, ?_, ?_⟩
  all_goals try
    (unfold ovC1
     repeat (first | rw [if_pos (by omega)] | rw [if_neg (by omega)] | unfold ovC2 | unfold ovC3 | unfold ovC4 | unfold ovD)
     done)
  all_goals try
    (unfold ovC1
     repeat (first | rw [if_pos (by omega)] | rw [if_neg (by omega)] | unfold ovC2 | unfold ovC3 | unfold ovC4 | unfold ovD)
     simp only [Prod.mk.injEq]
     omega)
  all_goals first
    | exact .inl ⟨rfl, by omega⟩
    | exact .inr (.inl rfl)
    | exact OvI.of (.inl rfl) (by omega) (by omega) (by omega) (by omega) (.inl ⟨by omega, by omega⟩)
    | exact OvI.of (.inr rfl) (by omega) (by omega) (by omega) (by omega) (.inr ⟨by omega, by omega⟩)
    | (repeat (first | exact Below.refl _ _ | refine Below.drew ?_ | refine Below.setCell ?_ (by first | (simp; done) | (simp; omega)) _ | refine Below.alloc ?_ (by first | (simp; done) | (simp; omega)) _))
end Go.Proofs.YtgphjnhbheimiaaGreatDoor
