/-
  Copies of lists of edits: given, told, slices.Clone at the package's edits. Condition: at most 20000000 edits.
-/
import Derived.Test.YtoceakjnkillkaaSmall
import Derived.WalkSpells
namespace Go.Proofs.Ytoceakjnkillkaa
set_option linter.unusedVariables false
open Go.RowKit

theorem infoE : (Try.prog.info? 28).map (fun i => (i.zero, i.size, i.bytes)) = some (some (.agg #[.int .i64 0, .int .i64 0, .string ⟨#[]⟩]), 3, 32) := by kernel_rfl
theorem infoD : (Try.prog.info? 66).map (fun i => (i.zero, i.size, i.bytes)) = some (some (.agg #[.int .i64 0, .int .i64 0, .string ⟨#[]⟩]), 3, 32) := by kernel_rfl

theorem cells_lit3 (w : World) (t : TypeId) (x : Ed) : CellsR (w.alloc (.cells #[.int .i64 x.s, .int .i64 x.e, .string x.n] t)) (some ⟨w.heap.size, 0, none⟩) x.cells := by
  refine .inr ⟨_, _, rfl, fun j u hu => ?_⟩
  have := (Blk.new w t #[.int .i64 x.s, .int .i64 x.e, .string x.n]).cell (0 + j)
  rw [this]
  simpa [Ed.cells] using hu
theorem cells_lit3' (w : World) (t : TypeId) (es : List Ed) (k : Nat) : CellsR (w.alloc (.cells #[.int .i64 (eS es k), .int .i64 (eE es k), .string (eN es k)] t)) (some ⟨w.heap.size, 0, none⟩) (edAt es k).cells :=
  cells_lit3 w t (edAt es k)
theorem edTake (es : List Ed) (k : Nat) (h : k < es.length) : edCells (es.take (k + 1)) = edCells (es.take k) ++ (edAt es k).cells := by
  rw [take_snoc_ed es k h, edCells_append]
  simp [edCells]
theorem edCells1 (x : Ed) : ∀ u ∈ x.cells, u.oneCell' = true := by
  intro u hu
  simp only [Ed.cells, List.mem_cons, List.not_mem_nil, or_false] at hu
  rcases hu with rfl | rfl | rfl <;> rfl

set_option maxHeartbeats 400000 in
/-- impl.given: the edits in new memory. -/
theorem given_any (A : Option Addr) (c : Nat) (es : List Ed) (w : World) (hr : EdsR w A es) (hl : es.length ≤ 20000000) :
   Calls Try.prog 25 #[.slice A es.length c] w fun e w' => ∃ A' c', e = .returned (.slice A' es.length c') ∧ w'.ownsRow w.heap.size 66 3 (.slice A' es.length c') es.length (edCells es) ∧ Below w.heap.size w w' := by
  have HR := Lib.hid hr; clear hr
  obtain ⟨n, hln⟩ : ∃ n, es.length = n := ⟨_, rfl⟩
  rw [hln] at hl ⊢
  have HL := Lib.hid hln; clear hln
  obtain ⟨i0, hi, hz0, hz1, hz2⟩ := info_parts infoD
  go_enter Try.func25, Try.ntmps25
  go_wp2
  go_loopw [3, 5, 9] (fun v _ i wr => ∃ k : Nat, k ≤ n ∧ i = .int .i64 k ∧ wr.ownsRow w.heap.size 66 3 v k (edCells (es.take k)) ∧ Below w.heap.size w wr) (fun _ _ i _ => n - (intOf i).toNat)
  case atStart => exact ⟨0, by omega, rfl, World.ownsRow_made w #[] 0 (Nat.le_refl _) (by simp [maxLen]) rfl, (Below.refl _ _).alloc (Nat.le_refl _) _⟩
  case round =>
    obtain ⟨k, hk, rfl, hown, hb⟩ := hrel
    by_cases hlt : k < n
    · obtain ⟨b, off, rfl, hbb, g1, g2, g3⟩ := (EdsR.below HR.out hb (Nat.le_refl _)).at_ (k := k) (by rw [HL.out]; exact hlt)
      have hbs := hb.size
      have ht := edTake es k (by rw [HL.out]; exact hlt)
      have HT := Lib.hid ht; clear ht
      have HO := Lib.hid hown; clear hown
      go_wp2_with (at_builtin; refine wpList_append_any _ rfl (.tmp 13) (.tmp 21) _ rfl w.heap.size 66 i0 _ 3 32 Try.underlying49 hi hz0 hz1 hz2 rfl (by omega) u3 k (edCells (es.take k)) rfl ((HO.out.alloc _).alloc _) (some ⟨wr.heap.size + 1, 0, none⟩) 1 1 (edAt es k).cells rfl (by have := cells_lit3' (wr.alloc (.cells #[.int .i64 (eS es k), .int .i64 (eE es k), .string (eN es k)] 28)) 66 es k; simpa using this) rfl (edCells1 _) (by unfold maxLen; omega) (by omega) (by simp; omega) ?_; intro A1 c1 w1 hown1 hg1 hat1)
      go_wp2
      go_roundw
      case rel => exact ⟨k + 1, by omega, by go_num, by rw [HT.out]; exact hown1, (((hb.alloc hb.size _).alloc (by simp; omega) _).grown hg1 (by simp; omega) (fun g hg => (HO.out.lt g hg).1))⟩
      case measure => simp [intOf]; omega
    · have hkn : k = n := by omega
      subst hkn
      go_wp2
      go_ret
      have e1 : es.take k = es := List.take_of_length_le (by rw [HL.out]; omega)
      rw [e1] at hown
      obtain ⟨A', c', hv⟩ := own_form hown
      subst hv
      exact ⟨A', c', rfl, hown, hb⟩

set_option maxHeartbeats 400000 in
/-- impl.told: the edits in new memory, the other way. -/
theorem told_any (A : Option Addr) (c : Nat) (es : List Ed) (w : World) (hr : EdsR w A es) (hl : es.length ≤ 20000000) :
   Calls Try.prog 30 #[.slice A es.length c] w fun e w' => ∃ A' c', e = .returned (.slice A' es.length c') ∧ w'.ownsRow w.heap.size 28 3 (.slice A' es.length c') es.length (edCells es) ∧ Below w.heap.size w w' := by
  have HR := Lib.hid hr; clear hr
  obtain ⟨n, hln⟩ : ∃ n, es.length = n := ⟨_, rfl⟩
  rw [hln] at hl ⊢
  have HL := Lib.hid hln; clear hln
  obtain ⟨i0, hi, hz0, hz1, hz2⟩ := info_parts infoE
  go_enter Try.func30, Try.ntmps30
  go_wp2
  go_loopw [3, 5, 9] (fun v _ i wr => ∃ k : Nat, k ≤ n ∧ i = .int .i64 k ∧ wr.ownsRow w.heap.size 28 3 v k (edCells (es.take k)) ∧ Below w.heap.size w wr) (fun _ _ i _ => n - (intOf i).toNat)
  case atStart => exact ⟨0, by omega, rfl, World.ownsRow_made w #[] 0 (Nat.le_refl _) (by simp [maxLen]) rfl, (Below.refl _ _).alloc (Nat.le_refl _) _⟩
  case round =>
    obtain ⟨k, hk, rfl, hown, hb⟩ := hrel
    by_cases hlt : k < n
    · obtain ⟨b, off, rfl, hbb, g1, g2, g3⟩ := (EdsR.below HR.out hb (Nat.le_refl _)).at_ (k := k) (by rw [HL.out]; exact hlt)
      have hbs := hb.size
      have ht := edTake es k (by rw [HL.out]; exact hlt)
      have HT := Lib.hid ht; clear ht
      have HO := Lib.hid hown; clear hown
      go_wp2_with (at_builtin; refine wpList_append_any _ rfl (.tmp 13) (.tmp 21) _ rfl w.heap.size 28 i0 _ 3 32 Try.underlying26 hi hz0 hz1 hz2 rfl (by omega) u3 k (edCells (es.take k)) rfl ((HO.out.alloc _).alloc _) (some ⟨wr.heap.size + 1, 0, none⟩) 1 1 (edAt es k).cells rfl (by have := cells_lit3' (wr.alloc (.cells #[.int .i64 (eS es k), .int .i64 (eE es k), .string (eN es k)] 66)) 28 es k; simpa using this) rfl (edCells1 _) (by unfold maxLen; omega) (by omega) (by simp; omega) ?_; intro A1 c1 w1 hown1 hg1 hat1)
      go_wp2
      go_roundw
      case rel => exact ⟨k + 1, by omega, by go_num, by rw [HT.out]; exact hown1, (((hb.alloc hb.size _).alloc (by simp; omega) _).grown hg1 (by simp; omega) (fun g hg => (HO.out.lt g hg).1))⟩
      case measure => simp [intOf]; omega
    · have hkn : k = n := by omega
      subst hkn
      go_wp2
      go_ret
      have e1 : es.take k = es := List.take_of_length_le (by rw [HL.out]; omega)
      rw [e1] at hown
      obtain ⟨A', c', hv⟩ := own_form hown
      subst hv
      exact ⟨A', c', rfl, hown, hb⟩


set_option maxHeartbeats 400000 in
/-- slices.Clone at the package's edits. -/
theorem clone_any (A : Option Addr) (c : Nat) (es : List Ed) (w : World) (hr : EdsR w A es) (hl : es.length ≤ 20000000) :
   Calls Try.prog 39 #[.slice A es.length c] w fun e w' => ∃ A' c', e = .returned (.slice A' es.length c') ∧ w'.ownsRow w.heap.size 66 3 (.slice A' es.length c') es.length (edCells es) ∧ Below w.heap.size w w' := by
  obtain ⟨i0, hi, hz0, hz1, hz2⟩ := info_parts infoD
  obtain ⟨n, hln⟩ : ∃ n, es.length = n := ⟨_, rfl⟩
  have hlen := edCells_length es
  have HLE := Lib.hid hlen; clear hlen
  rw [hln] at hl ⊢
  have HL := Lib.hid hln; clear hln
  have HR := Lib.hid hr; clear hr
  rcases A with _ | a
  · have h0 : edCells es = [] := by
      rcases HR.out with h | ⟨b, off, h, _⟩
      · exact h
      · cases h
    have hn : n = 0 := by have h1 := HLE.out; rw [h0, HL.out] at h1; simp at h1; omega
    subst hn
    have HE := Lib.hid h0; clear h0
    have hq := fun w => Lib.run_eql_slice_nil (P := Try.prog) w 49 66 none 0 c 0 0 Try.underlying49
    go_enter Try.func39, Try.ntmps39
    go_wp2
    go_ret
    exact ⟨none, 0, rfl, by rw [HE.out]; exact World.ownsRow_nil _ _ _ _, Below.refl _ _⟩
  · have hq := fun w => Lib.run_eql_slice_nil (P := Try.prog) w 49 66 (some a) n c 0 0 Try.underlying49
    go_enter Try.func39, Try.ntmps39
    go_wp2_with (at_builtin; refine wpList_append_any _ rfl (.tmp 5) (.tmp 6) _ rfl w.heap.size 66 i0 _ 3 32 Try.underlying49 hi hz0 hz1 hz2 rfl (by omega) (.slice (some ⟨w.heap.size, 0, none⟩) 0 0) 0 [] rfl (World.ownsRow_made w #[] 0 (Nat.le_refl _) (by simp [maxLen]) rfl) (some a) n c (edCells es) rfl (CellsR.alloc HR.out _) (by rw [HLE.out, HL.out]) (edCells_one es) (by unfold maxLen; omega) (by omega) (by simp) ?_; intro A1 c1 w1 hown1 hg1 hat1)
    go_ret
    simp only [Nat.zero_add, List.nil_append] at hown1 ⊢
    exact ⟨A1, c1, rfl, hown1, ((Below.refl _ _).alloc (Nat.le_refl _) _).grown hg1 (by simp) (by simp [Value.ownBlock])⟩

end Go.Proofs.Ytoceakjnkillkaa
