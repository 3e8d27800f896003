/-
  The walk of lineEdits: edits made into edits of whole lines. validate's contract is a premise. Condition: a text of at most 1000000 bytes, edits whose texts have at most 1100000 bytes together.
-/
import Derived.Test.YtgphjnhbheimiaaGreatDoorSoB
import Derived.Deep.RegionLaw
import Derived.OwnWalk
import Derived.WalkMore
import Derived.ScopeJumps
namespace Go.Proofs.YtgphjnhbheimiaaGreatDoor
set_option linter.unusedVariables false
open Go.RowKit Go.Shelf

/-- all but the first of a list of edits -/
theorem eds_tail {P : Program} (t e : TypeId) (i : TypeInfo) (ht : P.underlying t = some (.slice e)) (hi : P.info? e = some i) (hs : i.size = 3) (A : Option Addr) (x : Ed) (es : List Ed) (n c : Nat) (hn : es.length = n) (h3 : n + 1 ≤ c) :
    ∃ A', (∀ w, (Instr.slice t (.slice A (n + 1) c) (some (.int .i64 1)) none none).run P w = .ok (.slice A' n (c - 1)) w) ∧ ∀ w, EdsR w A (x :: es) → EdsR w A' es := by
  have he : P.elem t = e := by unfold Program.elem; rw [ht]
  refine ⟨if c = 1 then A else A.map (·.add (1 * 3)), fun w => ?_, fun w hr => ?_⟩
  · rw [run_slice_l w t A (n + 1) c (by rw [he]; exact ht) .i64 1 (by omega) (by omega)]
    simp [he, sizeOf, typeInfo, hi, hs, sliced, Result.andThen]
  · by_cases h : c = 1
    · have : es = [] := List.eq_nil_of_length_eq_zero (by omega)
      subst this
      exact .inl rfl
    · rw [if_neg h]
      rcases hr with h9 | ⟨b, off, rfl, hc⟩
      · rw [edCells_cons] at h9
        simp [Ed.cells] at h9
      · refine .inr ⟨b, off + 3, by simp [add_lit], fun j u hu => ?_⟩
        rw [Nat.add_assoc]
        refine hc (3 + j) u ?_
        rw [edCells_cons, List.getElem?_append_right (by simp [Ed.cells]), show 3 + j - x.cells.length = j by simp [Ed.cells]]
        exact hu
theorem hasNl_cut {s : ByteArray} {a b : Nat} (h : a ≤ b) (hb : b ≤ s.size) : hasNl (s.extract a b) 0 (s.extract a b).size = hasNl s a b := by
  have hz : (s.extract a b).size = b - a := by rw [ByteArray.size_extract]; omega
  rw [hz]
  apply Bool.eq_iff_iff.2
  rw [hasNl_iff, hasNl_iff]
  constructor
  · rintro ⟨j, h1, h2, h3⟩
    rw [byteAt_cut s a b j hb (by omega)] at h3
    exact ⟨a + j, by omega, by omega, h3⟩
  · rintro ⟨j, h1, h2, h3⟩
    exact ⟨j - a, by omega, by omega, by rw [byteAt_cut s a b _ hb (by omega), show a + (j - a) = j by omega]; exact h3⟩
/-- what lineEdits gives -/
def LinG (s : ByteArray) (P : List Ed → Prop) (w : World) (e : Ending) (w' : World) : Prop :=
  ∃ es', P es' ∧ Below w.heap.size w w' ∧ ((inOrderF s.size 0 es' = true ∧ ∃ A c, e = .returned (.tuple #[.slice A (lineF s es').length c, .nilIface]) ∧ EdsR w' A (lineF s es') ∧ (lineF s es').length ≤ c) ∨
    (inOrderF s.size 0 es' = false ∧ ∃ v T, e = .returned (.tuple #[.slice none 0 0, .iface T v]) ∧ T ≠ 0))
theorem own_belowX {w w' : World} {base : Nat} {e : TypeId} {size n : Nat} {v : Value} {xs : List Value} {B : Nat} (h : w.ownsRow base e size v n xs) (hf : Below B w w') (hB : w.heap.size ≤ B) : w'.ownsRow base e size v n xs := by
  refine ⟨h.1, ?_⟩
  rcases h.2 with h1 | ⟨g, cap, cur, h1, h2, h3, h4⟩
  · exact .inl h1
  · refine .inr ⟨g, cap, cur, h1, h2, ?_, h4⟩
    have hl : g < w.heap.size := by
      rcases Nat.lt_or_ge g w.heap.size with h5 | h5
      · exact h5
      · rw [Array.getElem?_eq_none h5] at h3; cases h3
    exact (hf.block g (by omega)).trans h3
theorem own_setX {w : World} {base : Nat} {e : TypeId} {size n : Nat} {v : Value} {xs : List Value} (h : w.ownsRow base e size v n xs) {p : Addr} (hp : ∀ g, v.ownBlock = some g → g ≠ p.block) (u : Value) : (w.setCell p u).ownsRow base e size v n xs := by
  refine ⟨h.1, ?_⟩
  rcases h.2 with h1 | ⟨g, cap, cur, rfl, h2, h3, h4⟩
  · exact .inl h1
  · exact .inr ⟨g, cap, cur, rfl, h2, (Below.heap_setCell w p u g (hp g rfl)).trans h3, h4⟩
theorem edCells_appendX (a b : List Ed) : edCells (a ++ b) = edCells a ++ edCells b := by simp [edCells]
theorem edLit (w : World) (t : TypeId) (x : Ed) : CellsR (w.alloc (.cells #[.int .i64 x.s, .int .i64 x.e, .string x.n] t)) (some ⟨w.heap.size, 0, none⟩) (edCells [x]) := by
  have := cells_lit3 w t x
  rw [edCells_cons]
  simpa [edCells] using this
theorem inOrder_tail {N at_ : Int} {es : List Ed} (h : inOrderF N at_ es = true) (k : Nat) (hk : k < es.length) : 0 ≤ eS es k ∧ eS es k ≤ eE es k ∧ eE es k ≤ N := by
  have := inOrderX_mem h es[k] (List.getElem_mem hk)
  simpa [eS, eE, edAt, hk] using this
theorem szE_at {es : List Ed} (k : Nat) (hk : k < es.length) : (eN es k).size ≤ szE es := by
  induction es generalizing k with
  | nil => simp at hk
  | cons x l ih =>
    cases k with
    | zero => simp [eN, edAt, szE]; omega
    | succ k =>
      have := ih k (by simpa using hk)
      have e : eN (x :: l) (k + 1) = eN l k := by simp [eN, edAt]
      rw [e]
      simp only [szE]
      omega
theorem all_snoc {es : List Ed} {f : Ed → Bool} {k : Nat} (h : (es.take k).all f = true) (hk : k < es.length) (hf : f (edAt es k) = true) : (es.take (k + 1)).all f = true := by
  rw [List.take_succ_eq_append_getElem hk, List.all_append, h]
  simpa [edAt, hk] using hf
theorem all_not {es : List Ed} {f : Ed → Bool} {k : Nat} (hk : k < es.length) (hf : f (edAt es k) = false) : es.all f = false := by
  cases h : es.all f with
  | false => rfl
  | true =>
    have := List.all_eq_true.1 h es[k] (List.getElem_mem hk)
    have e : edAt es k = es[k] := by simp [edAt, hk]
    rw [e, this] at hf
    cases hf
/-- a frame of 130 slots, slot by slot -/
theorem frame130 (t : Array Value) (h : t.size = 130) : ∃ u : Nat → Value, (∀ i, u i = t.getD i undef) ∧ t = #[u 0, u 1, u 2, u 3, u 4, u 5, u 6, u 7, u 8, u 9, u 10, u 11, u 12, u 13, u 14, u 15, u 16, u 17, u 18, u 19, u 20, u 21, u 22, u 23, u 24, u 25, u 26, u 27, u 28, u 29, u 30, u 31, u 32, u 33, u 34, u 35, u 36, u 37, u 38, u 39, u 40, u 41, u 42, u 43, u 44, u 45, u 46, u 47, u 48, u 49, u 50, u 51, u 52, u 53, u 54, u 55, u 56, u 57, u 58, u 59, u 60, u 61, u 62, u 63, u 64, u 65, u 66, u 67, u 68, u 69, u 70, u 71, u 72, u 73, u 74, u 75, u 76, u 77, u 78, u 79, u 80, u 81, u 82, u 83, u 84, u 85, u 86, u 87, u 88, u 89, u 90, u 91, u 92, u 93, u 94, u 95, u 96, u 97, u 98, u 99, u 100, u 101, u 102, u 103, u 104, u 105, u 106, u 107, u 108, u 109, u 110, u 111, u 112, u 113, u 114, u 115, u 116, u 117, u 118, u 119, u 120, u 121, u 122, u 123, u 124, u 125, u 126, u 127, u 128, u 129] := by
  refine ⟨fun i => t.getD i undef, fun _ => rfl, ?_⟩
  have e : t = ((List.range 130).map fun i => t.getD i undef).toArray := by
    apply Array.ext
    · simp [h]
    · intro i h1 h2
      simp [Array.getD, h1]
  exact e
/-- what holds where the slow road begins -/
def LinJ (s : ByteArray) (P : List Ed → Prop) (n0 : Nat) (w : World) (A1 : Option Addr) (c1 : Nat) (wr : World) : Prop :=
  ∃ es', P es' ∧ inOrderF s.size 0 es' = true ∧ EdsR wr A1 es' ∧ es'.length = n0 ∧ n0 ≤ c1 ∧ n0 ≤ 1000000 ∧ szE es' ≤ 1100000 ∧ Below w.heap.size w wr ∧ es'.all (alignB s) = false
set_option maxRecDepth 100000 in
set_option maxHeartbeats 4000000 in
theorem lineEdits_any {P : List Ed → Prop} (s : ByteArray) (A : Option Addr) (cin : Nat) (es : List Ed) (w : World) (hs : s.size ≤ 1000000) (hcap : es.length ≤ cin) (hP : ∀ es', P es' → es'.length = es.length ∧ es'.length ≤ 1000000 ∧ szE es' ≤ 1100000)
    (hv : Calls Tryz.prog 29 #[.string s, .slice A es.length cin] w (ValidG s.size cin P w)) :
    Calls Tryz.prog 20 #[.string s, .slice A es.length cin] w (LinG s P w) := by
  obtain ⟨i0, hi, hz0, hz1, hz2⟩ := info_parts infoD
  have HV := Lib.hid hv; clear hv
  have HX := Lib.hid (fun (x : Ed) W (hx : 0 ≤ x.s ∧ x.s ≤ x.e ∧ x.e ≤ s.size) (hn : x.n.size ≤ 4000000) => expand_any s x W hs hx hn)
  have HC := Lib.hid (fun (t : ByteArray) W (h : t.size ≤ 4000000) => zzContains_any t W h)
  unfold ExpOut at HX
  have HP := Lib.hid hP; clear hP
  obtain ⟨n0, hn0⟩ : ∃ n, es.length = n := ⟨_, rfl⟩
  rw [hn0] at hcap HP HV ⊢
  clear hn0
  go_enter Tryz.func20, Tryz.ntmps20
  go_wp2
  obtain ⟨J, hJ⟩ : ∃ J : Act → World → Prop, J = (fun a' wr => ∃ (A1 : Option Addr) (c1 : Nat), a'.tmps.size = 130 ∧ a'.defers = [] ∧ a'.tmps.getD 0 undef = .string s ∧ a'.tmps.getD 1 undef = .slice A1 n0 c1 ∧ a'.tmps.getD 4 undef = .slice none 0 0 ∧ a'.tmps.getD 5 undef = .nilIface ∧ LinJ s P n0 w A1 c1 wr) := ⟨_, rfl⟩
  have HJ := Lib.hid hJ; clear hJ
  refine wp_scope_jumps 0 J (fun _ _ => 0) (by simp only [findLabel]; rfl) ?_ ?_
  · go_wp2_with fail
    refine HV.out.mono ?_
    rintro e w1 ⟨es', hpp, hb1, ⟨hio, A1, c1, rfl, hr1, hcc⟩ | ⟨hio, A1, c1, v, T, rfl, hT⟩⟩
    · obtain ⟨hl0, hl, hz⟩ := HP.out es' hpp
      have hcc1 := hcc (by omega)
      clear hcc
      have hmem := fun k hk => inOrder_tail hio k hk
      have hsz := fun k hk => szE_at (es := es') k hk
      have HMEM := Lib.hid hmem; have HSZ := Lib.hid hsz; have HIO := Lib.hid hio; have HR1 := Lib.hid hr1; have HB1 := Lib.hid hb1; have HPP := Lib.hid hpp
      clear hmem hsz hio hr1 hb1 hpp
      rw [hl0] at hl hcc1 ⊢
      have LX := Lib.hid hl0; clear hl0
      go_wp2_with fail
      go_loopg [27] n0 (fun q i wr => ∃ k : Nat, q = n0 - k ∧ k ≤ n0 ∧ i = .int .i64 k ∧ (es'.take k).all (alignB s) = true ∧ Below w1.heap.size w1 wr)
      case atStart => exact ⟨0, rfl, Nat.zero_le _, rfl, rfl, Below.refl _ _⟩
      case round =>
        obtain ⟨k, hq, hk, rfl, hall, hb⟩ := hrel
        have HQ := Lib.hid hq; have HALL := Lib.hid hall; have HB := Lib.hid hb
        have hbs := hb.size
        clear hq hall hb
        by_cases hlt : k < n0
        · have hkl : k < es'.length := by rw [LX.out]; exact hlt
          obtain ⟨b, off, hA, hbb, g0, g1, g2⟩ := (EdsR.below HR1.out HB.out (Nat.le_refl _)).at_ hkl
          subst hA
          have hm := HMEM.out k hkl
          have hns := HSZ.out k hkl
          have hxe : edAt es' k = ⟨eS es' k, eE es' k, eN es' k⟩ := rfl
          generalize eS es' k = X at *
          generalize eE es' k = Y at *
          generalize eN es' k = n at *
          obtain ⟨a, rfl⟩ : ∃ a : Nat, X = a := ⟨X.toNat, by omega⟩
          obtain ⟨c, rfl⟩ : ∃ c : Nat, Y = c := ⟨Y.toNat, by omega⟩
          have HXE := Lib.hid hxe; clear hxe
          obtain ⟨-, hac, hcs⟩ := hm
          have hac : a ≤ c := by omega
          have hcs : c ≤ s.size := by omega
          have hbk := Blk.new wr 47 #[.int .i64 (a : Int), .int .i64 (c : Int), .string n]
          have hbw := HB.out.alloc hbs (.cells #[.int .i64 (a : Int), .int .i64 (c : Int), .string n] 47)
          go_upto_region 7 with fail
          generalize hW : wr.alloc (.cells #[.int .i64 (a : Int), .int .i64 (c : Int), .string n] 47) = W at *
          clear hW
          have d0 := hbk.cell 0
          have d1 := hbk.cell 1
          have d2 := hbk.cell 2
          have HBW := Lib.hid hbw
          clear hbk hbw g0 g1 g2 hbb
          go_cut [76] (fun v wx => v = .bool (!(alignB s ⟨(a : Int), (c : Int), n⟩)) ∧ W = wx)
          case first =>
            by_cases hsa : (s.size : Int) ≤ (a : Int)
            · have HV := Lib.hid (show alignB s ⟨(a : Int), (c : Int), n⟩ = false by simp only [alignB]; rw [decide_eq_false (by omega)]; rfl)
              go_wp2_with fail
              go_meet
              exact ⟨by rw [HV.out]; rfl, rfl⟩
            · by_cases h0a : a = 0
              · subst h0a
                have HBA := Lib.hid (show behindB s 0 = true from rfl)
                have hs0 : (0 : Int) < (s.size : Int) := by omega
                have hse : ¬ s = ByteArray.empty := fun h => by rw [h] at hs0; exact absurd hs0 (by decide)
                have hss : ¬ s.size = 0 := by omega
                have HA := Lib.hid (show decide (((0 : Nat) : Int) < (s.size : Int)) = true from decide_eq_true hs0)
                by_cases h0c : c = 0
                · subst h0c
                  have HBC := Lib.hid (show behindB s 0 = true from rfl)
                  clear HBC
                  rcases Nat.eq_zero_or_pos n.size with hz | hz
                  · have : n = ⟨#[]⟩ := ByteArray.size_eq_zero_iff.1 hz
                    subst this
                    have HV := Lib.hid (show alignB s ⟨((0 : Nat) : Int), ((0 : Nat) : Int), ⟨#[]⟩⟩ = true by simp only [alignB, Int.toNat_natCast, HBA.out, HA.out, Bool.and_true, Bool.true_and]; rfl)
                    clear hz
                    go_wp2_with fail
                    go_meet
                    exact ⟨by rw [HV.out]; rfl, rfl⟩
                  · obtain ⟨z, hz⟩ : ∃ z, n.size = z + 1 := ⟨n.size - 1, by omega⟩
                    have hzl : z < n.size := by omega
                    have hz1 : (n.size : Int) - 1 = (z : Int) := by omega
                    have hne : ¬ n = ⟨#[]⟩ := fun h => by rw [h] at hzl; exact absurd hzl (Nat.not_lt_zero _)
                    have e1 : (n.toList == ByteArray.toList ⟨#[]⟩) = false := strEq_false hne
                    have e5 : n.toList.isEmpty = false := by
                      cases hx : n.toList with
                      | nil => rw [hx] at e1; simp at e1
                      | cons a l => rfl
                    by_cases h10 : byteAt n z = 10
                    · have e2 : (((n[z]'hzl).toNat : Int) != 10) = false := by rw [byteAt_get n z hzl] at h10; simp [h10]
                      have HV := Lib.hid (show alignB s ⟨((0 : Nat) : Int), ((0 : Nat) : Int), n⟩ = true by simp only [alignB, Int.toNat_natCast, HBA.out, HA.out, Bool.and_true, Bool.true_and]; simp [wholeB, hz, h10])
                      clear h10 hne hz
                      go_wp2_with fail
                      go_meet
                      exact ⟨by rw [HV.out]; rfl, rfl⟩
                    · have e2 : (((n[z]'hzl).toNat : Int) != 10) = true := by rw [byteAt_get n z hzl] at h10; simp; omega
                      have HV := Lib.hid (show alignB s ⟨((0 : Nat) : Int), ((0 : Nat) : Int), n⟩ = false by simp only [alignB, Int.toNat_natCast, HBA.out, HA.out, Bool.and_true, Bool.true_and]; simp [wholeB, hz, h10])
                      clear h10 hne hz
                      go_wp2_with fail
                      go_meet
                      exact ⟨by rw [HV.out]; rfl, rfl⟩
                · obtain ⟨cq, rfl⟩ : ∃ q, c = q + 1 := ⟨c - 1, by omega⟩
                  have hqc : cq < s.size := by omega
                  have hpc : (0 : Int) < ((cq + 1 : Nat) : Int) := by omega
                  have hmc : ((cq + 1 : Nat) : Int) - 1 = (cq : Int) := by omega
                  clear h0c
                  by_cases hxc : byteAt s cq = 10
                  · have ebc : (((s[cq]'hqc).toNat : Int) != 10) = false := by rw [byteAt_get s cq hqc] at hxc; simp [hxc]
                    have HBC := Lib.hid (show behindB s (cq + 1) = true by simp [behindB, hxc])
                    clear hxc
                    rcases Nat.eq_zero_or_pos n.size with hz | hz
                    · have : n = ⟨#[]⟩ := ByteArray.size_eq_zero_iff.1 hz
                      subst this
                      have HV := Lib.hid (show alignB s ⟨((0 : Nat) : Int), ((cq + 1 : Nat) : Int), ⟨#[]⟩⟩ = true by simp only [alignB, Int.toNat_natCast, HBA.out, HBC.out, HA.out, Bool.and_true, Bool.true_and]; rfl)
                      clear hz
                      go_wp2_with fail
                      go_meet
                      exact ⟨by rw [HV.out]; rfl, rfl⟩
                    · obtain ⟨z, hz⟩ : ∃ z, n.size = z + 1 := ⟨n.size - 1, by omega⟩
                      have hzl : z < n.size := by omega
                      have hz1 : (n.size : Int) - 1 = (z : Int) := by omega
                      have hne : ¬ n = ⟨#[]⟩ := fun h => by rw [h] at hzl; exact absurd hzl (Nat.not_lt_zero _)
                      have e1 : (n.toList == ByteArray.toList ⟨#[]⟩) = false := strEq_false hne
                      have e5 : n.toList.isEmpty = false := by
                        cases hx : n.toList with
                        | nil => rw [hx] at e1; simp at e1
                        | cons a l => rfl
                      by_cases h10 : byteAt n z = 10
                      · have e2 : (((n[z]'hzl).toNat : Int) != 10) = false := by rw [byteAt_get n z hzl] at h10; simp [h10]
                        have HV := Lib.hid (show alignB s ⟨((0 : Nat) : Int), ((cq + 1 : Nat) : Int), n⟩ = true by simp only [alignB, Int.toNat_natCast, HBA.out, HBC.out, HA.out, Bool.and_true, Bool.true_and]; simp [wholeB, hz, h10])
                        clear h10 hne hz
                        go_wp2_with fail
                        go_meet
                        exact ⟨by rw [HV.out]; rfl, rfl⟩
                      · have e2 : (((n[z]'hzl).toNat : Int) != 10) = true := by rw [byteAt_get n z hzl] at h10; simp; omega
                        have HV := Lib.hid (show alignB s ⟨((0 : Nat) : Int), ((cq + 1 : Nat) : Int), n⟩ = false by simp only [alignB, Int.toNat_natCast, HBA.out, HBC.out, HA.out, Bool.and_true, Bool.true_and]; simp [wholeB, hz, h10])
                        clear h10 hne hz
                        go_wp2_with fail
                        go_meet
                        exact ⟨by rw [HV.out]; rfl, rfl⟩
                  · have ebc : (((s[cq]'hqc).toNat : Int) != 10) = true := by rw [byteAt_get s cq hqc] at hxc; simp; omega
                    have HV := Lib.hid (show alignB s ⟨((0 : Nat) : Int), ((cq + 1 : Nat) : Int), n⟩ = false by simp only [alignB, Int.toNat_natCast]; simp [behindB, hxc])
                    clear hxc
                    go_wp2_with fail
                    go_meet
                    exact ⟨by rw [HV.out]; rfl, rfl⟩
              · obtain ⟨aq, rfl⟩ : ∃ q, a = q + 1 := ⟨a - 1, by omega⟩
                have hqa : aq < s.size := by omega
                have hpa : (0 : Int) < ((aq + 1 : Nat) : Int) := by omega
                have hma : ((aq + 1 : Nat) : Int) - 1 = (aq : Int) := by omega
                have HA := Lib.hid (show decide (((aq + 1 : Nat) : Int) < (s.size : Int)) = true from decide_eq_true (by omega))
                have hsd : decide ((s.size : Int) ≤ (aq : Int) + 1) = false := decide_eq_false (by omega)
                have hsl : (aq : Int) + 1 < (s.size : Int) := by omega
                clear hsa
                clear h0a
                by_cases hxa : byteAt s aq = 10
                · have eba : (((s[aq]'hqa).toNat : Int) != 10) = false := by rw [byteAt_get s aq hqa] at hxa; simp [hxa]
                  have HBA := Lib.hid (show behindB s (aq + 1) = true by simp [behindB, hxa])
                  clear hxa
                  by_cases h0c : c = 0
                  · subst h0c
                    exfalso; omega
                  · obtain ⟨cq, rfl⟩ : ∃ q, c = q + 1 := ⟨c - 1, by omega⟩
                    have hqc : cq < s.size := by omega
                    have hpc : (0 : Int) < ((cq + 1 : Nat) : Int) := by omega
                    have hmc : ((cq + 1 : Nat) : Int) - 1 = (cq : Int) := by omega
                    clear h0c
                    by_cases hxc : byteAt s cq = 10
                    · have ebc : (((s[cq]'hqc).toNat : Int) != 10) = false := by rw [byteAt_get s cq hqc] at hxc; simp [hxc]
                      have HBC := Lib.hid (show behindB s (cq + 1) = true by simp [behindB, hxc])
                      clear hxc
                      rcases Nat.eq_zero_or_pos n.size with hz | hz
                      · have : n = ⟨#[]⟩ := ByteArray.size_eq_zero_iff.1 hz
                        subst this
                        have HV := Lib.hid (show alignB s ⟨((aq + 1 : Nat) : Int), ((cq + 1 : Nat) : Int), ⟨#[]⟩⟩ = true by simp only [alignB, Int.toNat_natCast, HBA.out, HBC.out, HA.out, Bool.and_true, Bool.true_and]; rfl)
                        clear hz
                        go_wp2_with fail
                        go_meet
                        exact ⟨by rw [HV.out]; rfl, rfl⟩
                      · obtain ⟨z, hz⟩ : ∃ z, n.size = z + 1 := ⟨n.size - 1, by omega⟩
                        have hzl : z < n.size := by omega
                        have hz1 : (n.size : Int) - 1 = (z : Int) := by omega
                        have hne : ¬ n = ⟨#[]⟩ := fun h => by rw [h] at hzl; exact absurd hzl (Nat.not_lt_zero _)
                        have e1 : (n.toList == ByteArray.toList ⟨#[]⟩) = false := strEq_false hne
                        have e5 : n.toList.isEmpty = false := by
                          cases hx : n.toList with
                          | nil => rw [hx] at e1; simp at e1
                          | cons a l => rfl
                        by_cases h10 : byteAt n z = 10
                        · have e2 : (((n[z]'hzl).toNat : Int) != 10) = false := by rw [byteAt_get n z hzl] at h10; simp [h10]
                          have HV := Lib.hid (show alignB s ⟨((aq + 1 : Nat) : Int), ((cq + 1 : Nat) : Int), n⟩ = true by simp only [alignB, Int.toNat_natCast, HBA.out, HBC.out, HA.out, Bool.and_true, Bool.true_and]; simp [wholeB, hz, h10])
                          clear h10 hne hz
                          go_wp2_with fail
                          go_meet
                          exact ⟨by rw [HV.out]; rfl, rfl⟩
                        · have e2 : (((n[z]'hzl).toNat : Int) != 10) = true := by rw [byteAt_get n z hzl] at h10; simp; omega
                          have HV := Lib.hid (show alignB s ⟨((aq + 1 : Nat) : Int), ((cq + 1 : Nat) : Int), n⟩ = false by simp only [alignB, Int.toNat_natCast, HBA.out, HBC.out, HA.out, Bool.and_true, Bool.true_and]; simp [wholeB, hz, h10])
                          clear h10 hne hz
                          go_wp2_with fail
                          go_meet
                          exact ⟨by rw [HV.out]; rfl, rfl⟩
                    · have ebc : (((s[cq]'hqc).toNat : Int) != 10) = true := by rw [byteAt_get s cq hqc] at hxc; simp; omega
                      have HV := Lib.hid (show alignB s ⟨((aq + 1 : Nat) : Int), ((cq + 1 : Nat) : Int), n⟩ = false by simp only [alignB, Int.toNat_natCast]; simp [behindB, hxc])
                      clear hxc
                      go_wp2_with fail
                      go_meet
                      exact ⟨by rw [HV.out]; rfl, rfl⟩
                · have eba : (((s[aq]'hqa).toNat : Int) != 10) = true := by rw [byteAt_get s aq hqa] at hxa; simp; omega
                  have HV := Lib.hid (show alignB s ⟨((aq + 1 : Nat) : Int), (c : Int), n⟩ = false by simp only [alignB, Int.toNat_natCast]; simp [behindB, hxa])
                  clear hxa
                  go_wp2_with fail
                  go_meet
                  exact ⟨by rw [HV.out]; rfl, rfl⟩
          case rest =>
            obtain ⟨rfl, rfl⟩ := hcut
            cases hal : alignB s ⟨(a : Int), (c : Int), n⟩ with
            | true =>
              go_wp2_with fail
              go_roundg (n0 - (k + 1))
              case measure => have := HQ.out; omega
              case rel => exact ⟨k + 1, rfl, by omega, by go_num, all_snoc HALL.out hkl (by rw [HXE.out]; exact hal), HBW.out⟩
            | false =>
              go_wp2_with fail
              go_step3
              simp only [Exit.inBlock, Exit.then, Exit.jump]
              refine ⟨trivial, ?_⟩
              rw [HJ.out]
              exact ⟨_, _, rfl, rfl, rfl, rfl, rfl, rfl, es', HPP.out, HIO.out, EdsR.below HR1.out HBW.out (Nat.le_refl _), LX.out, hcc1, hl, hz, HB1.out.trans (HBW.out.mono HB1.out.size), all_not hkl (by rw [HXE.out]; exact hal)⟩
        · have : k = n0 := by omega
          subst this
          have hla : lineF s es' = es' := by
            have h1 := HALL.out
            have h2 : es'.take k = es' := List.take_of_length_le (by rw [LX.out]; omega)
            rw [h2] at h1
            unfold lineF
            rw [if_pos h1]
          go_wp2_with fail
          simp only [Exit.jump]
          go_ret2
          exact ⟨es', HPP.out, HB1.out.trans (HB.out.mono HB1.out.size), .inl ⟨HIO.out, A1, c1, by rw [hla, LX.out]; rfl, by rw [hla]; exact EdsR.below HR1.out HB.out (Nat.le_refl _), by rw [hla, LX.out]; exact hcc1⟩⟩
    · go_wp2_with fail
      simp only [Exit.jump]
      go_ret2
      exact ⟨es', hpp, hb1, .inr ⟨hio, _, _, rfl, hT⟩⟩
  · intro a' w' hj
    rw [HJ.out] at hj
    obtain ⟨tm, df⟩ := a'
    obtain ⟨A1, c1, q0, q1, q2, q3, q4, q5, hJ⟩ := hj
    simp only at q0 q1 q2 q3 q4 q5
    subst q1
    obtain ⟨u, hu, hfr⟩ := frame130 tm q0
    rw [← hu] at q2 q3 q4 q5
    rw [q2, q3, q4, q5] at hfr
    rw [hfr]
    clear hfr hu q0 q2 q3 q4 q5
    obtain ⟨es', hpp, hio, hr1, hl0, hcc1, hl, hz, hb1, hall⟩ := hJ
    cases hes : es' with
    | nil => rw [hes] at hall; cases hall
    | cons p0 l =>
      subst hes
      obtain ⟨m, rfl⟩ : ∃ m, n0 = m + 1 := ⟨l.length, by rw [← hl0]; rfl⟩
      have hlm : l.length = m := by simpa using hl0
      have hline : lineF s (p0 :: l) = mrgE s p0 l := by unfold lineF; rw [if_neg (by rw [hall]; simp)]
      obtain ⟨b, off, hA, hbb, g0, g1, g2⟩ := hr1.at_ (k := 0) (by simp)
      subst hA
      have hm0 : 0 ≤ p0.s ∧ p0.s ≤ p0.e ∧ p0.e ≤ s.size := inOrder_tail hio 0 (by simp)
      have hz0' : p0.n.size + szE l + 1 = szE (p0 :: l) := by simp only [szE]; omega
      obtain ⟨A2, hcut, hsub⟩ := eds_tail (P := Tryz.prog) 35 47 i0 Tryz.underlying35 hi hz1 (some ⟨b, off, none⟩) p0 l m c1 hlm hcc1
      rw [Nat.zero_mul, Nat.add_zero] at g0 g1 g2
      change w'.cell? ⟨b, off, none⟩ = some (.int .i64 p0.s) at g0
      change w'.cell? ⟨b, off + 1, none⟩ = some (.int .i64 p0.e) at g1
      change w'.cell? ⟨b, off + 2, none⟩ = some (.string p0.n) at g2
      have e0 : (((m + 1 : Nat) : Int) == 0) = false := by simp; omega
      have HR2 := Lib.hid (hsub _ hr1)
      have HIO := Lib.hid hio; have HPP := Lib.hid hpp; have HLINE := Lib.hid hline; have HLM := Lib.hid hlm
      have hb1s := hb1.size
      have HB1 := Lib.hid hb1
      clear hsub hr1 hall hio hpp hline hlm hl0 hb1 HP HV HJ
      go_wp2_with (at_make; refine wpList_make_own _ rfl _ _ _ rfl w'.heap.size 47 i0 (.agg #[.int .i64 0, .int .i64 0, .string ⟨#[]⟩]) 3 Tryz.underlying35 hi hz0 hz1 .i64 .i64 _ (m + 1) rfl rfl rfl (by rw [hz2]; omega) (by unfold maxLen; omega) (Nat.le_refl _) ?_; intro w2 hown2 hg2; have hb2 := (Below.refl w'.heap.size w').grown hg2 (Nat.le_refl _) (fun k h => by cases h); have k0 := (hb2.cell (p := ⟨b, off, none⟩) hbb).trans g0; have k1 := (hb2.cell (p := ⟨b, off + 1, none⟩) hbb).trans g1; have k2 := (hb2.cell (p := ⟨b, off + 2, none⟩) hbb).trans g2; have hb2s := hb2.size; have HB2 := Lib.hid hb2; have HO2 := Lib.hid hown2; clear hb2 hown2 hg2 g0 g1 g2)
      have hbk := Blk.new w2 47 #[.int .i64 p0.s, .int .i64 p0.e, .string p0.n]
      have hbw := HB2.out.alloc hb2s (.cells #[.int .i64 p0.s, .int .i64 p0.e, .string p0.n] 47)
      have hbo := HO2.out.alloc (.cells #[.int .i64 p0.s, .int .i64 p0.e, .string p0.n] 47)
      have hne0 : ∀ g, (Value.slice (some ⟨w'.heap.size, 0, none⟩) 0 (m + 1)).ownBlock = some g → g ≠ w2.heap.size := fun g hg => by have := (HO2.out.lt g hg).2; omega
      obtain ⟨PB, hPB⟩ : ∃ PB, w2.heap.size = PB := ⟨_, rfl⟩
      rw [hPB] at hbk hne0 ⊢
      generalize hW3 : w2.alloc (.cells #[.int .i64 p0.s, .int .i64 p0.e, .string p0.n] 47) = W3 at *
      have hpb : w'.heap.size ≤ PB := by omega
      clear hW3 hPB
      have HBK := Lib.hid hbk; have HBW := Lib.hid hbw; have HBO := Lib.hid hbo
      clear hbk hbw hbo k0 k1 k2
      go_loopg [10, 92] m (fun q v i wr => ∃ (k : Nat) (r : List Ed) (p : Ed), q = m - k ∧ k ≤ m ∧ i = .int .i64 k ∧ wr.ownsRow w'.heap.size 47 3 v r.length (edCells r) ∧ r.length ≤ k ∧ (∀ g, v.ownBlock = some g → g ≠ PB) ∧ Blk wr PB 47 #[.int .i64 p.s, .int .i64 p.e, .string p.n] ∧ Below w'.heap.size w' wr ∧ r ++ mrgE s p (l.drop k) = mrgE s p0 l ∧ inOrderF s.size 0 (p :: l.drop k) = true ∧ (p.n.size + szE (l.drop k) : Int) + s.size ≤ 2100000 + p.e)
      case atStart => exact ⟨0, [], p0, rfl, Nat.zero_le _, rfl, HBO.out, Nat.le_refl _, hne0, HBK.out, HBW.out, by rw [List.drop_zero]; rfl, by rw [List.drop_zero]; exact HIO.out, by rw [List.drop_zero]; omega⟩
      case round =>
        obtain ⟨k, r, p, hq, hk, rfl, hown, hrk, hne, hblk, hbel, hmrg, hord, hszz⟩ := hrel
        obtain ⟨A4, c4, rfl⟩ := own_form hown
        obtain ⟨g1, g2, g3, g4, g5⟩ := inOrderF_cons hord
        have HQ := Lib.hid hq; have HO := Lib.hid hown; have HNE := Lib.hid hne; have HBLK := Lib.hid hblk; have HBEL := Lib.hid hbel; have HMRG := Lib.hid hmrg; have HORD := Lib.hid hord
        have hbls := hbel.size
        have hpbl := hblk.lt
        obtain ⟨X, Y, n⟩ := p
        simp only at g1 g2 g3 g4 g5 hszz
        obtain ⟨a, rfl⟩ : ∃ a : Nat, X = a := ⟨X.toNat, by omega⟩
        obtain ⟨c, rfl⟩ : ∃ c : Nat, Y = c := ⟨Y.toNat, by omega⟩
        have hac : a ≤ c := by omega
        have hcs : c ≤ s.size := by omega
        have hnz : n.size ≤ 3000000 := by omega
        have h0 := hblk.cell 0
        have h1 := hblk.cell 1
        have h2 := hblk.cell 2
        have hwr1 : w.heap.size ≤ wr.heap.size := by omega
        clear hq hown hne hblk hbel hmrg hord
        by_cases hlt : k < m
        · have hkl : k < l.length := by rw [HLM.out]; exact hlt
          obtain ⟨b2, o2, hA2, hbb2, y0, y1, y2⟩ := (EdsR.below HR2.out HBEL.out (Nat.le_refl _)).at_ hkl
          subst hA2
          have hdr : l.drop k = edAt l k :: l.drop (k + 1) := by rw [List.drop_eq_getElem_cons hkl]; simp [edAt, hkl]
          have hsz2 : szE (l.drop k) = (edAt l k).n.size + 1 + szE (l.drop (k + 1)) := by rw [hdr]; rfl
          rw [hdr] at g5
          obtain ⟨x, hx⟩ : ∃ x, edAt l k = x := ⟨_, rfl⟩
          have ex0 : eS l k = x.s := by rw [← hx]; rfl
          have ex1 : eE l k = x.e := by rw [← hx]; rfl
          have ex2 : eN l k = x.n := by rw [← hx]; rfl
          rw [ex0] at y0
          rw [ex1] at y1
          rw [ex2] at y2
          rw [hx] at hdr g5 hsz2
          clear ex0 ex1 ex2 hx
          obtain ⟨X, Y, n2⟩ := x
          obtain ⟨k1, k2, k3, k4, k5⟩ := inOrderF_cons g5
          simp only at k1 k2 k3 k4 k5 y0 y1 y2 hsz2
          obtain ⟨a2, rfl⟩ : ∃ a2 : Nat, X = a2 := ⟨X.toNat, by omega⟩
          obtain ⟨c2, rfl⟩ : ∃ c2 : Nat, Y = c2 := ⟨Y.toNat, by omega⟩
          have i1 : c ≤ a2 := by omega
          have i2 : a2 ≤ c2 := by omega
          have i3 : c2 ≤ s.size := by omega
          have i4 : (0 : Int) ≤ (c : Int) := by omega
          have i5 : (c : Int) ≤ (a2 : Int) := by omega
          have i6 : (a2 : Int) ≤ (s.size : Int) := by omega
          have hn2 : n2.size ≤ 3000000 := by omega
          have hsz3 : szE (l.drop (k + 1)) ≤ szE (l.drop k) := by omega
          have HDR := Lib.hid hdr; have HK5 := Lib.hid k5
          clear hdr g5 k5
          go_upto_region 17 with fail
          have hbN := Blk.new wr 47 #[.int .i64 (a2 : Int), .int .i64 (c2 : Int), .string n2]
          have hbP := HBLK.out.alloc (.cells #[.int .i64 (a2 : Int), .int .i64 (c2 : Int), .string n2] 47)
          have hbO := HO.out.alloc (.cells #[.int .i64 (a2 : Int), .int .i64 (c2 : Int), .string n2] 47)
          have hbB := HBEL.out.alloc hbls (.cells #[.int .i64 (a2 : Int), .int .i64 (c2 : Int), .string n2] 47)
          have hNl : wr.heap.size < (wr.alloc (.cells #[.int .i64 (a2 : Int), .int .i64 (c2 : Int), .string n2] 47)).heap.size := by simp
          have hNO : ∀ g, (Value.slice A4 r.length c4).ownBlock = some g → g ≠ wr.heap.size := fun g hg => by have := (HO.out.lt g hg).2; omega
          obtain ⟨NB, hNB⟩ : ∃ NB, wr.heap.size = NB := ⟨_, rfl⟩
          rw [hNB] at hbN hNl hNO ⊢
          generalize hW1 : wr.alloc (.cells #[.int .i64 (a2 : Int), .int .i64 (c2 : Int), .string n2] 47) = W1 at *
          have hnp : ¬ NB = PB := by omega
          have hpn : ¬ PB = NB := by omega
          have x0 := hbN.cell 0
          have x1 := hbN.cell 1
          have x2 := hbN.cell 2
          have p0' := hbP.cell 0
          have p1' := hbP.cell 1
          have p2' := hbP.cell 2
          have q1' := hbP.frozen 1
          have q2' := hbP.frozen 2
          have HN := Lib.hid hbN; have HPB := Lib.hid hbP; have HOW := Lib.hid hbO; have HBB := Lib.hid hbB; have HNO := Lib.hid hNO
          clear hbN hbP hbO hbB hW1 hNO y0 y1 y2 h0 h1 h2
          go_wp2_with fail
          refine (HC.out _ _ (by rw [ByteArray.size_extract]; omega)).mono ?_
          rintro e w3 ⟨rfl, rfl⟩
          rw [hasNl_cut i1 (by omega)]
          cases hnl : hasNl s c a2 with
          | false =>
            have hm2 : r ++ mrgE s ⟨(a : Int), (c2 : Int), n ++ s.extract c a2 ++ n2⟩ (l.drop (k + 1)) = mrgE s p0 l := by
              have := HMRG.out
              rw [HDR.out] at this
              simp only [mrgE, Int.toNat_natCast] at this
              rw [if_neg (by rw [hnl]; simp)] at this
              exact this
            have HM2 := Lib.hid hm2
            clear hm2 hnl
            go_wp2_with fail
            go_roundg (m - (k + 1))
            case measure => have := HQ.out; omega
            case rel =>
              refine ⟨k + 1, r, ⟨(a : Int), (c2 : Int), n ++ s.extract c a2 ++ n2⟩, rfl, by omega, by go_num, own_setX (own_setX HOW.out HNE.out _) HNE.out _, by omega, HNE.out, ?_, (HBB.out.setCell hpb _).setCell hpb _, HM2.out, ?_, ?_⟩
              · have h := (HPB.out.set_ 2 (.string (n ++ (s.extract c a2 ++ n2)))).set_ 1 (.int .i64 (c2 : Int))
                rw [ByteArray.append_assoc]
                exact h
              · exact inOrderF_mk g1 (by show (a : Int) ≤ (c2 : Int); omega) k3 g4 HK5.out
              · simp only [ByteArray.size_append, ByteArray.size_extract]
                omega
          | true =>
            have hm2 : (r ++ [expE s ⟨(a : Int), (c : Int), n⟩]) ++ mrgE s ⟨(a2 : Int), (c2 : Int), n2⟩ (l.drop (k + 1)) = mrgE s p0 l := by
              have := HMRG.out
              rw [HDR.out] at this
              simp only [mrgE, Int.toNat_natCast] at this
              rw [if_pos hnl] at this
              rw [List.append_assoc]
              exact this
            have hx := HX.out ⟨(a : Int), (c : Int), n⟩ w3 ⟨by simp only; omega, by simp only; omega, by simp only; omega⟩ (by simp only; omega)
            generalize hE : expE s ⟨(a : Int), (c : Int), n⟩ = E at *
            have HXX := Lib.hid hx; have HM2 := Lib.hid hm2
            clear hx hm2 hE hnl
            go_wp2_with fail
            refine HXX.out.mono ?_
            rintro e w5 ⟨rfl, hb5⟩
            have hb5s := hb5.size
            have hN5 := HN.out.below hb5 hNl
            have hP5 := HPB.out.below hb5 (by omega)
            have HO5 := Lib.hid (own_belowX HOW.out hb5 (Nat.le_refl _)); have HB5 := Lib.hid (HBB.out.trans (hb5.mono HBB.out.size)); have HN5 := Lib.hid hN5; have HP5 := Lib.hid hP5
            clear hb5 hN5 hP5 x0 x1 x2 p0' p1' p2' q1' q2'
            obtain ⟨rn, hrn⟩ : ∃ rn, r.length = rn := ⟨_, rfl⟩
            rw [hrn] at HO5 hrk HNE HNO ⊢
            go_wp2_with (at_builtin; refine wpList_append_any _ rfl (.tmp 116) (.tmp 120) _ rfl w'.heap.size 47 i0 _ 3 32 Tryz.underlying35 hi hz0 hz1 hz2 rfl (by omega) (.slice A4 rn c4) rn (edCells r) rfl (HO5.out.alloc _) (some ⟨w5.heap.size, 0, none⟩) 1 1 (edCells [E]) rfl (edLit _ _ E) rfl (edCells_one _) (by unfold maxLen; omega) (by omega) (by simp; omega) ?_; intro A6 c6 w6 hown6 hg6 hat6; have hN6 := (HN5.out.alloc _).grown hg6 (fun h => HNO.out NB h.symm rfl); have hP6 := (HP5.out.alloc _).grown hg6 (fun h => HNE.out PB h.symm rfl); have HO6 := Lib.hid hown6; have HB6 := Lib.hid ((HB5.out.alloc (by omega) _).grown hg6 (by simp; omega) (fun g hg => (HO5.out.lt g hg).1)); have x0 := hN6.cell 0; have x1 := hN6.cell 1; have x2 := hN6.cell 2; have p0' := hP6.cell 0; have p1' := hP6.cell 1; have p2' := hP6.cell 2; have q0' := hP6.frozen 0; have q1' := hP6.frozen 1; have q2' := hP6.frozen 2; have HP6 := Lib.hid hP6; have HAT := Lib.hid hat6; clear hown6 hg6 hat6 hN6 hP6)
            have hne6 : ∀ g, (Value.slice A6 (rn + 1) c6).ownBlock = some g → g ≠ PB := fun g hg => by
              rcases HAT.out with h | h
              · exact HNE.out g (by rw [← h]; exact hg)
              · rw [h] at hg
                injection hg with hg
                simp at hg
                omega
            go_roundg (m - (k + 1))
            case measure => have := HQ.out; omega
            case rel =>
              refine ⟨k + 1, r ++ [E], ⟨(a2 : Int), (c2 : Int), n2⟩, rfl, by omega, by go_num, ?_, by rw [List.length_append, hrn]; simp; omega, hne6, ?_, ((HB6.out.setCell hpb _).setCell hpb _).setCell hpb _, HM2.out, ?_, ?_⟩
              · rw [List.length_append, hrn, edCells_appendX]
                exact own_setX (own_setX (own_setX HO6.out hne6 _) hne6 _) hne6 _
              · exact ((HP6.out.set_ 0 (.int .i64 (a2 : Int))).set_ 1 (.int .i64 (c2 : Int))).set_ 2 (.string n2)
              · exact inOrderF_mk k1 (by show (a2 : Int) ≤ (c2 : Int); omega) k3 (by show (0 : Int) ≤ (a2 : Int); omega) HK5.out
              · simp only
                omega
        · obtain rfl : k = m := by omega
          have hdr : l.drop k = [] := List.drop_of_length_le (by rw [HLM.out]; omega)
          have hend : r ++ [expE s ⟨(a : Int), (c : Int), n⟩] = mrgE s p0 l := by
            have := HMRG.out
            rw [hdr] at this
            exact this
          have hx := HX.out ⟨(a : Int), (c : Int), n⟩ wr ⟨by simp only; omega, by simp only; omega, by simp only; omega⟩ (by simp only; omega)
          generalize hE : expE s ⟨(a : Int), (c : Int), n⟩ = E at *
          have HXX := Lib.hid hx; have HEND := Lib.hid hend
          clear hx hend hE hdr g5
          go_wp2_with fail
          refine HXX.out.mono ?_
          rintro e w5 ⟨rfl, hb5⟩
          have hb5s := hb5.size
          have HO5 := Lib.hid (own_belowX HO.out hb5 (Nat.le_refl _)); have HB5 := Lib.hid (HBEL.out.trans (hb5.mono hbls))
          clear hb5
          obtain ⟨rn, hrn⟩ : ∃ rn, r.length = rn := ⟨_, rfl⟩
          rw [hrn] at HO5 hrk ⊢
          go_wp2_with (at_builtin; refine wpList_append_any _ rfl (.tmp 124) (.tmp 128) _ rfl w'.heap.size 47 i0 _ 3 32 Tryz.underlying35 hi hz0 hz1 hz2 rfl (by omega) (.slice A4 rn c4) rn (edCells r) rfl (HO5.out.alloc _) (some ⟨w5.heap.size, 0, none⟩) 1 1 (edCells [E]) rfl (edLit _ _ E) rfl (edCells_one _) (by unfold maxLen; omega) (by omega) (by simp; omega) ?_; intro A6 c6 w6 hown6 hg6 hat6)
          go_ret2
          refine ⟨p0 :: l, HPP.out, HB1.out.trans (((HB5.out.alloc (by omega) _).grown hg6 (by simp; omega) (fun g hg => (HO5.out.lt g hg).1)).mono hb1s), .inl ⟨HIO.out, A6, c6, ?_, ?_, ?_⟩⟩
          · rw [HLINE.out, ← HEND.out, List.length_append, hrn]; rfl
          · rw [HLINE.out, ← HEND.out]
            unfold EdsR
            rw [edCells_appendX]
            exact CellsR.of_own hown6
          · rw [HLINE.out, ← HEND.out, List.length_append, hrn]; exact own_capV hown6
end Go.Proofs.YtgphjnhbheimiaaGreatDoor
