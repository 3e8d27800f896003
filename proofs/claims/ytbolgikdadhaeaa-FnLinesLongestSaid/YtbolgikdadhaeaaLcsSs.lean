/-
  The walk of spec.OfLines: texts as numbers, the same ones for the same texts. Condition: at most a million texts each.
-/
import Derived.Test.YtbolgikdadhaeaaLcsBs
import Derived.Test.YtbolgikdadhaeaaLcsS
namespace Go.Proofs.Ytbolgikdadhaeaa
set_option linter.unusedVariables false
open Go.RowKit

/-- where a text stands first -/
def firstS (L : List ByteArray) (i : Nat) : Nat := L.findIdx fun y => decide (y = sx L i)
theorem sx_get {L : List ByteArray} {i : Nat} (h : i < L.length) : sx L i = L[i] := by simp [sx, h]
theorem firstS_lt {L : List ByteArray} {i : Nat} (h : i < L.length) : firstS L i < L.length := by
  unfold firstS
  rw [List.findIdx_lt_length]
  exact ⟨L[i], List.getElem_mem h, by rw [sx_get h]; simp⟩
theorem firstS_eq {L : List ByteArray} {i : Nat} (h : i < L.length) : sx L (firstS L i) = sx L i := by
  have hl := firstS_lt h
  have := List.findIdx_getElem (xs := L) (p := fun y => decide (y = sx L i)) (w := hl)
  rw [sx_get hl]
  exact of_decide_eq_true this
theorem firstS_ne {L : List ByteArray} {i j : Nat} (hj : j < firstS L i) (hl : j < L.length) : ¬ sx L j = sx L i := by
  have := List.not_of_lt_findIdx (p := fun y => decide (y = sx L i)) (xs := L) (i := j) hj
  rw [sx_get hl]
  simpa using this
theorem firstS_le {L : List ByteArray} {i : Nat} (h : i < L.length) : firstS L i ≤ i := by
  rcases Nat.lt_or_ge i (firstS L i) with h1 | h1
  · exact absurd rfl (firstS_ne h1 h)
  · exact h1
theorem firstS_same {L : List ByteArray} {i j : Nat} (hi : i < L.length) (hj : j < L.length) : firstS L i = firstS L j ↔ sx L i = sx L j := by
  constructor
  · intro h
    rw [← firstS_eq hi, ← firstS_eq hj, h]
  · intro h
    unfold firstS
    rw [h]
theorem firstS_idem {L : List ByteArray} {i : Nat} (h : i < L.length) : firstS L (firstS L i) = firstS L i := (firstS_same (firstS_lt h) h).2 (firstS_eq h)
theorem firstS_of {L : List ByteArray} {i f : Nat} (h : i < L.length) (hf : f < L.length) (h1 : sx L f = sx L i) (h2 : ∀ j, j < f → ¬ sx L j = sx L i) : firstS L i = f := by
  rcases Nat.lt_trichotomy (firstS L i) f with h3 | h3 | h3
  · exact absurd (firstS_eq h) (h2 _ h3)
  · exact h3
  · exact absurd h1 (firstS_ne h3 hf)
/-- the numbers of texts -/
def numsS (L : List ByteArray) : List Int := (List.range L.length).map fun i => (firstS L i : Int)
theorem numsS_length (L : List ByteArray) : (numsS L).length = L.length := by simp [numsS]
theorem numsS_ix {L : List ByteArray} {i : Nat} (h : i < L.length) : ix (numsS L) i = (firstS L i : Int) := by simp [ix, numsS, h]
theorem numsS_take (L : List ByteArray) {i : Nat} (h : i < L.length) : intCells .i64 ((numsS L).take (i + 1)) = intCells .i64 ((numsS L).take i) ++ intCells .i64 [(firstS L i : Int)] := by
  rw [intTake _ _ _ (by rw [numsS_length]; exact h), numsS_ix h]
/-- the numbers of two lists of texts are alike just where the texts are -/
theorem numsS_eq (xs ys : List ByteArray) (i j : Nat) (hi : i < xs.length) (hj : j < ys.length) :
    eqI ((numsS (xs ++ ys)).take xs.length) ((numsS (xs ++ ys)).drop xs.length) i j = eqS xs ys i j := by
  have h1 : ix ((numsS (xs ++ ys)).take xs.length) i = (firstS (xs ++ ys) i : Int) := by
    have h : i < (xs ++ ys).length := by simp; omega
    rw [← numsS_ix h]
    simp [ix, hi]
  have h2 : ix ((numsS (xs ++ ys)).drop xs.length) j = (firstS (xs ++ ys) (xs.length + j) : Int) := by
    have h : xs.length + j < (xs ++ ys).length := by simp; omega
    rw [← numsS_ix h]
    simp [ix]
  have s1 : sx (xs ++ ys) i = sx xs i := by simp [sx, List.getElem?_append_left hi]
  have s2 : sx (xs ++ ys) (xs.length + j) = sx ys j := by
    unfold sx
    rw [List.getD_eq_getElem?_getD, List.getD_eq_getElem?_getD, List.getElem?_append_right (by omega), Nat.add_sub_cancel_left]
  unfold eqI eqS
  rw [h1, h2]
  have := firstS_same (L := xs ++ ys) (i := i) (j := xs.length + j) (by simp; omega) (by simp; omega)
  rw [s1, s2] at this
  by_cases h : sx xs i = sx ys j
  · rw [decide_eq_true h, decide_eq_true (by rw [this.2 h])]
  · rw [decide_eq_false h, decide_eq_false (fun hh => h (this.1 (by omega)))]
theorem lead_congr {E F : EQT} {n x y : Nat} (h : ∀ i, i < n → E (x + i) (y + i) = F (x + i) (y + i)) : lead E n x y = lead F n x y := by
  have hle := lead_le F n x y
  refine lead_eq _ _ _ _ _ hle (fun i hi => ?_) ?_
  · rw [h i (by omega)]; exact lead_all _ _ _ _ i hi
  · rcases Nat.lt_or_ge (lead F n x y) n with h1 | h1
    · right; rw [h _ h1]; exact lead_next _ _ _ _ h1
    · left; omega
/-- a pair of sequences of texts under any relation that says where they are alike -/
theorem lines_seq_of {w : World} {A C : Option Addr} {c d : Nat} {xs ys : List ByteArray} {E : EQT} (hE : ∀ i j, i < xs.length → j < ys.length → E i j = eqS xs ys i j) (hx : StrsR w A xs) (hy : StrsR w C ys) (hc : xs.length ≤ c) (hd : ys.length ≤ d) (hl : xs.length ≤ 1000001) (hm : ys.length ≤ 1000001) :
    SeqC w w.heap.size 74 (.agg #[.slice A xs.length c, .slice C ys.length d]) 121 122 E xs.length ys.length :=
  let s := lines_seq hx hy hc hd hl hm
  { mP := s.mP, mS := s.mS, eP := s.eP, eS := s.eS, nA := s.nA, nM := s.nM
    cP := fun W hW x X y Y h1 h2 h3 h4 => by
      have := s.cP W hW x X y Y h1 h2 h3 h4
      have e : lead E (min (X - x) (Y - y)) x y = lead (eqS xs ys) (min (X - x) (Y - y)) x y := lead_congr fun i hi => by first | exact hE _ _ (by omega) (by omega) | (simp only [rev]; exact hE _ _ (by omega) (by omega))
      rw [e]
      exact this
    cS := fun W hW x y h1 h2 h3 h4 => by
      have := s.cS W hW x y h1 h2 h3 h4
      have e : lead (rev E xs.length ys.length) (min x y) (xs.length - x) (ys.length - y) = lead (rev (eqS xs ys) xs.length ys.length) (min x y) (xs.length - x) (ys.length - y) := lead_congr fun i hi => by first | exact hE _ _ (by omega) (by omega) | (simp only [rev]; exact hE _ _ (by omega) (by omega))
      rw [e]
      exact this }

theorem own_someA {w : World} {base e size n c : Nat} {A : Option Addr} {xs : List Value} (h : w.ownsRow base e size (.slice A n c) n xs) (hn : 0 < n) : ∃ g, A = some ⟨g, 0, none⟩ := by
  rcases h.2 with ⟨h1, h2⟩ | ⟨g, cap, cur, hv, r⟩
  · omega
  · injection hv with h1
    exact ⟨g, h1⟩
theorem own_capB {w : World} {base e size n c : Nat} {A : Option Addr} {xs : List Value} (h : w.ownsRow base e size (.slice A n c) n xs) : n ≤ c := by
  rcases h.2 with ⟨h1, h2⟩ | ⟨g, cap, cur, hv, _, _, h3, _⟩
  · omega
  · injection hv with h1 h2 h4
    subst h4
    exact h3
theorem run_cutTo {P : Program} (t e : TypeId) (i : TypeInfo) (ht : P.underlying t = some (.slice e)) (hi : P.info? e = some i) (hs : i.size = 1) (g n c X : Nat) (h2 : X ≤ c) (w : World) :
    (Instr.slice t (.slice (some ⟨g, 0, none⟩) n c) none (some (.int .i64 X)) none).run P w = .ok (.slice (some ⟨g, 0, none⟩) X c) w := by
  have k1 : (0 : Int) ≤ (X : Int) := by omega
  have k3 : (X : Int) ≤ (c : Int) := by omega
  have he : P.elem t = e := by unfold Program.elem; rw [ht]
  rw [run_slice_h w t (some ⟨g, 0, none⟩) n c (by rw [he]; exact ht) .i64 (X : Int) k1 k3]
  simp [he, sizeOf, typeInfo, hi, hs, sliced, Result.andThen, add_lit]
theorem run_cutFrom {P : Program} (t e : TypeId) (i : TypeInfo) (ht : P.underlying t = some (.slice e)) (hi : P.info? e = some i) (hs : i.size = 1) (g n c X : Nat) (h2 : X ≤ n) (h3 : n ≤ c) (w : World) :
    (Instr.slice t (.slice (some ⟨g, 0, none⟩) n c) (some (.int .i64 X)) none none).run P w = .ok (.slice (some ⟨g, if c = X then 0 else X, none⟩) (n - X) (c - X)) w := by
  have k1 : (0 : Int) ≤ (X : Int) := by omega
  have k3 : (X : Int) ≤ (n : Int) := by omega
  have he : P.elem t = e := by unfold Program.elem; rw [ht]
  rw [run_slice_l w t (some ⟨g, 0, none⟩) n c (by rw [he]; exact ht) .i64 (X : Int) k1 k3]
  by_cases h : c = X
  · simp [he, sizeOf, typeInfo, hi, hs, sliced, Result.andThen, h]
  · simp [he, sizeOf, typeInfo, hi, hs, sliced, Result.andThen, add_lit, h]

/-- what spec.OfLines gives -/
def LinesOut (n m : Nat) (L : List ByteArray) (w : World) (e : Ending) (w' : World) : Prop :=
  ∃ X cx Y cy, e = .returned (.tuple #[.slice X n cx, .slice Y m cy]) ∧ IntsR .i64 w' X ((numsS L).take n) ∧ IntsR .i64 w' Y ((numsS L).drop n) ∧ Below w.heap.size w w'
set_option maxRecDepth 100000 in
set_option maxHeartbeats 2000000 in
theorem ofLines_any (A C : Option Addr) (c d : Nat) (xs ys : List ByteArray) (w : World) (hx : StrsR w A xs) (hy : StrsR w C ys) (hl : xs.length ≤ 1000001) (hm : ys.length ≤ 1000001) :
    Calls Try.prog 30 #[.slice A xs.length c, .slice C ys.length d] w (LinesOut xs.length ys.length (xs ++ ys) w) := by
  obtain ⟨i0, hi, hz0, hz1, hz2⟩ := info_parts infoT
  obtain ⟨i1, hj, hy0, hy1, hy2⟩ := info_parts infoII
  have hN : (xs ++ ys).length = xs.length + ys.length := by simp
  have hcs : strCells (xs ++ ys) = strCells xs ++ strCells ys := by simp [strCells]
  have hcx : (strCells xs).length = xs.length := by simp [strCells]
  have hcy : (strCells ys).length = ys.length := by simp [strCells]
  have hnl := numsS_length (xs ++ ys)
  generalize hLL : xs ++ ys = L at *
  have HX := Lib.hid hx; have HY := Lib.hid hy; have HCS := Lib.hid hcs; have HCX := Lib.hid hcx; have HCY := Lib.hid hcy; have HNL := Lib.hid hnl
  clear hx hy hcs hcx hcy hnl hLL
  obtain ⟨n, hln⟩ : ∃ n, xs.length = n := ⟨_, rfl⟩
  obtain ⟨m, hlm⟩ : ∃ n, ys.length = n := ⟨_, rfl⟩
  rw [hln] at hl HCX hN ⊢
  rw [hlm] at hm HCY hN ⊢
  clear hln hlm
  obtain ⟨N, hNN⟩ : ∃ N, n + m = N := ⟨_, rfl⟩
  have HN := Lib.hid hN; clear hN
  have HNN := Lib.hid hNN
  have hn1 : n ≤ N := by omega
  have hn2 : N ≤ 2000002 := by omega
  clear hNN
  have hct := fun g c (h : N ≤ c) w => run_cutTo (P := Try.prog) 29 3 i1 Try.underlying29 hj hy1 g N c n (by omega) w
  have hcf := fun g c (h : N ≤ c) w => run_cutFrom (P := Try.prog) 29 3 i1 Try.underlying29 hj hy1 g N c n hn1 h w
  have HCT := Lib.hid hct; have HCF := Lib.hid hcf; clear hct hcf
  go_enter Try.func30, Try.ntmps30
  go_wp2_with (first | (at_builtin; refine wpList_append_any _ rfl (.tmp 11) (.tmp 12) _ rfl w.heap.size 9 i0 _ 1 16 Try.underlying42 hi hz0 hz1 hz2 rfl (by omega) (.slice (some ⟨w.heap.size, 0, none⟩) 0 0) 0 [] rfl (World.ownsRow_made w #[] 0 (Nat.le_refl _) (by simp [maxLen]) rfl) A n c (strCells xs) rfl (CellsR.alloc HX.out _) (by rw [HCX.out]; omega) (strCells_one _) (by unfold maxLen; omega) (by omega) (by simp) ?_; intro A2 c2 w2 hown2 hg2 hat2; simp only [Nat.zero_add, List.nil_append] at hown2 ⊢; have HO2 := Lib.hid hown2; have hb2 := ((Below.refl w.heap.size w).alloc (Nat.le_refl _) (.cells #[] 9)).grown hg2 (by simp) (by simp [Value.ownBlock]); have HB2 := Lib.hid hb2; clear hown2 hg2 hat2 hb2) | (at_builtin; refine wpList_append_any _ rfl (.tmp 13) (.tmp 14) _ rfl w.heap.size 9 i0 _ 1 16 Try.underlying42 hi hz0 hz1 hz2 rfl (by omega) (.slice A2 n c2) n (strCells xs) rfl HO2.out C m d (strCells ys) rfl (CellsR.below HY.out HB2.out (Nat.le_refl _)) (by rw [HCY.out]; omega) (strCells_one _) (by unfold maxLen; omega) (by omega) HB2.out.size ?_; intro A3 c3 w3 hown3 hg3 hat3; rw [← HCS.out] at hown3; rw [HNN.out] at hown3 ⊢; have hb3 := HB2.out.grown hg3 HB2.out.size (fun g hg => (HO2.out.lt g hg).1); have HR3 := Lib.hid (CellsR.of_own hown3); have HB3 := Lib.hid hb3; clear hown3 hg3 hat3 hb3))
  have hs3 := HB3.out.size
  have hmade := World.ownsRow_made (e := 3) (size := 1) w3 #[] 0 (Nat.le_refl w3.heap.size) (by simp [maxLen]) rfl
  have HMD := Lib.hid hmade; clear hmade
  go_wp2
  go_loopg [7, 19] N (fun q v i wr => ∃ k g c, q = N - k ∧ k ≤ N ∧ i = .int .i64 (k : Nat) ∧ v = .slice (some ⟨g, 0, none⟩) k c ∧ wr.ownsRow w3.heap.size 3 1 (.slice (some ⟨g, 0, none⟩) k c) k (intCells .i64 ((numsS L).take k)) ∧ Below w3.heap.size w3 wr)
  case atStart => exact ⟨0, _, _, rfl, Nat.zero_le _, rfl, rfl, HMD.out, (Below.refl _ _).alloc (Nat.le_refl _) _⟩
  case round =>
    obtain ⟨k, g, cv, hq, hk, rfl, rfl, hown, hb⟩ := hrel
    have HQ := Lib.hid hq; have HO := Lib.hid hown; have HB := Lib.hid hb
    have hbs := hb.size
    clear hq hown hb
    by_cases hlt : k < N
    · have hkl : k < L.length := by rw [HN.out]; have := HNN.out; omega
      obtain ⟨b0, o0, hA3, hbb, g0⟩ := StrsR.at_ (ss := L) (CellsR.below HR3.out HB.out (Nat.le_refl _)) hkl
      subst hA3
      have hfl := firstS_le hkl
      have htk := numsS_take L hkl
      have HFL := Lib.hid hfl; have HTK := Lib.hid htk; have HKL := Lib.hid hkl
      have hcells : ∀ f, f < N → wr.cell? ⟨b0, o0 + f, none⟩ = some (.string (sx L f)) := fun f hf => by
        obtain ⟨b1, o1, h1, _, g1⟩ := StrsR.at_ (ss := L) (CellsR.below HR3.out HB.out (Nat.le_refl _)) (k := f) (by rw [HN.out]; have := HNN.out; omega)
        injection h1 with h1
        injection h1 with h2 h3
        rw [h2, h3]; exact g1
      have HCE := Lib.hid hcells
      clear hfl htk hkl hcells
      go_wp2
      go_loopg [10] N (fun q u w5 => ∃ f, u = .int .i64 (f : Nat) ∧ f ≤ k ∧ q = N - f ∧ (∀ j, j < f → ¬ sx L j = sx L k) ∧ wr = w5)
      case atStart => exact ⟨0, rfl, Nat.zero_le _, rfl, fun j hj => by omega, rfl⟩
      case round =>
        obtain ⟨f, rfl, hfk, hq2, hall, rfl⟩ := hrel
        have HQ2 := Lib.hid hq2; have HALL := Lib.hid hall
        clear hq2 hall
        have g1 := HCE.out f (by omega)
        by_cases he : sx L f = sx L k
        · have hff := firstS_of HKL.out (by have := HKL.out; omega) he HALL.out
          have he' := strEq_true he
          have HFF := Lib.hid hff
          clear hff he
          by_cases hlt2 : f < k
          · have hfi : (IntsR .i64 wr (some ⟨g, 0, none⟩) ((numsS L).take k)) := CellsR.of_own HO.out
            obtain ⟨b2, o2, h9, _, g2⟩ := hfi.at_ (k := f) (by rw [List.length_take, HNL.out, HN.out]; have := HNN.out; omega)
            injection h9 with h9
            injection h9 with h2 h3
            subst h2 h3
            have hix : ix ((numsS L).take k) f = (f : Int) := by
              have h8 : f < L.length := by have := HKL.out; omega
              have h7 : firstS L f = f := by
                have := firstS_idem HKL.out
                rw [HFF.out] at this
                exact this
              have h6 := numsS_ix h8
              rw [h7] at h6
              rw [← h6]
              simp [ix, hlt2]
            rw [hix, Nat.zero_add] at g2
            clear hix hfi
            have hlt3 : (f : Int) < (k : Int) := by omega
            go_wp2_with (at_builtin; refine wpList_append_any _ rfl (.tmp 35) (.tmp 40) _ rfl w3.heap.size 3 i1 _ 1 8 Try.underlying29 hj hy0 hy1 hy2 rfl (by omega) (.slice (some ⟨g, 0, none⟩) k cv) k (intCells .i64 ((numsS L).take k)) rfl (HO.out.alloc _) (some ⟨wr.heap.size, 0, none⟩) 1 1 (intCells .i64 [(f : Int)]) rfl (int_lit1 _ _ _) rfl (intCells_one _ _) (by unfold maxLen; omega) (by omega) (by simp; omega) ?_; intro A5 c5 w5 hown5 hg5 hat5; obtain ⟨g5, rfl⟩ := own_someA hown5 (by omega); have hb5 := (HB.out.alloc hbs (.cells #[.int .i64 (f : Int)] 3)).grown hg5 (by simp; omega) (fun g hg => (HO.out.lt g hg).1); have HO5 := Lib.hid hown5; have HB5 := Lib.hid hb5; clear hown5 hg5 hat5 hb5)
            go_wp2
            go_roundg (N - (k + 1))
            case measure => have := HQ.out; omega
            case rel => exact ⟨k + 1, g5, c5, rfl, by omega, by go_num, rfl, by rw [HTK.out, HFF.out]; exact HO5.out, HB5.out⟩
          · obtain rfl : f = k := by omega
            have hlt3 : ¬ (f : Int) < (f : Int) := by omega
            go_wp2_with (at_builtin; refine wpList_append_any _ rfl (.tmp 42) (.tmp 44) _ rfl w3.heap.size 3 i1 _ 1 8 Try.underlying29 hj hy0 hy1 hy2 rfl (by omega) (.slice (some ⟨g, 0, none⟩) f cv) f (intCells .i64 ((numsS L).take f)) rfl (HO.out.alloc _) (some ⟨wr.heap.size, 0, none⟩) 1 1 (intCells .i64 [(f : Int)]) rfl (int_lit1 _ _ _) rfl (intCells_one _ _) (by unfold maxLen; omega) (by omega) (by simp; omega) ?_; intro A5 c5 w5 hown5 hg5 hat5; obtain ⟨g5, rfl⟩ := own_someA hown5 (by omega); have hb5 := (HB.out.alloc hbs (.cells #[.int .i64 (f : Int)] 3)).grown hg5 (by simp; omega) (fun g hg => (HO.out.lt g hg).1); have HO5 := Lib.hid hown5; have HB5 := Lib.hid hb5; clear hown5 hg5 hat5 hb5)
            go_wp2
            go_roundg (N - (f + 1))
            case measure => have := HQ.out; omega
            case rel => exact ⟨f + 1, g5, c5, rfl, by omega, by go_num, rfl, by rw [HTK.out, HFF.out]; exact HO5.out, HB5.out⟩
        · have he' := strEq_false he
          have hfk2 : f < k := by
            rcases Nat.lt_or_ge f k with h | h
            · exact h
            · obtain rfl : f = k := by omega
              exact absurd rfl he
          have HNE := Lib.hid he
          clear he
          go_wp2
          go_roundg (N - (f + 1))
          case measure => have := HQ2.out; omega
          case rel => exact ⟨f + 1, by go_num, by omega, rfl, fun j hj => by
            by_cases h : j = f
            · subst h; exact HNE.out
            · exact HALL.out j (by omega), rfl⟩
    · obtain rfl : k = N := by omega
      have hcap := own_capB HO.out
      have q1 := HCT.out g cv hcap
      have q2 := HCF.out g cv hcap
      have hr : IntsR .i64 wr (some ⟨g, 0, none⟩) (numsS L) := by
        have hr := CellsR.of_own HO.out
        rw [show (numsS L).take k = numsS L from List.take_of_length_le (by rw [HNL.out, HN.out]; have := HNN.out; omega)] at hr
        exact hr
      have hXr : IntsR .i64 wr (some ⟨g, 0, none⟩) ((numsS L).take n) := by
        have := hr.sub 0 n
        simpa using this
      have hYr : IntsR .i64 wr (some ⟨g, if cv = n then 0 else n, none⟩) ((numsS L).drop n) := by
        by_cases h : cv = n
        · have h0 : (numsS L).drop n = [] := List.drop_of_length_le (by rw [HNL.out, HN.out]; have := HNN.out; omega)
          rw [h0]
          exact .inl rfl
        · rw [if_neg h]
          have := hr.sub n ((numsS L).length - n)
          rw [Nat.zero_add, List.take_of_length_le (by simp)] at this
          exact this
      have hmk : k - n = m := by have := HNN.out; omega
      rw [hmk] at q2
      obtain ⟨off, hoff⟩ : ∃ off, (if cv = n then 0 else n) = off := ⟨_, rfl⟩
      rw [hoff] at q2 hYr
      have HXR := Lib.hid hXr; have HYR := Lib.hid hYr
      clear hoff
      clear hr hXr hYr hmk
      have hkc : (n : Int) ≤ (cv : Int) := by omega
      go_wp2
      go_quiet (fail)
      go_wp2
      go_ret2
      exact ⟨_, _, _, _, rfl, CellsR.drewN HXR.out _, CellsR.drewN HYR.out _, below_drewN (HB3.out.trans (HB.out.mono hs3)) _⟩
end Go.Proofs.Ytbolgikdadhaeaa
