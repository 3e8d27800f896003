/-
  The walk of diff.Apply.
-/
import Derived.Test.YtoceakjnkillkaaValidW
import Derived.Test.YtoceakjnkillkaaMergeP
import Derived.Test.YtoceakjnkillkaaPatchP
import Derived.Deep.RegionLaw
import Derived.Lib.AppendStr
import Derived.Laws.BytesString
import Derived.OwnWalk
namespace Go.Proofs.Ytoceakjnkillkaa
set_option linter.unusedVariables false
open Go.RowKit Go.Shelf

/-- what diff.Apply returns -/
def ApplyOut (s : ByteArray) (es : List Ed) (w : World) (e : Ending) (w' : World) : Prop :=
  Below w.heap.size w w' ∧ ((inOrderF s.size 0 es = true ∧ e = .returned (.tuple #[.string (patchB s 0 es), .nilIface])) ∨
    (inOrderF s.size 0 es = false ∧ ∃ T v, e = .returned (.tuple #[.string ⟨#[]⟩, .iface T v])))

theorem sizeD_shift (a b : Int) (l : List Ed) : sizeD (a + b) l = a + sizeD b l := by
  induction l generalizing b with
  | nil => rfl
  | cons x l ih =>
    simp only [sizeD]
    rw [← ih]
    congr 1
    omega
theorem patchB_size (s : ByteArray) (at_ : Nat) (l : List Ed) (ha : at_ ≤ s.size) (h : inOrderF s.size at_ l = true) : ((patchB s at_ l).size : Int) = sizeD ((s.size : Int) - at_) l := by
  induction l generalizing at_ with
  | nil =>
    simp only [patchB, sizeD, ByteArray.size_extract]
    omega
  | cons x l ih =>
    obtain ⟨h1, h2, h3, h4, h5⟩ := inOrderF_cons h
    have := ih x.e.toNat (by omega) (by rwa [Int.toNat_of_nonneg (by omega)])
    rw [patchB_cons, ByteArray.size_append, ByteArray.size_append, ByteArray.size_extract]
    simp only [sizeD]
    rw [show (s.size : Int) - at_ + (x.n.size + x.s - x.e) = (x.n.size + x.s - at_) + (s.size - x.e) by omega, sizeD_shift]
    rw [Int.toNat_of_nonneg (by omega)] at this
    omega
theorem sizeD_le (Z at_ N : Int) (l : List Ed) (h : inOrderF N at_ l = true) : sizeD Z l ≤ Z + szE l := by
  induction l generalizing Z at_ with
  | nil => simp [sizeD, szE]
  | cons x l ih =>
    obtain ⟨h1, h2, h3, h4, h5⟩ := inOrderF_cons h
    have := ih (Z + (x.n.size + x.s - x.e)) _ h5
    simp only [sizeD, szE]
    omega

theorem strCells_app (a b : ByteArray) : Lib.strCells (a ++ b) = Lib.strCells a ++ Lib.strCells b := by
  simp [Lib.strCells, ByteArray.data_append]
theorem own_neT {w : World} {base e size n g t : Nat} {v : Value} {xs : List Value} {cs : Array Value} (ho : w.ownsRow base e size v n xs) (hb : Blk w g t cs) (hne : t ≠ e) : some g ≠ v.ownBlock := by
  intro h
  rcases ho.2 with ⟨h1, h2⟩ | ⟨g', cap, cur, rfl, hbb, hgg, rest⟩
  · rw [h1] at h; cases h
  · simp [Value.ownBlock] at h
    subst h
    have := hb.symm.trans hgg
    injection this with this
    injection this with _ h2 _
    exact hne h2
theorem push_all (l : List UInt8) (r : ByteArray) : (l.map fun b => (b.toNat : Int)).foldl (fun r n => r.push (UInt8.ofNat n.toNat)) r = ⟨r.data ++ l.toArray⟩ := by
  induction l generalizing r with
  | nil => simp
  | cons b l ih =>
    rw [List.map_cons, List.foldl_cons, ih]
    simp [ByteArray.push]
theorem run_conv_str {P : Program} (w : World) (src dst e : TypeId) (hs : P.underlying src = some (.slice e)) (he : P.underlying e = some (.int .u8)) (hd : P.underlying dst = some .string)
    {A : Option Addr} {n c : Nat} {t : ByteArray} (h : CellsR w A (Lib.strCells t)) (hn : t.size = n) : (convert src dst (.slice A n c)).run P w = .ok (.string t) w := by
  rw [run_convert_bytes_string w src dst e A n c hs he hd]
  cases A with
  | none =>
    have h0 : Lib.strCells t = [] := by
      rcases h with h | ⟨b, off, h, _⟩
      · exact h
      · cases h
    have h1 : t.data = #[] := by
      have := congrArg List.length h0
      rw [Lib.strCells_length] at this
      exact Array.eq_empty_of_size_eq_zero this
    obtain ⟨d⟩ := t
    simp only at h1
    subst h1
    simp [Conv.bytesToString]
    rfl
  | some a =>
    have hl : (loadCells a n).run P w = .ok ((t.data.toList.map fun b => (b.toNat : Int)).map (Value.int .u8)).toArray w := by
      have := run_loadCells_list (P := P) w a (Lib.strCells t) (fun j u hj => by
        rcases h with h | ⟨b, off, hA, hc⟩
        · rw [h] at hj; cases hj
        · cases hA
          rw [add_lit]
          exact hc j u hj)
      rw [Lib.strCells_length, hn] at this
      rw [this]
      simp [Lib.strCells]
    rw [run_bytesToString w a n c _ hl, push_all]
    simp
theorem step_append_own_string {P : Program} {ops : Array Oper} {o : Oper} {a : Act} {w : World} {K : Act → World → Prop} {Q : Exit → Act → World → Prop} {E : Prop} (hgd : o.guard = none) (sl x : Operand) (t u : TypeId)
    (ho : o.op = .call { callee := .builtin .append, args := #[sl, x], argTypes := #[t, u] })
    (base : Nat) (e : TypeId) (i : TypeInfo) (ht : P.underlying t = some (.slice e)) (hu : P.underlying u = some .string) (hi : P.info? e = some i) (hz : i.zero = some (.int .u8 0))
    (hsize : i.size = 1) (hby : i.bytes = 1)
    (v : Value) (n : Nat) (xs : List Value) (hs : a.eval sl = v) (hown : w.ownsRow base e 1 v n xs) (s : ByteArray) (hx : a.eval x = .string s)
    (h63 : n + s.size ≤ maxLen) (hbytes : n + s.size ≤ 140737488355328) (hbase : base ≤ w.heap.size)
    (h : ∀ v' w', w'.ownsRow base e 1 v' (n + s.size) (xs ++ Lib.strCells s) → w.grownBy w' v.ownBlock → K (a.put o.dst v') w') :
    if Region.wanted o (yielded ops a.tmps) = true then Oper.wp P o a w K Q else E := by
  have hw : Region.wanted o (yielded ops a.tmps) = true := by simp [Region.wanted, hgd]
  rw [if_pos hw]
  obtain ⟨v', w', hr, h2, h3, h4⟩ := Lib.run_append_own_string (P := P) w base t u o.type e i ht hu hi hz hsize hby v n xs hown s h63 hbytes hbase
  unfold Oper.wp execOp
  simp only [ho, resolve, invoke, builtin, Sem.run_bind, Sem.run_pure, Result.andThen_ok, List.map_toArray, List.map_cons, List.map_nil, hs, hx, hr]
  exact h v' w' h2 h3

theorem infoB : (Try.prog.info? 5).map (fun i => (i.zero, i.size, i.bytes)) = some (some (.int .u8 0), 1, 1) := by kernel_rfl

/-- what it returns, the edits as the sort leaves them told by a property -/
def ApplyG (s : ByteArray) (P : List Ed → Prop) (w : World) (e : Ending) (w' : World) : Prop := ∃ es', P es' ∧ ApplyOut s es' w e w'
set_option maxRecDepth 100000 in
set_option maxHeartbeats 1000000 in
theorem apply_gen {P : List Ed → Prop} (s : ByteArray) (A : Option Addr) (c : Nat) (es : List Ed) (w : World) (hs : s.size ≤ 2000000) (hP : ∀ es', P es' → es'.length ≤ 2000000 ∧ szE es' ≤ 4000000) (hv : Calls Try.prog 36 #[.string s, .slice A es.length c] w (ValidG s.size P w)) :
   Calls Try.prog 24 #[.string s, .slice A es.length c] w (ApplyG s P w) := by
  obtain ⟨i0, hi, hz0, hz1, hz2⟩ := info_parts infoB
  have HV := Lib.hid hv; clear hv
  generalize es.length = n0 at *
  go_enter Try.func24, Try.ntmps24
  go_wp2_with fail
  refine HV.out.mono ?_
  rintro e w1 ⟨es', hpp, hb1, ⟨hio, A1, c1, rfl, hr1⟩ | ⟨hio, A1, c1, v, T, rfl, hT⟩⟩
  all_goals
    obtain ⟨hl, hz⟩ := hP es' hpp
    have HPP := Lib.hid hpp; clear hpp
    clear hP
  · have hsz := patchB_size s 0 es' (by omega) hio
    have hsl := sizeD_le s.size 0 s.size es' hio
    simp only [Int.natCast_zero, Int.sub_zero] at hsz
    obtain ⟨zn, hzn⟩ : ∃ zn, (patchB s 0 es').size = zn := ⟨_, rfl⟩
    rw [hzn] at hsz
    have HZN := Lib.hid hzn; clear hzn
    generalize hZ : sizeD s.size es' = Z at *
    clear hZ
    subst hsz
    have hzb : zn ≤ 6000000 := by omega
    clear hsl
    obtain ⟨n, hn⟩ : ∃ n, es'.length = n := ⟨_, rfl⟩
    rw [hn] at hl ⊢
    have LX := Lib.hid hn; clear hn
    have HIO := Lib.hid hio; clear hio
    have HR1 := Lib.hid hr1; clear hr1
    have hbs1 := hb1.size
    have HB1 := Lib.hid hb1; clear hb1
    go_wp2_with (at_make; refine wpList_make_own _ rfl _ _ _ rfl w1.heap.size 5 i0 (.int .u8 0) 1 Try.underlying52 hi hz0 hz1 .i64 .i64 _ zn rfl rfl rfl (by rw [hz2]; omega) (by unfold maxLen; omega) (Nat.le_refl _) ?_; intro w2 hown2 hg2)
    have HB2 := Lib.hid ((Below.refl w1.heap.size w1).grown hg2 (Nat.le_refl _) (fun k h => by cases h))
    have HO2 := Lib.hid hown2; clear hown2 hg2
    go_loopg [8, 9, 26] n (fun q v le i wr => ∃ (k at_ : Nat) (acc : ByteArray), q = n - k ∧ k ≤ n ∧ i = .int .i64 k ∧ le = .int .i64 at_ ∧ at_ ≤ s.size ∧ inOrderF s.size at_ (es'.drop k) = true ∧ patchB s 0 es' = acc ++ patchB s at_ (es'.drop k) ∧ wr.ownsRow w1.heap.size 5 1 v acc.size (Lib.strCells acc) ∧ Below w1.heap.size w1 wr)
    case atStart => exact ⟨0, 0, ByteArray.empty, by omega, by omega, rfl, rfl, by omega, HIO.out, by simp, HO2.out, HB2.out⟩
    case round =>
      obtain ⟨k, at_, acc, hq, hk, rfl, rfl, haN, hio, hpa, hown, hb⟩ := hrel
      obtain ⟨A3, c3, rfl⟩ := own_form hown
      have HQ := Lib.hid hq; clear hq
      have hbs := hb.size
      have hsza : acc.size + (patchB s at_ (es'.drop k)).size = zn := by
        have := HZN.out
        rw [hpa, ByteArray.size_append] at this
        exact this
      have HPA := Lib.hid hpa; clear hpa
      by_cases hlt : k < n
      · obtain ⟨b, off, hAA, hbb, g1, g2, g3⟩ := (EdsR.below HR1.out hb (Nat.le_refl _)).at_ (k := k) (by rw [LX.out]; exact hlt)
        subst hAA
        have hdc := drop_cons_ed es' k (by rw [LX.out]; exact hlt)
        rw [hdc] at hio hsza HPA
        rw [patchB_cons] at HPA
        obtain ⟨i1, i2, i3, i4, i5⟩ := inOrderF_cons hio
        rw [patchB_cons] at hsza
        simp only [ByteArray.size_append, ByteArray.size_extract] at hsza
        have HI5 := Lib.hid i5; clear i5 hio hdc
        generalize hX : edAt es' k = X at *
        have hS : eS es' k = X.s := by rw [← hX]; rfl
        have hE : eE es' k = X.e := by rw [← hX]; rfl
        have hN : eN es' k = X.n := by rw [← hX]; rfl
        rw [hS] at g1
        rw [hE] at g2
        rw [hN] at g3
        clear hX hS hE hN
        obtain ⟨S, E, M⟩ := X
        simp only at g1 g2 g3 i1 i2 i3 i4 hsza HI5 HPA
        obtain ⟨sn, rfl⟩ := Int.eq_ofNat_of_zero_le i1
        obtain ⟨en, rfl⟩ := Int.eq_ofNat_of_zero_le (Int.le_trans i1 i2)
        simp only [Int.toNat_natCast] at hsza HPA
        obtain ⟨ml, hml⟩ : ∃ ml, M.size = ml := ⟨_, rfl⟩
        rw [hml] at hsza
        have hbk := Blk.new wr 66 #[.int .i64 (sn : Int), .int .i64 (en : Int), .string M]
        have HBK := Lib.hid hbk; clear hbk
        have HO := Lib.hid (hown.alloc (.cells #[.int .i64 (sn : Int), .int .i64 (en : Int), .string M] 66)); clear hown
        have HB := Lib.hid (hb.alloc hbs (.cells #[.int .i64 (sn : Int), .int .i64 (en : Int), .string M] 66)); clear hb
        have hne : wr.heap.size < (wr.alloc (.cells #[.int .i64 (sn : Int), .int .i64 (en : Int), .string M] 66)).heap.size := by simp
        by_cases hcut : at_ < sn
        · have u1 : (at_ : Int) ≤ (sn : Int) := by omega
          have u2 : (sn : Int) ≤ (s.size : Int) := by omega
          go_wp2_with (first | (at_builtin; refine Lib.wpList_append_own_string _ rfl (.tmp 34) (.tmp 39) _ _ rfl w1.heap.size 5 i0 Try.underlying52 Try.underlying9 hi hz0 hz1 hz2 (.slice A3 acc.size c3) acc.size (Lib.strCells acc) rfl HO.out (s.extract at_ sn) rfl (by rw [ByteArray.size_extract]; unfold maxLen; omega) (by rw [ByteArray.size_extract]; omega) HB.out.size ?_; intro v4 w4 hown4 hg4 _; obtain ⟨A4, c4, rfl⟩ := own_form hown4; have hbk4 := HBK.out.grown hg4 (own_neT HO.out HBK.out (by decide)); have d0 : w4.cell? ⟨wr.heap.size, 0, none⟩ = some (.int .i64 (sn : Int)) := hbk4.cell 0; have d1 : w4.cell? ⟨wr.heap.size, 1, none⟩ = some (.int .i64 (en : Int)) := hbk4.cell 1; have d2 : w4.cell? ⟨wr.heap.size, 2, none⟩ = some (.string M) := hbk4.cell 2; have HBK4 := Lib.hid hbk4; have HB4 := Lib.hid (HB.out.grown hg4 HB.out.size (fun q h => (HO.out.lt q h).1)); have hna : acc.size + (s.extract at_ sn).size + ml ≤ zn := (by rw [ByteArray.size_extract]; omega); have HO4 := Lib.hid hown4; clear hown4 hg4 hbk4; generalize hNN : acc.size + (s.extract at_ sn).size = NN at *; have HNN := Lib.hid hNN; clear hNN) | (at_builtin; refine Lib.wpList_append_own_string _ rfl (.tmp 41) (.tmp 43) _ _ rfl w1.heap.size 5 i0 Try.underlying52 Try.underlying9 hi hz0 hz1 hz2 (.slice A4 NN c4) NN (Lib.strCells acc ++ Lib.strCells (s.extract at_ sn)) rfl HO4.out M rfl (by rw [hml]; unfold maxLen; omega) (by rw [hml]; omega) HB4.out.size ?_; intro v5 w5 hown5 hg5 _; have d5 : w5.cell? ⟨wr.heap.size, 1, none⟩ = some (.int .i64 (en : Int)) := ((HBK4.out.grown hg5 (own_neT HO4.out HBK4.out (by decide))).cell 1); have HB5 := Lib.hid (HB4.out.grown hg5 HB4.out.size (fun q h => (HO4.out.lt q h).1)); have HO5 := Lib.hid hown5; clear hown5 hg5))
          go_roundg (n - (k + 1))
          case measure => have := HQ.out; omega
          case rel =>
            refine ⟨k + 1, en, acc ++ s.extract at_ sn ++ M, rfl, by omega, by go_num, rfl, by omega, HI5.out, ?_, ?_, HB5.out⟩
            · rw [HPA.out]
              simp only [ByteArray.append_assoc]
            · rw [strCells_app, strCells_app, ByteArray.size_append, ByteArray.size_append, HNN.out, hml]
              have := HO5.out
              rw [hml] at this
              exact this
        · have hae : at_ = sn := by omega
          subst hae
          have hcut2 : ¬ (at_ : Int) < (at_ : Int) := by omega
          go_wp2_with (first | (at_builtin; refine Lib.wpList_append_own_string _ rfl (.tmp 41) (.tmp 43) _ _ rfl w1.heap.size 5 i0 Try.underlying52 Try.underlying9 hi hz0 hz1 hz2 (.slice A3 acc.size c3) acc.size (Lib.strCells acc) rfl HO.out M rfl (by rw [hml]; unfold maxLen; omega) (by rw [hml]; omega) HB.out.size ?_; intro v5 w5 hown5 hg5 _; have d5 : w5.cell? ⟨wr.heap.size, 1, none⟩ = some (.int .i64 (en : Int)) := ((HBK.out.grown hg5 (own_neT HO.out HBK.out (by decide))).cell 1); have HB5 := Lib.hid (HB.out.grown hg5 HB.out.size (fun q h => (HO.out.lt q h).1)); have HO5 := Lib.hid hown5; clear hown5 hg5))
          go_roundg (n - (k + 1))
          case measure => have := HQ.out; omega
          case rel =>
            refine ⟨k + 1, en, acc ++ M, rfl, by omega, by go_num, rfl, by omega, HI5.out, ?_, ?_, HB5.out⟩
            · rw [HPA.out]
              rw [ByteArray.extract_eq_empty_iff.2 (by omega), ByteArray.empty_append, ByteArray.append_assoc]
            · rw [strCells_app, ByteArray.size_append, hml]
              have := HO5.out
              rw [hml] at this
              exact this
      · have hkn : k = n := by omega
        subst hkn
        have hdr : es'.drop k = [] := List.drop_of_length_le (by rw [LX.out]; omega)
        rw [hdr] at hsza HPA
        simp only [patchB] at hsza HPA
        rw [ByteArray.size_extract] at hsza
        have HO := Lib.hid hown; clear hown
        have HB := Lib.hid hb; clear hb hio hdr
        have u1 : (at_ : Int) ≤ (s.size : Int) := by omega
        go_wp2_with (at_builtin; refine Lib.wpList_append_own_string _ rfl (.tmp 48) (.tmp 51) _ _ rfl w1.heap.size 5 i0 Try.underlying52 Try.underlying9 hi hz0 hz1 hz2 (.slice A3 acc.size c3) acc.size (Lib.strCells acc) rfl HO.out (s.extract at_ s.size) rfl (by rw [ByteArray.size_extract]; unfold maxLen; omega) (by rw [ByteArray.size_extract]; omega) HB.out.size ?_; intro v5 w5 hown5 hg5 _; obtain ⟨A5, c5, rfl⟩ := own_form hown5; rw [← strCells_app, ← HPA.out] at hown5; have hnn : acc.size + (s.extract at_ s.size).size = zn := (by rw [ByteArray.size_extract]; omega); rw [hnn] at hown5 ⊢; have HB5 := Lib.hid (HB.out.grown hg5 HB.out.size (fun q h => (HO.out.lt q h).1)); have hcv := run_conv_str (P := Try.prog) w5 52 9 5 Try.underlying52 Try.underlying5 Try.underlying9 (c := c5) (CellsR.of_own hown5) HZN.out; clear hown5 hg5 hnn)
        go_ret2
        exact ⟨es', HPP.out, HB1.out.trans (HB5.out.mono HB1.out.size), .inl ⟨HIO.out, rfl⟩⟩
  · go_wp2
    go_ret2
    exact ⟨es', HPP.out, hb1, .inr ⟨hio, _, _, rfl⟩⟩

theorem apply_any (s : ByteArray) (A : Option Addr) (c : Nat) (es es' : List Ed) (w : World) (hs : s.size ≤ 2000000) (hl : es'.length ≤ 2000000) (hz : szE es' ≤ 4000000) (hv : Calls Try.prog 36 #[.string s, .slice A es.length c] w (ValidOut s.size es' w)) :
   Calls Try.prog 24 #[.string s, .slice A es.length c] w (ApplyOut s es' w) :=
  (apply_gen (P := fun l => l = es') s A c es w hs (fun l h => by subst h; exact ⟨hl, hz⟩) (hv.mono fun e w' h => ⟨es', rfl, h⟩)).mono fun e w' ⟨l, h1, h2⟩ => h1 ▸ h2
end Go.Proofs.Ytoceakjnkillkaa
