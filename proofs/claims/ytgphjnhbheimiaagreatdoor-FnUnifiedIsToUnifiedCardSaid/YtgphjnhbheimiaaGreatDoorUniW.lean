/-
  The walk of toUnified: the hunks of edits. lineEdits' contract is a premise. Condition: a text of at most 1000000 bytes, edits whose texts have at most 1000000 bytes together, at most 8 lines of context.
-/
import Derived.Test.YtgphjnhbheimiaaGreatDoorLiB
import Derived.Test.YtgphjnhbheimiaaGreatDoorLinW
import Derived.Deep.DeepCutAuto
import Derived.Deep.LoopGhost
import Derived.Deep.CutBlock
namespace Go.Proofs.YtgphjnhbheimiaaGreatDoor
set_option linter.unusedVariables false
open Go.RowKit

/-- what toUnified gives -/
def UniG (s f t : ByteArray) (cx : Int) (P : List Ed → Prop) (w : World) (e : Ending) (w' : World) : Prop :=
  ∃ es', P es' ∧ Below w.heap.size w w' ∧ ((inOrderF s.size 0 es' = true ∧ ∃ A cc, e = .returned (.tuple #[.agg #[.string f, .string t, .slice A (unifF s cx (lineF s es')).length cc], .nilIface]) ∧ HksR w' A (unifF s cx (lineF s es'))) ∨
    (inOrderF s.size 0 es' = false ∧ ∃ v T, e = .returned (.tuple #[.agg #[.string f, .string t, .slice none 0 0], .iface T v]) ∧ T ≠ 0))
def szN (es : List Ed) : Nat := es.foldl (fun a x => a + x.n.size) 0
theorem szN_le (es : List Ed) : szN es ≤ szE es := by
  have : ∀ (l : List Ed) (a : Nat), l.foldl (fun a x => a + x.n.size) a ≤ a + szE l := by
    intro l
    induction l with
    | nil => intro a; exact Nat.le_refl _
    | cons x l ih =>
      intro a
      have := ih (a + x.n.size)
      simp only [List.foldl_cons, szE] at *
      omega
  have := this es 0
  unfold szN
  omega
theorem szN_snoc (es : List Ed) (k : Nat) (h : k < es.length) : szN (es.take (k + 1)) = szN (es.take k) + (edAt es k).n.size := szN_take es k h

theorem results_cellT {P : Program} {w : World} {fn : Func} {a t : Tmp} {ty : TypeId} (h : fn.results = #[.cell a ty, .tmp t]) (tmps : Array Value) {g : Nat} {v : Value} (ha : tmps.getD a undef = .pointer (some ⟨g, 0, none⟩)) (hv : (loadVar ty ⟨g, 0, none⟩).run P w = .ok v w) :
    (results fn tmps).run P w = .ok (.tuple #[v, tmps.getD t undef]) w := by
  rw [Array.getD_eq_getD_getElem?] at ha
  simp [results, h, ha, hv, asAddr]

theorem KeepB.blk {ub g : Nat} {t : TypeId} {cs : Array Value} {w0 w : World} (h : KeepB ub w0 w) (hb : Blk w0 g t cs) (hl : g < w0.heap.size) (hn : ¬ g = ub) : Blk w g t cs := (h.2 g hl hn).trans hb
theorem own_frH {w w' : World} {g base e n c : Nat} {A : Option Addr} {xs : List Value} (h : w.ownsRow base e 1 (.slice A n c) n xs) (hf : FrH g w w') (hg : g < base) (he : e ≠ 66) : w'.ownsRow base e 1 (.slice A n c) n xs := by
  refine ⟨h.1, ?_⟩
  rcases h.2 with h1 | ⟨g', cap, cur, h1, h2, h3, h4⟩
  · exact .inl h1
  · exact .inr ⟨g', cap, cur, h1, h2, hf g' e cur h3 (by omega) he, h4⟩
theorem insTake (nl : List ByteArray) {k : Nat} (h : k < nl.length) : (nl.take (k + 1)).map (fun x => ((1 : Int), x)) = (nl.take k).map (fun x => ((1 : Int), x)) ++ [((1 : Int), nl.getD k ⟨#[]⟩)] := by
  rw [List.take_succ_eq_append_getElem h, List.map_append]
  simp [h]
theorem um_out {w : World} {base rb c : Nat} {gs : List Nat} {hs : List Hk} {A : Option Addr} {cs : Array Value} (o : w.ownsRow base 58 1 (.slice A hs.length c) hs.length (hpCells gs)) (h : HksO w base gs hs) (hb : Blk w rb 41 cs) (x y z : Value) :
    HksR (((w.setCell ⟨rb, 0, none⟩ x).setCell ⟨rb, 1, none⟩ y).setCell ⟨rb, 2, none⟩ z) A hs :=
  ⟨gs, CellsR.of_own (own_setH (own_setH (own_setH o hb (by decide) 0 x) (hb.set_ 0 x) (by decide) 1 y) ((hb.set_ 0 x).set_ 1 y) (by decide) 2 z), h.1, fun k g u p q => ((((h.2 k g u p q).setc hb (by decide) (by decide) 0 x).setc (hb.set_ 0 x) (by decide) (by decide) 1 y).setc ((hb.set_ 0 x).set_ 1 y) (by decide) (by decide) 2 z).read⟩

set_option maxRecDepth 100000 in
set_option maxHeartbeats 64000000 in
theorem toUnified_any {P : List Ed → Prop} (s f t : ByteArray) (cx : Int) (A : Option Addr) (cin : Nat) (es : List Ed) (w : World) (hs : s.size ≤ 1000000) (hc0 : 0 ≤ cx) (hc8 : cx ≤ 8) (hr : EdsR w A es) (h0 : es = [] → P [])
    (hP : ∀ es', P es' → es'.length = es.length ∧ es'.length ≤ 1000000 ∧ szE es' ≤ 1100000 ∧ s.size + szE es' + es'.length ≤ 3000000)
    (hl : ∀ W, EdsR W A es → Calls Tryz.prog 20 #[.string s, .slice A es.length cin] W (LinG s P W)) :
    Calls Tryz.prog 15 #[.string f, .string t, .string s, .slice A es.length cin, .int .i64 cx] w (UniG s f t cx P w) := by
  obtain ⟨i0, hi, hz0, hz1, hz2⟩ := info_parts infoLn
  obtain ⟨iH, hj, hy0, hy1, hy2⟩ := info_parts infoHp
  have HLC := Lib.hid hl; clear hl
  have HP := Lib.hid hP; clear hP
  have HR := Lib.hid hr; clear hr
  have HSP := Lib.hid (fun (x : ByteArray) W (hx : x.size ≤ 3000000) => splitLines_any x W hx)
  have HCT := Lib.hid (fun (x : ByteArray) W (hx : x.size ≤ 4000000) => zzCount_any x W hx)
  unfold LinG at HLC
  by_cases hes : es = []
  · subst hes
    have hp := h0 rfl
    have HPP := Lib.hid hp
    clear hp
    go_enter Tryz.func15, Tryz.ntmps15
    go_wp2_with fail
    (try simp only [Exit.inBlock, Exit.then])
    have hB1 := (Blk.new w 41 #[.string f, .string t, .slice none 0 0]).alloc (.cells #[.string f, .string t, .slice none 0 0] 41)
    refine bodyPost_ret (results_cellT rfl _ rfl (run_loadVar_row _ _ _ _ _ (0, 0) _ hB1 Tryz.underlying41 rfl (by kernel_rfl))) rfl ?_
    exact ⟨[], HPP.out, ((Below.refl w.heap.size w).alloc (Nat.le_refl _) _).alloc (by simp) _, .inl ⟨rfl, none, 0, rfl, ⟨[], .inl rfl, rfl, by simp⟩⟩⟩
  · obtain ⟨n0, hn0⟩ : ∃ n, es.length = n := ⟨_, rfl⟩
    have hpos : ¬ n0 = 0 := fun h => hes (List.eq_nil_of_length_eq_zero (hn0.trans h))
    rw [hn0] at HP HLC ⊢
    have e0 : ((n0 : Int) == 0) = false := by simp; omega
    clear hes hn0 h0
    go_enter Tryz.func15, Tryz.ntmps15
    go_wp2_with fail
    have hR0 := (Blk.new w 41 #[.string ⟨#[]⟩, .string ⟨#[]⟩, .slice none 0 0]).alloc (.cells #[.string f, .string t, .slice none 0 0] 41)
    have hU0 := Blk.new (w.alloc (.cells #[.string ⟨#[]⟩, .string ⟨#[]⟩, .slice none 0 0] 41)) 41 #[.string f, .string t, .slice none 0 0]
    have hr0 := CellsR.alloc (CellsR.alloc HR.out (.cells #[.string ⟨#[]⟩, .string ⟨#[]⟩, .slice none 0 0] 41)) (.cells #[.string f, .string t, .slice none 0 0] 41)
    have hw0 := ((Below.refl w.heap.size w).alloc (Nat.le_refl _) (.cells #[.string ⟨#[]⟩, .string ⟨#[]⟩, .slice none 0 0] 41)).alloc (by simp) (.cells #[.string f, .string t, .slice none 0 0] 41)
    rw [World.size_alloc] at hU0
    have hlt0 : w.heap.size + 1 < ((w.alloc (.cells #[.string ⟨#[]⟩, .string ⟨#[]⟩, .slice none 0 0] 41)).alloc (.cells #[.string f, .string t, .slice none 0 0] 41)).heap.size := by simp
    generalize (w.alloc (.cells #[.string ⟨#[]⟩, .string ⟨#[]⟩, .slice none 0 0] 41)).alloc (.cells #[.string f, .string t, .slice none 0 0] 41) = W0 at *
    obtain ⟨rb, hrb⟩ : ∃ rb, w.heap.size = rb := ⟨_, rfl⟩
    unfold UniG
    rw [hrb] at hR0 hU0 hw0 hlt0 ⊢
    obtain ⟨ub, hub⟩ : ∃ ub, rb + 1 = ub := ⟨_, rfl⟩
    rw [hub] at hU0 hlt0 ⊢
    refine (HLC.out _ hr0).mono ?_
    rintro e w1 ⟨es', hpp, hb1, ⟨hio, A1, c1, rfl, hr1, hcc⟩ | ⟨hio, v, T, rfl, hT⟩⟩
    · have hg := lineF_good hio
      obtain ⟨hl0, hl1, hz1'⟩ := HP.out es' hpp
      have hro := hg.order
      have hrs := hg.size
      have hrl := hg.len
      have hmem := fun k hk => inOrder_tail hro k hk
      have hR1 := hR0.below hb1 (by omega)
      have hU1 := hU0.below hb1 hlt0
      have hbe := hw0.trans (hb1.mono (by omega))
      have hw1 : rb < w1.heap.size := by have := hb1.size; omega
      have hw2 : ub < w1.heap.size := by have := hb1.size; omega
      have HR1 := Lib.hid hR1; have HU1 := Lib.hid hU1; have HBE := Lib.hid hbe; have HPP := Lib.hid hpp; have HIO := Lib.hid hio
      have HMEM := Lib.hid hmem; have HRE := Lib.hid hr1
      clear hR0 hU0 hb1 hw0 hR1 hU1 hbe hpp hr0 hio hg hro hmem hr1 hlt0
      generalize hr : lineF s es' = r at *
      have HLR := Lib.hid hr; clear hr
      have hszr := szN_le r
      have hll := linesF_len s
      have hlt := linesF_tot s
      have HSQ := Lib.hid (HSP.out s w1 (by omega))
      have HAB := Lib.hid (fun x (h1 : 0 ≤ x.s) h2 h3 => upAB s x h1 h2 h3)
      generalize hL : linesF s = L at *
      have HL := Lib.hid hL; clear hL
      obtain ⟨n, hn⟩ : ∃ n, r.length = n := ⟨_, rfl⟩
      have hn1 : n ≤ 1000000 := by omega
      have hr3 : szE r ≤ 3000000 := by omega
      rw [hn] at hrl hcc ⊢
      have HN := Lib.hid hn
      clear hn hrs hrl hcc
      go_wp2_with fail
      refine HSQ.out.mono ?_
      rintro e w2 ⟨AL, cL, AP, cP, rfl, oL, oP, hb2⟩
      have hbe2 := HBE.out.trans (hb2.mono (by omega))
      have hw2s := hb2.size
      have hs0 : StN rb ub f t w w2 [] w2 := ⟨hbe2, KeepB.refl ub w2, [], none, 0, HU1.out.below hb2 hw2, own_nilH _ _ _ _ 0, rfl, by simp⟩
      have HS0 := Lib.hid hs0; clear hs0
      have HNL := Lib.hid (nb_own oL hw2)
      have HRE2 := Lib.hid (EdsR.below HRE.out hb2 (Nat.le_refl _))
      have HNE := Lib.hid (nb_eds HRE2.out (HU1.out.below hb2 hw2))
      have hls : StrsR w2 AL L := CellsR.of_own oL
      have HLS := Lib.hid hls; clear hls
      have HR2 := Lib.hid (HR1.out.below hb2 hw1)
      clear oL oP hbe2 hb2
      have hT : totB L + 30 * L.length ≤ 31 * s.size := by omega
      go_wp2_with fail
      go_loopg [17, 18, 19, 56] n (fun q h la tl i wr => ∃ (k : Nat) (st : Ust), q = n - k ∧ k ≤ n ∧ i = .int .i64 k ∧ la = .int .i64 st.last ∧ tl = .int .i64 st.tl ∧ st = foldU s L cx (r.take k) ∧ UGood L (31 * s.size) k (szN (r.take k)) st ∧ StU rb ub f t w w2 st h wr)
      case atStart => exact ⟨0, ⟨[], none, 0, 0⟩, rfl, Nat.zero_le _, rfl, rfl, rfl, rfl, UGood.zero L _, rfl, HS0.out⟩
      case round =>
        obtain ⟨k, st, hq, hk, rfl, rfl, rfl, hfold, hgood, hst⟩ := hrel
        have HQ := Lib.hid hq; have HF := Lib.hid hfold
        clear hq hfold
        obtain ⟨hkb, hkk⟩ := hst.keep (by omega)
        have hl0' := hgood.last0
        have hl1' := hgood.last1
        have ht0' := hgood.tl0
        have ht1' := hgood.tl1
        have hzk : szN (r.take k) ≤ 3000000 := by
          have h1 := szN_le (r.take k)
          have h2 := szE_take_le r k
          omega
        by_cases hlt : k < n
        · have hkl : k < r.length := by rw [HN.out]; exact hlt
          obtain ⟨b, off, hA, hbb, g0, g1, g2⟩ := EdsR.at_ (KeepB.cells HRE2.out hkk HNE.out) hkl
          subst hA
          obtain ⟨m0, m1, m2x⟩ := HMEM.out k hkl
          have hfs := foldU_snoc s L cx r k hkl
          have hzs := szN_snoc r k hkl
          have hnz : (eN r k).size ≤ 3000000 := by have := szE_at (es := r) k hkl; omega
          have hxe : edAt r k = ⟨eS r k, eE r k, eN r k⟩ := rfl
          generalize hX : eS r k = X at *
          generalize hY : eE r k = Y at *
          generalize hZ : eN r k = nn at *
          clear hX hY hZ
          obtain ⟨a, rfl⟩ : ∃ a : Nat, X = a := ⟨X.toNat, by omega⟩
          obtain ⟨c, rfl⟩ : ∃ c : Nat, Y = c := ⟨Y.toNat, by omega⟩
          have hac : a ≤ c := by omega
          have hcs : c ≤ s.size := by omega
          have i1 : (0 : Int) ≤ (a : Int) := by omega
          have i2 : (a : Int) ≤ (s.size : Int) := by omega
          have i3 : (0 : Int) ≤ (c : Int) := by omega
          rw [hxe] at hfs hzs
          have hub0 := HAB.out ⟨(a : Int), (c : Int), nn⟩ m0 m1 m2x
          have HFS := Lib.hid hfs; have HZS := Lib.hid hzs
          have HGOOD := Lib.hid hgood
          clear hfs hzs hxe hgood
          have heb := Blk.new wr 47 #[.int .i64 (a : Int), .int .i64 (c : Int), .string nn]
          have hst3 := hst.below ((Below.refl wr.heap.size wr).alloc (Nat.le_refl _) (.cells #[.int .i64 (a : Int), .int .i64 (c : Int), .string nn] 47)) (by omega)
          clear hst hkb hkk
          have hea : nlN (s.extract 0 a) (s.extract 0 a).size = nlN s a := by
            have : (s.extract 0 a).size = a := by rw [ByteArray.size_extract]; omega
            rw [this]
            exact nlN_cut s a (by omega) a (Nat.le_refl _)
          have hec : nlN (s.extract 0 c) (s.extract 0 c).size = nlN s c := by
            have : (s.extract 0 c).size = c := by rw [ByteArray.size_extract]; omega
            rw [this]
            exact nlN_cut s c (by omega) c (Nat.le_refl _)
          have HEA := Lib.hid hea; have HEC := Lib.hid hec
          have hna := nlN_le s a
          have hnc := nlN_le s c
          clear hea hec
          go_wp2_with fail
          have hbl3 : KeepB ub w2 (wr.alloc (.cells #[.int .i64 (a : Int), .int .i64 (c : Int), .string nn] 47)) := (hst3.keep (by omega)).2
          generalize hEB : wr.heap.size = EB at *
          generalize wr.alloc (.cells #[.int .i64 (a : Int), .int .i64 (c : Int), .string nn] 47) = W3 at *
          clear hEB g0 g1 g2 hbb
          have d1 := heb.cell 1
          have d2 := heb.cell 2
          have HEBL := Lib.hid heb; have HST := Lib.hid hst3; have HK3 := Lib.hid hbl3
          clear heb hst3 hbl3
          refine (HCT.out _ _ (by rw [ByteArray.size_extract]; omega)).mono ?_
          rintro e w4 ⟨rfl, rfl⟩
          rw [HEA.out]
          go_wp2_with fail
          refine (HCT.out _ _ (by rw [ByteArray.size_extract]; omega)).mono ?_
          rintro e w5 ⟨rfl, rfl⟩
          rw [HEC.out]
          go_upto_region 18 with fail
          go_cut [87] (fun v wx => v = .bool (decide ((c : Int) = s.size) && openE s) ∧ w5 = wx)
          case first =>
            as_aux_lemma => --<a
              by_cases hcz : (c : Int) = (s.size : Int)
              · have e1 : ((c : Int) == (s.size : Int)) = true := by simp [hcz]
                rcases Nat.eq_zero_or_pos s.size with hz | hz
                · have HV := Lib.hid (show (decide ((c : Int) = (s.size : Int)) && openE s) = false by simp [openE, hz])
                  have e2 : ¬ (0 : Int) < (s.size : Int) := by omega
                  clear hcz hz
                  go_wp2_with fail
                  go_meet
                  exact ⟨by rw [HV.out], rfl⟩
                · obtain ⟨z, hz⟩ : ∃ z, s.size = z + 1 := ⟨s.size - 1, by omega⟩
                  have hzl : z < s.size := by omega
                  have hz1 : (s.size : Int) - 1 = (z : Int) := by omega
                  have hz0 : (0 : Int) < (s.size : Int) := by omega
                  by_cases h10 : byteAt s z = 10
                  · have e2 : (((s[z]'hzl).toNat : Int) != 10) = false := by rw [byteAt_get s z hzl] at h10; simp [h10]
                    have HV := Lib.hid (show (decide ((c : Int) = (s.size : Int)) && openE s) = false by simp [openE, hz, h10])
                    clear h10 hz hcz
                    go_wp2_with fail
                    go_meet
                    exact ⟨by rw [HV.out], rfl⟩
                  · have e2 : (((s[z]'hzl).toNat : Int) != 10) = true := by rw [byteAt_get s z hzl] at h10; simp; omega
                    have HV := Lib.hid (show (decide ((c : Int) = (s.size : Int)) && openE s) = true by simp [openE, hz, h10]; omega)
                    clear h10 hz hcz
                    go_wp2_with fail
                    go_meet
                    exact ⟨by rw [HV.out], rfl⟩
              · have e1 : ((c : Int) == (s.size : Int)) = false := by simp [hcz]
                have HV := Lib.hid (show (decide ((c : Int) = (s.size : Int)) && openE s) = false by simp [hcz])
                clear hcz
                go_wp2_with fail
                go_meet
                exact ⟨by rw [HV.out], rfl⟩
              -->a
          case rest =>
            obtain ⟨rfl, rfl⟩ := hcut
            go_upto_if 87 with fail
            have hbv : upB s ⟨(a : Int), (c : Int), nn⟩ = (nlN s c : Int) + (if (decide ((c : Int) = (s.size : Int)) && openE s) = true then 1 else 0) := rfl
            have hav : upA s ⟨(a : Int), (c : Int), nn⟩ = (nlN s a : Int) := rfl
            go_cut [23] (fun v wx => v = .int .i64 (upB s ⟨(a : Int), (c : Int), nn⟩) ∧ w5 = wx)
            case first =>
              as_aux_lemma => --<b
                cases hb : (decide ((c : Int) = (s.size : Int)) && openE s) with
                | false =>
                  rw [hb] at hbv
                  have HV := Lib.hid hbv
                  clear hbv hb
                  go_wp2_with fail
                  go_meet
                  exact ⟨by rw [HV.out]; go_num, rfl⟩
                | true =>
                  rw [hb] at hbv
                  have HV := Lib.hid hbv
                  clear hbv hb
                  go_wp2_with fail
                  go_meet
                  exact ⟨by rw [HV.out]; go_num, rfl⟩
                -->b
            case rest =>
              obtain ⟨rfl, rfl⟩ := hcut
              clear hbv
              rw [hav] at hub0
              have HAV := Lib.hid hav; clear hav
              generalize hBB : upB s ⟨(a : Int), (c : Int), nn⟩ = B at *
              have HBB := Lib.hid hBB; clear hBB
              generalize nlN s a = na at *
              generalize nlN s c = nc at *
              obtain ⟨nt0, nt1, nlen, nhs, nl0, nl1⟩ := HGOOD.out.num hs (by omega) (by omega) hzk
              obtain ⟨ol, ot0, ot1⟩ := openU_num (c := cx) (a := (na : Int)) HGOOD.out hT hc0 hc8 (by omega) (by omega) hs (by omega) (by omega) hzk
              go_upto_block 2 with fail
              go_cut [17, 19, 24] (fun h tl dl wx => ∃ hs' hk' x, openU L cx (na : Int) st = (hs', hk', x) ∧ tl = .int .i64 x ∧ StO rb ub f t w w2 hs' hk' h wx ∧ Blk wx EB 47 #[.int .i64 (a : Int), .int .i64 (c : Int), .string nn])
              case first =>
                as_aux_lemma => --<c
                  clear ol ot0 ot1 hl0' hl1' ht0' ht1' HGOOD HF HFS HZS HAB hzk m0 m1 m2x d1
                  obtain ⟨hs0, oh, la, tl⟩ := st
                  simp only at nt0 nt1 nlen nhs nl0 nl1 ⊢
                  cases oh with
                  | none =>
                    as_aux_lemma => --<1
                      obtain ⟨rfl, hsn⟩ : u17 = .pointer none ∧ StN rb ub f t w w2 hs0 w5 := HST.out
                      have hso := hsn.start ((na : Int) + 1) (tl + ((na : Int) - la) + 1)
                      have HADD := Lib.hid (addStO cL ((na : Int) - cx) (na : Int) hso HLS.out HNL.out (by omega) (by simp) (by omega) (by omega) (by omega))
                      have HE1 := Lib.hid (HEBL.out.alloc (.cells #[.int .i64 ((na : Int) + 1), .int .i64 (tl + ((na : Int) - la) + 1), .slice none 0 0] 63))
                      have hgn : EB ≠ w5.heap.size := by have := HEBL.out.lt; omega
                      clear hso hsn HST
                      go_wp2_with fail
                      refine HADD.out.mono ?_
                      rintro e w6 ⟨rfl, hso6, hfr6⟩
                      have HE6 := Lib.hid (hfr6 _ _ _ HE1.out hgn (by decide))
                      generalize hG : w5.heap.size = G at *
                      clear hG HE1 hfr6
                      obtain ⟨dl, hdl⟩ : ∃ dl, (eqF L ((na : Int) - cx) (na : Int)).length = dl := ⟨_, rfl⟩
                      have hd8 := eqF_near L cx (na : Int) (by omega) hc0 hc8
                      rw [hdl] at hd8 ⊢
                      have HDL := Lib.hid hdl; clear hdl
                      have c0 : w6.cell? ⟨G, 0, none⟩ = some (.int .i64 ((na : Int) + 1)) := hso6.cells.1
                      have c1 : w6.cell? ⟨G, 1, none⟩ = some (.int .i64 (tl + ((na : Int) - la) + 1)) := hso6.cells.2.1
                      have z0 := hso6.cells.2.2.1
                      have z1 := hso6.cells.2.2.2
                      have HSO6 := Lib.hid hso6; clear hso6
                      go_wp2_with fail
                      go_meet
                      refine ⟨_, _, _, rfl, by go_num, ?_, (HE6.out.far (p := ⟨G, 0, none⟩) hgn _).far (p := ⟨G, 1, none⟩) hgn _⟩
                      have h8 := (HSO6.out.set0 ((na : Int) + 1 - dl)).set1 (tl + ((na : Int) - la) + 1 - dl)
                      rw [← HDL.out] at h8 ⊢
                      exact h8
                      -->1
                  | some hk =>
                    have hso : StO rb ub f t w w2 hs0 hk u17 w5 := HST.out
                    obtain ⟨g, rfl, hkb, hsn⟩ := hso.base (by omega)
                    have hlk := nlen hk rfl
                    have HSO := Lib.hid hso
                    obtain ⟨-, Ag, cg, hgb, -⟩ := hkb
                    have hgn : EB ≠ g := HEBL.out.ne_ hgb (by decide)
                    clear hso hsn hgb HST nlen
                    by_cases h1 : (na : Int) = la
                    · as_aux_lemma => --<2
                        have e1 : ((na : Int) == la) = true := by simp [h1]
                        have HH1 := Lib.hid h1; clear h1
                        go_wp2_with fail
                        go_meet
                        exact ⟨hs0, hk, tl, by simp only [openU]; rw [if_pos HH1.out], rfl, HSO.out, HEBL.out⟩
                        -->2
                    · have e1 : ((na : Int) == la) = false := by simp [h1]
                      by_cases h2 : (na : Int) ≤ la + cx * 2
                      · as_aux_lemma => --<3
                          have HADD := Lib.hid (addStO cL la (na : Int) HSO.out HLS.out HNL.out (by omega) (by omega) (by omega) (by omega) (by omega))
                          go_wp2_with fail
                          refine HADD.out.mono ?_
                          rintro e w6 ⟨rfl, hso6, hfr6⟩
                          have HE6 := Lib.hid (hfr6 _ _ _ HEBL.out hgn (by decide))
                          have HSO6 := Lib.hid hso6; clear hso6 hfr6
                          go_wp2_with fail
                          go_meet
                          exact ⟨hs0, hk.add (eqF L la (na : Int)), tl, by simp only [openU]; rw [if_neg h1, if_pos h2], rfl, HSO6.out, HE6.out⟩
                          -->3
                      · as_aux_lemma => --<4
                          have H1 := Lib.hid h1; have H2 := Lib.hid h2
                          have HADD := Lib.hid (addStO cL la (la + cx) HSO.out HLS.out HNL.out (by omega) (by omega) (by omega) (by omega) (by omega))
                          go_wp2_with fail
                          refine HADD.out.mono ?_
                          rintro e w6 ⟨rfl, hso6, hfr6⟩
                          have HE6 := Lib.hid (hfr6 _ _ _ HEBL.out hgn (by decide))
                          obtain ⟨g', hgg, hkb6, hsn6⟩ := hso6.base (by omega)
                          obtain rfl : g = g' := by injection hgg with hgg; injection hgg with hgg; injection hgg
                          obtain ⟨gs, A6, c6, hU6, oU6, hks6⟩ := hsn6.2.2
                          have hz6 := hsn6.2.1.1
                          have y0 := hU6.cell 2
                          have hubl := hU6.lt
                          have heu := HE6.out.ne_ hU6 (by decide)
                          have HEU := Lib.hid heu
                          have HU6 := Lib.hid hU6; have OU6 := Lib.hid oU6; have HKS6 := Lib.hid hks6; have HSN6 := Lib.hid hsn6; have HKB6 := Lib.hid hkb6
                          clear hgg hso6 hfr6 hU6 oU6 hks6 hsn6 hkb6 heu HADD HSO
                          as_aux_lemma =>
                            go_upto_region 23 with (at_builtin; have t1 := World.ownsRow.alloc OU6.out (.cells #[.pointer (some ⟨g, 0, none⟩)] 58); have t2 : w2.heap.size ≤ (w6.alloc (.cells #[.pointer (some ⟨g, 0, none⟩)] 58)).heap.size := (by simp; omega); have t3 : hs0.length + 1 ≤ maxLen := (by unfold maxLen; omega); have t4 : (hs0.length + 1) * 8 ≤ 140737488355328 := (by omega); have t5 := hp_lit1 w6 58 g; refine wpList_append_any _ rfl (.tmp 100) (.tmp 102) _ rfl w2.heap.size 58 iH _ 1 8 Tryz.underlying39 hj hy0 hy1 hy2 rfl (by omega) (.slice A6 hs0.length c6) hs0.length (hpCells gs) rfl t1 (some ⟨w6.heap.size, 0, none⟩) 1 1 (hpCells [g]) rfl t5 rfl (hp_one _) t3 t4 t2 ?_; intro A7 c7 w7 hown7 hg7 hat7; have HO7 := Lib.hid hown7; have HG7 := Lib.hid hg7; have zb7 := (HU6.out.alloc (.cells #[.pointer (some ⟨g, 0, none⟩)] 58)).grown hg7 (own_neH t1 (HU6.out.alloc _) (by decide)); have zc7 := zb7.cell 2; have zf7 := zb7.frozen 2; have HE7 := Lib.hid ((HE6.out.alloc (.cells #[.pointer (some ⟨g, 0, none⟩)] 58)).grown hg7 (own_neH t1 (HE6.out.alloc _) (by decide))); clear hown7 hg7 hat7 zb7 y0 t1 t2 t3 t4 t5)
                            have hsn7 := HSN6.out.push (by omega) (by omega) (by omega) HU6.out OU6.out HKS6.out HKB6.out HO7.out HG7.out
                            have he8 := HE7.out.far (p := ⟨ub, 2, none⟩) HEU.out (.slice A7 (hs0.length + 1) c7)
                            generalize w7.setCell ⟨ub, 2, none⟩ (.slice A7 (hs0.length + 1) c7) = W8 at *
                            have hso8 := hsn7.start ((na : Int) + 1) (tl + ((na : Int) - la) + 1)
                            have HADD8 := Lib.hid (addStO cL ((na : Int) - cx) (na : Int) hso8 HLS.out HNL.out (by omega) (by simp) (by omega) (by omega) (by omega))
                            have HE8 := Lib.hid (he8.alloc (.cells #[.int .i64 ((na : Int) + 1), .int .i64 (tl + ((na : Int) - la) + 1), .slice none 0 0] 63))
                            have hgn8 : EB ≠ W8.heap.size := by have := he8.lt; omega
                            clear hsn7 hso8 he8 zc7 zf7 HO7 HG7 HE7 HU6 OU6 HKS6 HSN6 HKB6 HE6 HEU h1 h2 e1 hlk hz6 hubl
                            as_aux_lemma =>
                              go_wp2_with fail
                              refine HADD8.out.mono ?_
                              rintro e w8 ⟨rfl, hso8, hfr8⟩
                              have HE9 := Lib.hid (hfr8 _ _ _ HE8.out hgn8 (by decide))
                              generalize hG : W8.heap.size = G at *
                              clear hG hfr8 HE8 HADD8
                              obtain ⟨dl, hdl⟩ : ∃ dl, (eqF L ((na : Int) - cx) (na : Int)).length = dl := ⟨_, rfl⟩
                              have hd8 := eqF_near L cx (na : Int) (by omega) hc0 hc8
                              rw [hdl] at hd8 ⊢
                              have HDL := Lib.hid hdl; clear hdl
                              have c0 : w8.cell? ⟨G, 0, none⟩ = some (.int .i64 ((na : Int) + 1)) := hso8.cells.1
                              have c1 : w8.cell? ⟨G, 1, none⟩ = some (.int .i64 (tl + ((na : Int) - la) + 1)) := hso8.cells.2.1
                              have z0 := hso8.cells.2.2.1
                              have z1 := hso8.cells.2.2.2
                              have HSO8 := Lib.hid hso8; clear hso8
                              go_wp2_with fail
                              go_meet
                              have hop : openU L cx (na : Int) ⟨hs0, some hk, la, tl⟩ = (hs0 ++ [hk.add (eqF L la (la + cx))], newHk L cx (na : Int) (tl + ((na : Int) - la)), tl + ((na : Int) - la)) := by
                                simp only [openU]
                                rw [if_neg (by have := H1.out; omega), if_neg (by have := H2.out; omega)]
                              refine ⟨_, _, _, hop, by go_num, ?_, (HE9.out.far (p := ⟨G, 0, none⟩) hgn8 _).far (p := ⟨G, 1, none⟩) hgn8 _⟩
                              have h8 := (HSO8.out.set0 ((na : Int) + 1 - dl)).set1 (tl + ((na : Int) - la) + 1 - dl)
                              rw [← HDL.out] at h8 ⊢
                              exact h8
                          -->4
                  -->c
              case rest =>
                obtain ⟨hs', hk', x, hop, rfl, hso, heb⟩ := hcut
                rw [hop] at ol ot0 ot1
                simp only at ol ot0 ot1
                have hstep : stepU s L cx st ⟨(a : Int), (c : Int), nn⟩ = ⟨hs', some ((hk'.add (delF L (na : Int) B)).add (insF nn)), B, x + (linesF nn).length⟩ := by
                  unfold stepU
                  rw [HAV.out, HBB.out, hop]
                have HSTEP := Lib.hid hstep
                obtain ⟨g, rfl, -, -⟩ := hso.base (by omega)
                have hd0 : hk'.add (delF L (na : Int) (na : Int)) = hk' := by rw [delF_none L _ _ (Int.le_refl _), Hk.add_nil]
                have HSO := Lib.hid hso; have HEX := Lib.hid heb; have HD0 := Lib.hid hd0
                have HDN := Lib.hid (fun m => delF_len L (na : Int) m)
                clear hstep hop hso heb hd0 HST HEBL d1 nt0 nt1 nlen nhs nl0 nl1 hl0' hl1' ht0' ht1'
                go_wp2_with fail
                go_loopg [18, 25] (B - (na : Int)).toNat (fun q la i wx => ∃ m : Int, q = (B - m).toNat ∧ (na : Int) ≤ m ∧ m ≤ B ∧ la = .int .i64 m ∧ i = .int .i64 m ∧ StO rb ub f t w w2 hs' (hk'.add (delF L (na : Int) m)) (.pointer (some ⟨g, 0, none⟩)) wx ∧ Blk wx EB 47 #[.int .i64 (a : Int), .int .i64 (c : Int), .string nn])
                case atStart => exact ⟨(na : Int), rfl, Int.le_refl _, hub0.2.1, rfl, rfl, by rw [HD0.out]; exact HSO.out, HEX.out⟩
                case round =>
                  obtain ⟨m, hq2, hm1, hm2, rfl, rfl, hsm, heb2⟩ := hrel
                  have HQ2 := Lib.hid hq2; clear hq2
                  by_cases hlt2 : m < B
                  · --<5
                    obtain ⟨jj, rfl⟩ : ∃ jj : Nat, m = jj := ⟨m.toNat, by omega⟩
                    have hjl : jj < L.length := by omega
                    have e1 := delF_snoc L (na : Int) (jj : Int) (by omega) hm1 (by simpa using hjl)
                    have eX : L.getD (jj : Int).toNat ⟨#[]⟩ = L.getD jj ⟨#[]⟩ := rfl
                    rw [eX] at e1
                    have hln := hsm.lines HLS.out HNL.out
                    obtain ⟨b1, off1, hAL, hbb1, g1⟩ := hln.at_ hjl
                    subst hAL
                    obtain ⟨base, g2, A2, c2, hgv, hbg, hbW, hblk, hown, hnext⟩ := hsm.open_
                    obtain rfl : g = g2 := by injection hgv with hgv; injection hgv with hgv; injection hgv
                    have HNX := Lib.hid hnext
                    have hdn := HDN.out (jj : Int)
                    change wr.cell? ⟨b1, off1 + jj, none⟩ = some (.string (L.getD jj ⟨#[]⟩)) at g1
                    generalize L.getD jj ⟨#[]⟩ = X at *
                    have E1 := Lib.hid e1
                    clear e1 eX hln hsm hgv hnext
                    obtain ⟨l1, hl1⟩ : ∃ l1, hk'.ls ++ delF L (na : Int) (jj : Int) = l1 := ⟨_, rfl⟩
                    have hll1 : l1.length ≤ 4000001000000 := by rw [← hl1, List.length_append]; omega
                    change Blk wr g 63 #[.int .i64 hk'.fl, .int .i64 hk'.tl, .slice A2 (hk'.ls ++ delF L (na : Int) (jj : Int)).length c2] at hblk
                    change wr.ownsRow base 66 2 (.slice A2 (hk'.ls ++ delF L (na : Int) (jj : Int)).length c2) (hk'.ls ++ delF L (na : Int) (jj : Int)).length (klCells (hk'.ls ++ delF L (na : Int) (jj : Int))) at hown
                    rw [hl1] at hblk hown
                    have HL1 := Lib.hid hl1; clear hl1
                    have c0 := hblk.cell 2
                    have hgl := hblk.lt
                    have HBLK := Lib.hid hblk; have HO := Lib.hid hown; have HEB2 := Lib.hid heb2
                    clear hblk hown heb2
                    have i1 : (jj : Int) < (L.length : Int) := by omega
                    try clear HLC
                    try clear HP
                    try clear HR
                    try clear HSP
                    try clear HCT
                    try clear HBE
                    try clear HPP
                    try clear HIO
                    try clear HMEM
                    try clear HRE
                    try clear HLR
                    try clear HSQ
                    try clear HAB
                    try clear HL
                    try clear HN
                    try clear HNL
                    try clear HRE2
                    try clear HNE
                    try clear HLS
                    try clear HR2
                    try clear HR1
                    try clear HU1
                    try clear HQ
                    try clear HF
                    try clear HFS
                    try clear HZS
                    try clear HGOOD
                    try clear HEA
                    try clear HEC
                    try clear HK3
                    try clear HAV
                    try clear HBB
                    try clear HSTEP
                    try clear HSO
                    try clear HEX
                    try clear HD0
                    try clear HDN
                    try clear HST
                    try clear m0
                    try clear m1
                    try clear m2x
                    try clear ol
                    try clear ot0
                    try clear ot1
                    try clear d2
                    try clear hfold
                    try clear hszr
                    try clear hr3
                    try clear hz1'
                    try clear hl0
                    try clear hl1
                    go_upto_region 35 with fail
                    go_cut [] (fun wx => StO rb ub f t w w2 hs' (hk'.add (delF L (na : Int) ((jj : Int) + 1))) (.pointer (some ⟨g, 0, none⟩)) wx ∧ Blk wx EB 47 #[.int .i64 (a : Int), .int .i64 (c : Int), .string nn])
                    case first =>
                      --<d
                      go_region_law (refine step_append_anyL _ rfl (.tmp 173) (.tmp 179) _ rfl base 66 i0 _ 2 24 Tryz.underlying61 hi hz0 hz1 hz2 rfl (by omega) (.slice A2 l1.length c2) l1.length (klCells l1) (by simp [Act.eval]) ((World.ownsRow.alloc HO.out (.cells #[.int .i64 0, .string X] 66)).drew) (some ⟨wr.heap.size, 0, none⟩) 1 1 (klCells [(0, X)]) (by simp [Act.eval]) (kl_lit1 _ _ _ _) rfl (klCells1_one _ _) (by unfold maxLen; omega) (by omega) (by simp; omega) ?_; intro A3 c3 w3 hown3 hg3; have zb := (HBLK.out.alloc (.cells #[.int .i64 0, .string X] 66)).drew.grown hg3 (own_neH ((World.ownsRow.alloc HO.out (.cells #[.int .i64 0, .string X] 66)).drew) ((HBLK.out.alloc _).drew) (by decide)); have zc := zb.cell 2; have zf := zb.frozen 2)
                      all_goals
                        go_wp2_with fail
                        go_meet
                        obtain ⟨q1, q2, q3⟩ := HkO.line (W := (wr.alloc (.cells #[.int .i64 0, .string X] 66)).drew) (x := ((0 : Int), X)) hbg (by simp; omega) rfl ((HBLK.out.alloc _).drew) ((World.ownsRow.alloc HO.out _).drew) hown3 hg3
                        have e9 : hk'.add (delF L (na : Int) ((jj : Int) + 1)) = ⟨hk'.fl, hk'.tl, l1 ++ [((0 : Int), X)]⟩ := by
                          rw [E1.out, ← HL1.out]
                          simp [Hk.add]
                        exact ⟨by rw [e9]; exact HNX.out _ _ q1 ((((Below.refl base wr).alloc hbW _).drew).trans q2), q3 _ _ _ (HEB2.out.alloc _) (HEB2.out.ne_ HBLK.out (by decide)) (by decide)⟩
                      -->d
                    case rest =>
                      obtain ⟨hso9, heb9⟩ := hcut
                      have HS9 := Lib.hid hso9; have HE9 := Lib.hid heb9
                      clear hso9 heb9 c0 hgl HBLK HO HEB2 E1 HL1 HNX g1 hbb1 hbg hbW hdn
                      as_aux_lemma => --<e
                        go_wp2_with fail
                        go_roundg (B - ((jj : Int) + 1)).toNat
                        case measure => have := HQ2.out; omega
                        case rel => exact ⟨(jj : Int) + 1, rfl, by omega, by omega, by go_num, by go_num, HS9.out, HE9.out⟩
                        -->e
                    -->5
                  · have hmB : m = B := by omega
                    subst hmB
                    generalize hHK : hk'.add (delF L (na : Int) m) = HK at *
                    have hlk : HK.ls.length ≤ 4000001000000 := by
                      rw [← hHK]
                      have := HDN.out m
                      simp only [Hk.add, List.length_append]
                      omega
                    have d2 := heb2.cell 2
                    have HSM := Lib.hid hsm
                    clear hHK hsm hlt2 HQ2 hm1 hm2
                    by_cases hnn : nn = ⟨#[]⟩
                    · as_aux_lemma => --<6
                        subst hnn
                        have eI : HK.add (insF ⟨#[]⟩) = HK := by
                          have : insF ⟨#[]⟩ = [] := rfl
                          rw [this, Hk.add_nil]
                        have eL : (linesF ⟨#[]⟩).length = 0 := rfl
                        rw [eI, eL] at HSTEP
                        clear eI eL heb2
                        go_wp2_with fail
                        go_roundg (n - (k + 1))
                        case measure => have := HQ.out; omega
                        case rel =>
                          refine ⟨k + 1, ⟨hs', some HK, m, x⟩, rfl, by omega, by go_num, rfl, rfl, ?_, ?_, HSM.out⟩
                          · rw [HFS.out, ← HF.out, HSTEP.out]; simp
                          · have h9 := stepU_good (x := ⟨(a : Int), (c : Int), ⟨#[]⟩⟩) (HL.out).symm hT hc0 hc8 HGOOD.out m0 m1 m2x
                            rw [HSTEP.out] at h9
                            rw [HZS.out]
                            simpa using h9
                        -->6
                    · as_aux_lemma => --<7
                        have e1 : (nn.toList == ByteArray.toList ⟨#[]⟩) = false := strEq_false hnn
                        have e5 : nn.toList.isEmpty = false := by
                          cases hx : nn.toList with
                          | nil => rw [hx] at e1; simp at e1
                          | cons a l => rfl
                        have HSN := Lib.hid (HSP.out nn wr hnz)
                        clear hnn heb2
                        go_wp2_with fail
                        refine HSN.out.mono ?_
                        rintro e w6 ⟨AN, cN, AQ, cQ, rfl, oN, oQ, hb6⟩
                        have hgl6 : g < wr.heap.size := by
                          obtain ⟨_, g2, _, _, hgv, _, _, hblk, _, _⟩ := HSM.out.open_
                          obtain rfl : g = g2 := by injection hgv with hgv; injection hgv with hgv; injection hgv
                          exact hblk.lt
                        have hsm6 := HSM.out.below hb6
                        have hnll := linesF_len nn
                        have hI : insF nn = (linesF nn).map fun x => ((1 : Int), x) := rfl
                        rw [hI] at HSTEP
                        obtain ⟨nl, hnl⟩ : ∃ nl, linesF nn = nl := ⟨_, rfl⟩
                        rw [hnl] at HSTEP oN hnll ⊢
                        obtain ⟨nk, hnk⟩ : ∃ nk, nl.length = nk := ⟨_, rfl⟩
                        rw [hnk] at oN hnll HSTEP ⊢
                        have HSM6 := Lib.hid hsm6; have HON := Lib.hid oN; have HNK := Lib.hid hnk
                        clear hsm6 oN oQ hb6 hI hnl hnk HSN
                        go_wp2_with fail
                        go_loopg [19, 196] nk (fun q tl i wy => ∃ m2 : Nat, q = nk - m2 ∧ m2 ≤ nk ∧ tl = .int .i64 (x + (m2 : Int)) ∧ i = .int .i64 (m2 : Int) ∧ StO rb ub f t w w2 hs' (HK.add ((nl.take m2).map fun x => ((1 : Int), x))) (.pointer (some ⟨g, 0, none⟩)) wy ∧ FrH g w6 wy)
                        case atStart => exact ⟨0, rfl, Nat.zero_le _, by simp, rfl, by rw [List.take_zero, List.map_nil, Hk.add_nil]; exact HSM6.out, FrH.refl _ _⟩
                        case round =>
                          obtain ⟨m2, hq3, hm3, rfl, rfl, hsm3, hfr3⟩ := hrel
                          have HQ3 := Lib.hid hq3; have HFR3 := Lib.hid hfr3
                          clear hq3 hfr3
                          by_cases hlt3 : m2 < nk
                          · have hml : m2 < nl.length := by rw [HNK.out]; exact hlt3
                            have hnls : StrsR wr AN nl := CellsR.of_own (own_frH HON.out HFR3.out hgl6 (by decide))
                            obtain ⟨b1, off1, hAN, hbb1, g1⟩ := hnls.at_ hml
                            subst hAN
                            change wr.cell? ⟨b1, off1 + m2, none⟩ = some (.string (nl.getD m2 ⟨#[]⟩)) at g1
                            have e1 := insTake nl hml
                            obtain ⟨base, g2, A2, c2, hgv, hbg, hbW, hblk, hown, hnext⟩ := hsm3.open_
                            obtain rfl : g = g2 := by injection hgv with hgv; injection hgv with hgv; injection hgv
                            have HNX := Lib.hid hnext
                            generalize nl.getD m2 ⟨#[]⟩ = X at *
                            have E1 := Lib.hid e1
                            clear e1 hnls hsm3 hgv hnext
                            have hinl : ((nl.take m2).map fun x => ((1 : Int), x)).length ≤ 3000000 := by simp; omega
                            obtain ⟨l1, hl1⟩ : ∃ l1, HK.ls ++ ((nl.take m2).map fun x => ((1 : Int), x)) = l1 := ⟨_, rfl⟩
                            have hll1 : l1.length ≤ 4000004000000 := by rw [← hl1, List.length_append]; omega
                            change Blk wr g 63 #[.int .i64 HK.fl, .int .i64 HK.tl, .slice A2 (HK.ls ++ ((nl.take m2).map fun x => ((1 : Int), x))).length c2] at hblk
                            change wr.ownsRow base 66 2 (.slice A2 (HK.ls ++ ((nl.take m2).map fun x => ((1 : Int), x))).length c2) (HK.ls ++ ((nl.take m2).map fun x => ((1 : Int), x))).length (klCells (HK.ls ++ ((nl.take m2).map fun x => ((1 : Int), x)))) at hown
                            rw [hl1] at hblk hown
                            have HL1 := Lib.hid hl1; clear hl1 hinl
                            have c0 := hblk.cell 2
                            have hgl := hblk.lt
                            have HBLK := Lib.hid hblk; have HO := Lib.hid hown
                            clear hblk hown
                            have i1 : (m2 : Int) < (nk : Int) := by omega
                            go_wp2_with (at_builtin; have t1 := World.ownsRow.alloc HO.out (.cells #[.int .i64 1, .string X] 66); have t2 : base ≤ (wr.alloc (.cells #[.int .i64 1, .string X] 66)).heap.size := (by simp; omega); have t3 : l1.length + 1 ≤ maxLen := (by unfold maxLen; omega); have t4 : (l1.length + 1) * 24 ≤ 140737488355328 := (by omega); have t5 := kl_lit1 wr 66 1 X; refine wpList_append_any _ rfl (.tmp 204) (.tmp 207) _ rfl base 66 i0 _ 2 24 Tryz.underlying61 hi hz0 hz1 hz2 rfl (by omega) (.slice A2 l1.length c2) l1.length (klCells l1) rfl t1 (some ⟨wr.heap.size, 0, none⟩) 1 1 (klCells [(1, X)]) rfl t5 rfl (klCells1_one _ _) t3 t4 t2 ?_; intro A3 c3 w3 hown3 hg3 hat3; have HO3 := Lib.hid hown3; have HG3 := Lib.hid hg3; have zb := (HBLK.out.alloc (.cells #[.int .i64 1, .string X] 66)).grown hg3 (own_neH t1 (HBLK.out.alloc _) (by decide)); have zc := zb.cell 2; have zf := zb.frozen 2; clear hown3 hg3 hat3 zb t1 t2 t3 t4 t5)
                            go_roundg (nk - (m2 + 1))
                            case measure => have := HQ3.out; omega
                            case rel =>
                              obtain ⟨q1, q2, q3⟩ := HkO.line (W := wr.alloc (.cells #[.int .i64 1, .string X] 66)) (x := ((1 : Int), X)) hbg (by simp; omega) rfl (HBLK.out.alloc _) (World.ownsRow.alloc HO.out _) HO3.out HG3.out
                              refine ⟨m2 + 1, rfl, by omega, by go_num, by go_num, ?_, (HFR3.out.alloc _).trans q3⟩
                              have e9 : HK.add ((nl.take (m2 + 1)).map fun x => ((1 : Int), x)) = ⟨HK.fl, HK.tl, l1 ++ [((1 : Int), X)]⟩ := by
                                rw [E1.out, ← HL1.out]
                                simp [Hk.add]
                              rw [e9]
                              exact HNX.out _ _ q1 (((Below.refl base wr).alloc hbW _).trans q2)
                          · have hmm : m2 = nk := by omega
                            subst hmm
                            have hall : (nl.take m2).map (fun x => ((1 : Int), x)) = nl.map fun x => ((1 : Int), x) := by rw [List.take_of_length_le (by rw [HNK.out]; omega)]
                            rw [hall] at hsm3
                            have HSM3 := Lib.hid hsm3
                            clear hsm3 hall
                            go_wp2_with fail
                            go_roundg (n - (k + 1))
                            case measure => have := HQ.out; omega
                            case rel =>
                              refine ⟨k + 1, ⟨hs', some (HK.add (nl.map fun x => ((1 : Int), x))), m, x + (m2 : Int)⟩, rfl, by omega, by go_num, rfl, rfl, ?_, ?_, HSM3.out⟩
                              · rw [HFS.out, ← HF.out, HSTEP.out]
                              · have h9 := stepU_good (x := ⟨(a : Int), (c : Int), nn⟩) (HL.out).symm hT hc0 hc8 HGOOD.out m0 m1 m2x
                                rw [HSTEP.out] at h9
                                rw [HZS.out]
                                exact h9
                        -->7
        · as_aux_lemma => --<8
            have hfe : st = foldU s L cx r := by rw [HF.out, List.take_of_length_le (by rw [HN.out]; omega)]
            have hun : unifF s cx (lineF s es') = endU L cx st := by
              unfold unifF
              rw [HLR.out, HL.out, ← hfe]
            obtain ⟨nt0, nt1, nlen, nhs, nl0, nl1⟩ := hgood.num hs (by omega) (by omega) hzk
            have hrbl : rb < w2.heap.size := by omega
            have hrn : ¬ rb = ub := by omega
            have HUN := Lib.hid hun; have HST := Lib.hid hst
            clear hst hfe hun hgood hzk HF HQ HP
            obtain ⟨hs0, oh, la, tl⟩ := st
            simp only at nt0 nt1 nlen nhs nl0 nl1 hl0' hl1' ht0' ht1' ⊢
            cases oh with
            | none =>
              obtain ⟨rfl, hsn⟩ : u17 = .pointer none ∧ StN rb ub f t w w2 hs0 wr := HST.out
              have hR6 := hkk.blk HR2.out hrbl hrn
              have hbe6 := hsn.1
              obtain ⟨gs, A6, c6, hU6, oU6, hks6⟩ := hsn.2.2
              have r0 := hR6.cell 0
              have r1 := hR6.cell 1
              have r2 := hR6.cell 2
              have s0 := hR6.frozen 0
              have s1 := hR6.frozen 1
              have s2 := hR6.frozen 2
              have u0 := hU6.cell 0
              have u1 := hU6.cell 1
              have u2 := hU6.cell 2
              have HR6 := Lib.hid hR6; have HU6 := Lib.hid hU6; have OU6 := Lib.hid oU6; have HKS6 := Lib.hid hks6; have HB6 := Lib.hid hbe6
              have hub6 := hU6.lt
              have hrb6 := hR6.lt
              clear HST hsn hkk hR6 hU6 oU6 hks6 hbe6 hkb
              go_wp2_with fail
              (try simp only [Exit.inBlock, Exit.then])
              refine bodyPost_ret (results_cellT rfl _ rfl (run_loadVar_row _ _ _ _ _ (0, 0) _ (((HR6.out.set_ 0 (.string f)).set_ 1 (.string t)).set_ 2 (.slice A6 hs0.length c6)) Tryz.underlying41 rfl (by kernel_rfl))) rfl ?_
              exact ⟨es', HPP.out, by rw [hrb]; exact ((HB6.out.setCell (p := ⟨rb, 0, none⟩) (Nat.le_refl rb) _).setCell (p := ⟨rb, 1, none⟩) (Nat.le_refl rb) _).setCell (p := ⟨rb, 2, none⟩) (Nat.le_refl rb) _, .inl ⟨HIO.out, A6, c6, by rw [HUN.out]; rfl, by rw [HUN.out]; exact um_out OU6.out HKS6.out HR6.out _ _ _⟩⟩
            | some hk =>
              have hso : StO rb ub f t w w2 hs0 hk u17 wr := HST.out
              obtain ⟨g, rfl, hkb1, hsn⟩ := hso.base (by omega)
              have hlk := nlen hk rfl
              have HADD := Lib.hid (addStO cL la (la + cx) hso HLS.out HNL.out (by omega) (by omega) (by omega) (by omega) (by omega))
              clear HST hso hkb1 hsn hkb hkk nlen
              go_wp2_with fail
              refine HADD.out.mono ?_
              rintro e w6 ⟨rfl, hso6, hfr6⟩
              obtain ⟨g', hgg, hkb6, hsn6⟩ := hso6.base (by omega)
              obtain rfl : g = g' := by injection hgg with hgg; injection hgg with hgg; injection hgg
              obtain ⟨gs, A6, c6, hU6, oU6, hks6⟩ := hsn6.2.2
              have hz6 := hsn6.2.1.1
              have y0 := hU6.cell 2
              have hubl := hU6.lt
              have HU6 := Lib.hid hU6; have OU6 := Lib.hid oU6; have HKS6 := Lib.hid hks6; have HSN6 := Lib.hid hsn6; have HKB6 := Lib.hid hkb6
              clear hgg hso6 hfr6 hU6 oU6 hks6 hsn6 hkb6 HADD
              go_upto_region 49 with (at_builtin; have t1 := World.ownsRow.alloc OU6.out (.cells #[.pointer (some ⟨g, 0, none⟩)] 58); have t2 : w2.heap.size ≤ (w6.alloc (.cells #[.pointer (some ⟨g, 0, none⟩)] 58)).heap.size := (by simp; omega); have t3 : hs0.length + 1 ≤ maxLen := (by unfold maxLen; omega); have t4 : (hs0.length + 1) * 8 ≤ 140737488355328 := (by omega); have t5 := hp_lit1 w6 58 g; refine wpList_append_any _ rfl (.tmp 225) (.tmp 227) _ rfl w2.heap.size 58 iH _ 1 8 Tryz.underlying39 hj hy0 hy1 hy2 rfl (by omega) (.slice A6 hs0.length c6) hs0.length (hpCells gs) rfl t1 (some ⟨w6.heap.size, 0, none⟩) 1 1 (hpCells [g]) rfl t5 rfl (hp_one _) t3 t4 t2 ?_; intro A7 c7 w7 hown7 hg7 hat7; have HO7 := Lib.hid hown7; have HG7 := Lib.hid hg7; have zb7 := (HU6.out.alloc (.cells #[.pointer (some ⟨g, 0, none⟩)] 58)).grown hg7 (own_neH t1 (HU6.out.alloc _) (by decide)); have zc7 := zb7.cell 2; have zf7 := zb7.frozen 2; clear hown7 hg7 hat7 zb7 y0 t1 t2 t3 t4 t5)
              have hsn7 := HSN6.out.push (by omega) (by omega) (by omega) HU6.out OU6.out HKS6.out HKB6.out HO7.out HG7.out
              generalize w7.setCell ⟨ub, 2, none⟩ (.slice A7 (hs0.length + 1) c7) = W8 at *
              have hR8 := hsn7.2.1.blk HR2.out hrbl hrn
              have hbe8 := hsn7.1
              obtain ⟨gs8, A8, c8, hU8, oU8, hks8⟩ := hsn7.2.2
              have r0 := hR8.cell 0
              have r1 := hR8.cell 1
              have r2 := hR8.cell 2
              have s0 := hR8.frozen 0
              have s1 := hR8.frozen 1
              have s2 := hR8.frozen 2
              have u0 := hU8.cell 0
              have u1 := hU8.cell 1
              have u2 := hU8.cell 2
              have hub8 := hU8.lt
              have hrb8 := hR8.lt
              have HR8 := Lib.hid hR8; have OU8 := Lib.hid oU8; have HKS8 := Lib.hid hks8; have HB8 := Lib.hid hbe8
              clear hsn7 hR8 hU8 oU8 hks8 hbe8 zc7 zf7 HO7 HG7 HU6 OU6 HKS6 HSN6 HKB6
              go_wp2_with fail
              (try simp only [Exit.inBlock, Exit.then])
              refine bodyPost_ret (results_cellT rfl _ rfl (run_loadVar_row _ _ _ _ _ (0, 0) _ (((HR8.out.set_ 0 (.string f)).set_ 1 (.string t)).set_ 2 (.slice A8 (hs0.length + 1) c8)) Tryz.underlying41 rfl (by kernel_rfl))) rfl ?_
              exact ⟨es', HPP.out, by rw [hrb]; exact ((HB8.out.setCell (p := ⟨rb, 0, none⟩) (Nat.le_refl rb) _).setCell (p := ⟨rb, 1, none⟩) (Nat.le_refl rb) _).setCell (p := ⟨rb, 2, none⟩) (Nat.le_refl rb) _, .inl ⟨HIO.out, A8, c8, by rw [HUN.out, show (endU L cx ⟨hs0, some hk, la, tl⟩).length = hs0.length + 1 by simp [endU]]; rfl, by rw [HUN.out]; exact um_out OU8.out HKS8.out HR8.out _ _ _⟩⟩
            -->8
    · have hR1 := hR0.below hb1 (by omega)
      have hU1 := hU0.below hb1 hlt0
      have hbe := hw0.trans (hb1.mono (by omega))
      have r0 := hR1.cell 0
      have r1 := hR1.cell 1
      have r2 := hR1.cell 2
      have s0 := hR1.frozen 0
      have s1 := hR1.frozen 1
      have s2 := hR1.frozen 2
      have u0 := hU1.cell 0
      have u1 := hU1.cell 1
      have u2 := hU1.cell 2
      have HR1 := Lib.hid hR1; have HBE := Lib.hid hbe; have HPP := Lib.hid hpp
      clear hR0 hU0 hb1 hw0 hR1 hU1 hbe hpp hr0
      go_wp2_with fail
      (try simp only [Exit.inBlock, Exit.then])
      refine bodyPost_ret (results_cellT rfl _ rfl (run_loadVar_row _ _ _ _ _ (0, 0) _ (((HR1.out.set_ 0 (.string f)).set_ 1 (.string t)).set_ 2 (.slice none 0 0)) Tryz.underlying41 rfl (by kernel_rfl))) rfl ?_
      exact ⟨es', HPP.out, by rw [hrb]; exact ((HBE.out.setCell (p := ⟨rb, 0, none⟩) (Nat.le_refl rb) _).setCell (p := ⟨rb, 1, none⟩) (Nat.le_refl rb) _).setCell (p := ⟨rb, 2, none⟩) (Nat.le_refl rb) _, .inr ⟨hio, v, T, rfl, hT⟩⟩
end Go.Proofs.YtgphjnhbheimiaaGreatDoor
