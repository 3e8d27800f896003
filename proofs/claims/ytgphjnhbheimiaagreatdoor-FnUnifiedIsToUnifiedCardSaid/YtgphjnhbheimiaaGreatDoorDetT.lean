/-
  What the road from both ends leaves, as a relation that leaves no choice. No program in sight. No condition.
-/
import Derived.Test.YtgphjnhbheimiaaGreatDoorLcsU
import Derived.Test.YtgphjnhbheimiaaGreatDoorLcsV0
import Derived.Test.YtgphjnhbheimiaaGreatDoorPlL
namespace Go.Proofs.YtgphjnhbheimiaaGreatDoor
set_option linter.unusedVariables false

/-! ### fix -/
def ovD (ex ey el x y l : Int) : Int × Int × Int × Int := if x + l ≤ ex ∧ y + l ≤ ey then (1, x, y, l) else if ex + el ≤ x ∧ ey + el ≤ y then (2, x, y, l) else (3, x, y, l)
def ovC4 (ex ey el x y l : Int) : Int × Int × Int × Int :=
  if ey ≤ y ∧ y < ey + el then (if l - (ey + el - y) ≤ 0 then (0, x, y, l - (ey + el - y)) else ovD ex ey el (x + (ey + el - y)) (y + (ey + el - y)) (l - (ey + el - y))) else ovD ex ey el x y l
def ovC3 (ex ey el x y l : Int) : Int × Int × Int × Int :=
  if y ≤ ey ∧ ey < y + l then (if l - (y + l - ey) ≤ 0 then (0, x, y, l - (y + l - ey)) else ovC4 ex ey el x y (l - (y + l - ey))) else ovC4 ex ey el x y l
def ovC2 (ex ey el x y l : Int) : Int × Int × Int × Int :=
  if ex ≤ x ∧ x < ex + el then (if l - (ex + el - x) ≤ 0 then (0, x, y, l - (ex + el - x)) else ovC3 ex ey el (x + (ex + el - x)) (y + (ex + el - x)) (l - (ex + el - x))) else ovC3 ex ey el x y l
/-- overlap's answer -/
def ovC1 (ex ey el x y l : Int) : Int × Int × Int × Int :=
  if x ≤ ex ∧ ex < x + l then (if l - (x + l - ex) ≤ 0 then (0, x, y, l - (x + l - ex)) else ovC2 ex ey el x y (l - (x + l - ex))) else ovC2 ex ey el x y l
/-- a piece trimmed along those that are kept; none if nothing is left of it -/
def inY : List Pc → Pc → Option Pc
  | [], x => some x
  | e :: l, x =>
    if (ovC1 e.x e.y e.l x.x x.y x.l).1 = 1 ∨ (ovC1 e.x e.y e.l x.x x.y x.l).1 = 2
    then inY l ⟨(ovC1 e.x e.y e.l x.x x.y x.l).2.1.toNat, (ovC1 e.x e.y e.l x.x x.y x.l).2.2.1.toNat, (ovC1 e.x e.y e.l x.x x.y x.l).2.2.2.toNat⟩ else none
def stepY (ts : List Pc) (p : Pc) : List Pc := match inY ts p with
  | some x => ts ++ [x]
  | none => ts
def fixT (us : List Pc) : Nat → List Pc
  | 0 => us.take 1
  | i + 1 => stepY (fixT us i) (us.getD (i + 1) default)
def fixF (ps : List Pc) : List Pc := if ps = [] then [] else srt ltS (fixT (srt ltL ps) (ps.length - 1))
theorem inY_go {ts : List Pc} {t : Nat} (h : t < ts.length) {x y : Pc} {d X Y L : Int} (ho : ovC1 ts[t].x ts[t].y ts[t].l x.x x.y x.l = (d, X, Y, L)) (hd : d = 1 ∨ d = 2) (hX : X = y.x) (hY : Y = y.y) (hL : L = y.l) : inY (ts.drop t) x = inY (ts.drop (t + 1)) y := by
  rw [List.drop_eq_getElem_cons h]
  simp only [inY, ho, if_pos hd, hX, hY, hL, Int.toNat_natCast]
theorem inY_no {ts : List Pc} {t : Nat} (h : t < ts.length) {x : Pc} {d X Y L : Int} (ho : ovC1 ts[t].x ts[t].y ts[t].l x.x x.y x.l = (d, X, Y, L)) (hd : d = 0 ∨ d = 3) : inY (ts.drop t) x = none := by
  rw [List.drop_eq_getElem_cons h]
  simp only [inY, ho]
  rw [if_neg (by omega)]
theorem stepY_none {ts : List Pc} {p : Pc} (h : inY ts p = none) : stepY ts p = ts := by simp [stepY, h]
theorem stepY_some {ts : List Pc} {p x : Pc} (h : inY ts p = some x) : stepY ts p = ts ++ [x] := by simp [stepY, h]

/-! ### twolcs -/
def ZB (E : EQT) (N M df j u : Nat) : Prop := 0 < u ∧ 1 ≤ df ∧ 1 ≤ j ∧ fwd E N M (df - 1) (j - 1) + 1 = u
def ZC (E : EQT) (N M df j u v : Nat) : Prop := 0 < v ∧ 1 ≤ df ∧ j + 1 ≤ df ∧ fwd E N M (df - 1) j = u
def ZE (E : EQT) (N M db j' x : Nat) : Prop := 1 ≤ db ∧ 1 ≤ j' ∧ fwd (rev E N M) N M (db - 1) (j' - 1) + (x + 1) = N
def ZF (E : EQT) (N M db j' x : Nat) : Prop := 1 ≤ db ∧ j' + 1 ≤ db ∧ fwd (rev E N M) N M (db - 1) j' + x = N
/-- both ways, sorted -/
def PairFB (E : EQT) (N M df jf x y db jb u v : Nat) (us : List Pc) : Prop := ∃ ps qs, FwE E N M df jf x y [] ps ∧ BwE E N M db jb u v [] qs ∧ us = srt ltS (ps ++ qs)
def PairBF (E : EQT) (N M df jf x y db jb u v : Nat) (us : List Pc) : Prop := ∃ ps qs, BwE E N M db jb u v [] ps ∧ FwE E N M df jf x y [] qs ∧ us = srt ltS (ps ++ qs)
def PairBG (E : EQT) (N M db jb u v : Nat) (us : List Pc) : Prop := ∃ ps qs T k, BwE E N M db jb u v [] ps ∧ Short E u v T ∧ 2 * k + v = u + T ∧ FwE E u v T k u v [] qs ∧ us = srt ltS (ps ++ qs)
section
variable {E : EQT} {N M : Nat}
theorem PairFB.uniq {df jf x y db jb u v : Nat} {us us' : List Pc} (h : PairFB E N M df jf x y db jb u v us) (h' : PairFB E N M df jf x y db jb u v us') : us = us' := by
  obtain ⟨ps, qs, a, b, rfl⟩ := h
  obtain ⟨ps', qs', a', b', rfl⟩ := h'
  rw [a.uniq _ a', b.uniq _ b']
theorem PairBF.uniq {df jf x y db jb u v : Nat} {us us' : List Pc} (h : PairBF E N M df jf x y db jb u v us) (h' : PairBF E N M df jf x y db jb u v us') : us = us' := by
  obtain ⟨ps, qs, a, b, rfl⟩ := h
  obtain ⟨ps', qs', a', b', rfl⟩ := h'
  rw [a.uniq _ a', b.uniq _ b']
theorem Short.uniq {T T' : Nat} (h : Short E N M T) (h' : Short E N M T') : T = T' := Nat.le_antisymm (h.least _ h'.reach) (h'.least _ h.reach)
theorem PairBG.uniq {db jb u v : Nat} {us us' : List Pc} (h : PairBG E N M db jb u v us) (h' : PairBG E N M db jb u v us') : us = us' := by
  obtain ⟨ps, qs, T, k, a, b, c, d, rfl⟩ := h
  obtain ⟨ps', qs', T', k', a', b', c', d', rfl⟩ := h'
  obtain rfl := Short.uniq b b'
  obtain rfl : k = k' := by omega
  rw [a.uniq _ a', d.uniq _ d']
end
/-- what twolcs leaves -/
def TwR (E : EQT) (N M df db j j' x y u v : Nat) (us : List Pc) : Prop :=
  (x = u → PairFB E N M df j x y db j' u v us) ∧ (¬ x = u →
    (ZB E N M df j u → PairFB E N M (df - 1) (j - 1) (u - 1) v db j' u v us) ∧ (¬ ZB E N M df j u →
      (ZC E N M df j u v → PairFB E N M (df - 1) j u (v - 1) db j' u v us) ∧ (¬ ZC E N M df j u v →
        (u = 0 ∨ v = 0 → BwE E N M db j' u v [] us) ∧ (¬ (u = 0 ∨ v = 0) →
          (x = N ∨ y = M → FwE E N M df j x y [] us) ∧ (¬ (x = N ∨ y = M) →
            (ZE E N M db j' x → PairBF E N M df j x y (db - 1) (j' - 1) (x + 1) y us) ∧ (¬ ZE E N M db j' x →
              (ZF E N M db j' x → PairBF E N M df j x y (db - 1) j' x (y + 1) us) ∧ (¬ ZF E N M db j' x → PairBG E N M db j' u v us)))))))
section
variable {E : EQT} {N M df db j j' x y u v : Nat} {us us' : List Pc}
theorem TwR.mkA (h : x = u) (g : PairFB E N M df j x y db j' u v us) : TwR E N M df db j j' x y u v us := ⟨fun _ => g, fun h' => absurd h h'⟩
theorem TwR.mkB (h1 : ¬ x = u) (h : ZB E N M df j u) (g : PairFB E N M (df - 1) (j - 1) (u - 1) v db j' u v us) : TwR E N M df db j j' x y u v us :=
  ⟨fun h' => absurd h' h1, fun _ => ⟨fun _ => g, fun h' => absurd h h'⟩⟩
theorem TwR.mkC (h1 : ¬ x = u) (h2 : ¬ ZB E N M df j u) (h : ZC E N M df j u v) (g : PairFB E N M (df - 1) j u (v - 1) db j' u v us) : TwR E N M df db j j' x y u v us :=
  ⟨fun h' => absurd h' h1, fun _ => ⟨fun h' => absurd h' h2, fun _ => ⟨fun _ => g, fun h' => absurd h h'⟩⟩⟩
theorem TwR.mkD (h1 : ¬ x = u) (h2 : ¬ ZB E N M df j u) (h3 : ¬ ZC E N M df j u v) (h : u = 0 ∨ v = 0) (g : BwE E N M db j' u v [] us) : TwR E N M df db j j' x y u v us :=
  ⟨fun h' => absurd h' h1, fun _ => ⟨fun h' => absurd h' h2, fun _ => ⟨fun h' => absurd h' h3, fun _ => ⟨fun _ => g, fun h' => absurd h h'⟩⟩⟩⟩
theorem TwR.mkD2 (h1 : ¬ x = u) (h2 : ¬ ZB E N M df j u) (h3 : ¬ ZC E N M df j u v) (h4 : ¬ (u = 0 ∨ v = 0)) (h : x = N ∨ y = M) (g : FwE E N M df j x y [] us) : TwR E N M df db j j' x y u v us :=
  ⟨fun h' => absurd h' h1, fun _ => ⟨fun h' => absurd h' h2, fun _ => ⟨fun h' => absurd h' h3, fun _ => ⟨fun h' => absurd h' h4, fun _ => ⟨fun _ => g, fun h' => absurd h h'⟩⟩⟩⟩⟩
theorem TwR.mkE (h1 : ¬ x = u) (h2 : ¬ ZB E N M df j u) (h3 : ¬ ZC E N M df j u v) (h4 : ¬ (u = 0 ∨ v = 0)) (h5 : ¬ (x = N ∨ y = M)) (h : ZE E N M db j' x) (g : PairBF E N M df j x y (db - 1) (j' - 1) (x + 1) y us) : TwR E N M df db j j' x y u v us :=
  ⟨fun h' => absurd h' h1, fun _ => ⟨fun h' => absurd h' h2, fun _ => ⟨fun h' => absurd h' h3, fun _ => ⟨fun h' => absurd h' h4, fun _ => ⟨fun h' => absurd h' h5, fun _ => ⟨fun _ => g, fun h' => absurd h h'⟩⟩⟩⟩⟩⟩
theorem TwR.mkF (h1 : ¬ x = u) (h2 : ¬ ZB E N M df j u) (h3 : ¬ ZC E N M df j u v) (h4 : ¬ (u = 0 ∨ v = 0)) (h5 : ¬ (x = N ∨ y = M)) (h6 : ¬ ZE E N M db j' x) (h : ZF E N M db j' x) (g : PairBF E N M df j x y (db - 1) j' x (y + 1) us) : TwR E N M df db j j' x y u v us :=
  ⟨fun h' => absurd h' h1, fun _ => ⟨fun h' => absurd h' h2, fun _ => ⟨fun h' => absurd h' h3, fun _ => ⟨fun h' => absurd h' h4, fun _ => ⟨fun h' => absurd h' h5, fun _ => ⟨fun h' => absurd h' h6, fun _ => ⟨fun _ => g, fun h' => absurd h h'⟩⟩⟩⟩⟩⟩⟩
theorem TwR.mkG (h1 : ¬ x = u) (h2 : ¬ ZB E N M df j u) (h3 : ¬ ZC E N M df j u v) (h4 : ¬ (u = 0 ∨ v = 0)) (h5 : ¬ (x = N ∨ y = M)) (h6 : ¬ ZE E N M db j' x) (h7 : ¬ ZF E N M db j' x) (g : PairBG E N M db j' u v us) : TwR E N M df db j j' x y u v us :=
  ⟨fun h' => absurd h' h1, fun _ => ⟨fun h' => absurd h' h2, fun _ => ⟨fun h' => absurd h' h3, fun _ => ⟨fun h' => absurd h' h4, fun _ => ⟨fun h' => absurd h' h5, fun _ => ⟨fun h' => absurd h' h6, fun _ => ⟨fun h' => absurd h' h7, fun _ => g⟩⟩⟩⟩⟩⟩⟩
theorem TwR.uniq (h : TwR E N M df db j j' x y u v us) (h' : TwR E N M df db j j' x y u v us') : us = us' := by
  obtain ⟨a, b⟩ := h
  obtain ⟨a', b'⟩ := h'
  by_cases c1 : x = u
  · exact (a c1).uniq (a' c1)
  · obtain ⟨a, b⟩ := b c1
    obtain ⟨a', b'⟩ := b' c1
    by_cases c2 : ZB E N M df j u
    · exact (a c2).uniq (a' c2)
    · obtain ⟨a, b⟩ := b c2
      obtain ⟨a', b'⟩ := b' c2
      by_cases c3 : ZC E N M df j u v
      · exact (a c3).uniq (a' c3)
      · obtain ⟨a, b⟩ := b c3
        obtain ⟨a', b'⟩ := b' c3
        by_cases c4 : u = 0 ∨ v = 0
        · exact (a c4).uniq _ (a' c4)
        · obtain ⟨a, b⟩ := b c4
          obtain ⟨a', b'⟩ := b' c4
          by_cases c5 : x = N ∨ y = M
          · exact (a c5).uniq _ (a' c5)
          · obtain ⟨a, b⟩ := b c5
            obtain ⟨a', b'⟩ := b' c5
            by_cases c6 : ZE E N M db j' x
            · exact (a c6).uniq (a' c6)
            · obtain ⟨a, b⟩ := b c6
              obtain ⟨a', b'⟩ := b' c6
              by_cases c7 : ZF E N M db j' x
              · exact (a c7).uniq (a' c7)
              · exact (b c7).uniq (b' c7)
end
def TwQ (E : EQT) (N M df db j j' : Nat) (us : List Pc) : Prop := ∃ x y u v n, Tw E N M df db j j' x y u v n ∧ TwR E N M df db j j' x y u v us
theorem TwQ.uniq {E : EQT} {N M df db j j' : Nat} {us us' : List Pc} (h : TwQ E N M df db j j' us) (h' : TwQ E N M df db j j' us') : us = us' := by
  obtain ⟨x, y, u, v, n, a, b⟩ := h
  obtain ⟨x', y', u', v', n', a', b'⟩ := h'
  obtain rfl : x = x' := a.hx.symm.trans a'.hx
  obtain rfl : y = y' := a.hy.symm.trans a'.hy
  obtain rfl : u = u' := a.hu.symm.trans a'.hu
  obtain rfl : v = v' := a.hv.symm.trans a'.hv
  exact b.uniq b'
/-- what is left where the limit is reached -/
def LimR (E : EQT) (N M lim : Nat) (ps : List Pc) : Prop :=
  ∃ (jf jb : Nat) (p q : List Pc), (selF E N M lim (lim + 1)).1 = 2 * (jf : Int) - (lim : Int) ∧ (selB E N M lim (selF E N M lim (lim + 1)).1 (lim + 1)).1 = (lim : Int) - 2 * (jb : Int) ∧
    FwE E N M lim jf (fwd E N M lim jf) (fy E N M lim jf) [] p ∧ BwE E N M lim jb (N - fwd (rev E N M) N M lim jb) (M - fy (rev E N M) N M lim jb) [] q ∧ ps = fixF (p ++ q)
theorem LimR.uniq {E : EQT} {N M lim : Nat} {ps ps' : List Pc} (h : LimR E N M lim ps) (h' : LimR E N M lim ps') : ps = ps' := by
  obtain ⟨jf, jb, p, q, a, b, c, d, rfl⟩ := h
  obtain ⟨jf', jb', p', q', a', b', c', d', rfl⟩ := h'
  obtain rfl : jf = jf' := by omega
  obtain rfl : jb = jb' := by omega
  rw [c.uniq _ c', d.uniq _ d']
/-- what the road from both ends leaves -/
def TwoS (E : EQT) (N M lim : Nat) (ps : List Pc) : Prop :=
  ∀ T, Short E N M T → (T < 2 * lim → ∃ j j', Over E N M ((T + 1) / 2) (T / 2) j j' ∧ TDsel E N M ((T + 1) / 2) (T / 2) j ∧ TwQ E N M ((T + 1) / 2) (T / 2) j j' ps) ∧ (2 * lim ≤ T → LimR E N M lim ps)
theorem TwoS.uniq {E : EQT} {N M lim : Nat} {ps ps' : List Pc} (h : TwoS E N M lim ps) (h' : TwoS E N M lim ps') : ps = ps' := by
  obtain ⟨T, hT⟩ := short_ex E N M
  obtain ⟨a, b⟩ := h T hT
  obtain ⟨a', b'⟩ := h' T hT
  rcases Nat.lt_or_ge T (2 * lim) with c | c
  · obtain ⟨j, k, o, s, r⟩ := a c
    obtain ⟨j', k', o', s', r'⟩ := a' c
    obtain rfl := s.uniq s'
    obtain rfl : k = k' := by have := o.2.2.1; have := o'.2.2.1; omega
    exact r.uniq r'
  · exact (b c).uniq (b' c)
/-- two levels that meet -/
theorem TwoS.of {E : EQT} {N M lim T df db j j' : Nat} {ps : List Pc} (hT : Short E N M T) (hl : T < 2 * lim) (h1 : df = (T + 1) / 2) (h2 : db = T / 2) (ho : Over E N M df db j j') (hs : TDsel E N M df db j) (hq : TwQ E N M df db j j' ps) : TwoS E N M lim ps := by
  intro T' hT'
  obtain rfl := Short.uniq hT hT'
  subst h1 h2
  exact ⟨fun _ => ⟨j, j', ho, hs, hq⟩, fun h => by omega⟩
theorem TwoS.lim {E : EQT} {N M lim T : Nat} {ps : List Pc} (hT : Short E N M T) (hl : 2 * lim ≤ T) (h : LimR E N M lim ps) : TwoS E N M lim ps := by
  intro T' hT'
  obtain rfl := Short.uniq hT hT'
  exact ⟨fun h => by omega, fun _ => h⟩
end Go.Proofs.YtgphjnhbheimiaaGreatDoor
