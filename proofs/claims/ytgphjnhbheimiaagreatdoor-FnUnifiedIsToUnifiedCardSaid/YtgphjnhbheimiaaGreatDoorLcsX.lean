/-
  Pieces trimmed so that no two overlap: plain theory, no program in sight. No condition.
-/
import Derived.Test.YtgphjnhbheimiaaGreatDoorPlL
namespace Go.Proofs.YtgphjnhbheimiaaGreatDoor
set_option linter.unusedVariables false

/-- q is a part of the piece p -/
def Part (q p : Pc) : Prop := 0 < q.l ∧ ∃ k, q.x = p.x + k ∧ q.y = p.y + k ∧ k + q.l ≤ p.l
theorem Part.refl {p : Pc} (h : 0 < p.l) : Part p p := ⟨h, 0, rfl, rfl, by omega⟩
theorem Part.trans {a b c : Pc} (h : Part a b) (k : Part b c) : Part a c := by
  obtain ⟨h1, x, h2, h3, h4⟩ := h
  obtain ⟨k1, y, k2, k3, k4⟩ := k
  exact ⟨h1, x + y, by omega, by omega, by omega⟩
theorem Part.ok {E : EQT} {q p : Pc} (h : Part q p) (k : p.ok E) : q.ok E := by
  obtain ⟨h1, x, h2, h3, h4⟩ := h
  refine ⟨h1, fun i hi => ?_⟩
  have := k.2 (x + i) (by omega)
  rw [show p.x + (x + i) = q.x + i by omega, show p.y + (x + i) = q.y + i by omega] at this
  exact this
theorem Part.apart {e p q : Pc} (h : Part q p) (k : Apart e p) : Apart e q := by
  obtain ⟨h1, x, h2, h3, h4⟩ := h
  rcases k with ⟨k1, k2⟩ | ⟨k1, k2⟩
  · exact .inl ⟨by omega, by omega⟩
  · exact .inr ⟨by omega, by omega⟩
/-- a piece's bounds -/
def Inb (N M : Nat) (p : Pc) : Prop := p.x + p.l ≤ N ∧ p.y + p.l ≤ M
theorem Part.inb {N M : Nat} {q p : Pc} (h : Part q p) (k : Inb N M p) : Inb N M q := by
  obtain ⟨h1, x, h2, h3, h4⟩ := h
  exact ⟨by have := k.1; omega, by have := k.2; omega⟩
/-- what overlap's answer means -/
def OvOut (e p : Pc) (d X Y L : Int) : Prop := (d = 0 ∧ L ≤ 0) ∨ (d = 3) ∨ ((d = 1 ∨ d = 2) ∧ ∃ q : Pc, X = (q.x : Int) ∧ Y = (q.y : Int) ∧ L = (q.l : Int) ∧ Part q p ∧ Apart e q)
/-- the numbers of overlap: each of its ways out keeps the meaning -/
theorem ov_part {e p : Pc} {X Y L : Int} {k l : Nat} (h : 0 < l) (h1 : k + l ≤ p.l) (hX : X = p.x + k) (hY : Y = p.y + k) (hL : L = l) (hA : (e.x + e.l ≤ p.x + k ∧ e.y + e.l ≤ p.y + k) ∨ (p.x + k + l ≤ e.x ∧ p.y + k + l ≤ e.y)) :
    ∃ q : Pc, X = (q.x : Int) ∧ Y = (q.y : Int) ∧ L = (q.l : Int) ∧ Part q p ∧ Apart e q :=
  ⟨⟨p.x + k, p.y + k, l⟩, by rw [hX]; push_cast; rfl, by rw [hY]; push_cast; rfl, hL, ⟨h, k, rfl, rfl, h1⟩, hA⟩
/-- what is kept so far -/
structure Kept2 (E : EQT) (N M : Nat) (ts : List Pc) : Prop where
  all : ∀ p ∈ ts, p.ok E ∧ Inb N M p
  apart : ts.Pairwise Apart
theorem Kept2.one {E : EQT} {N M : Nat} {p : Pc} (h : p.ok E) (hb : Inb N M p) : Kept2 E N M [p] :=
  ⟨fun q hq => by simp at hq; subst hq; exact ⟨h, hb⟩, by simp⟩
theorem Kept2.snoc {E : EQT} {N M : Nat} {ts : List Pc} {q : Pc} (h : Kept2 E N M ts) (hq : q.ok E) (hb : Inb N M q) (ha : ∀ p ∈ ts, Apart p q) : Kept2 E N M (ts ++ [q]) :=
  ⟨fun p hp => by
    rcases List.mem_append.1 hp with hp | hp
    · exact h.all p hp
    · simp at hp; subst hp; exact ⟨hq, hb⟩,
   List.pairwise_append.2 ⟨h.apart, by simp, fun p hp r hr => by simp at hr; subst hr; exact ha p hp⟩⟩
theorem Kept2.good {E : EQT} {N M : Nat} {ts : List Pc} (h : Kept2 E N M ts) : Good E 0 0 N M ts :=
  ⟨fun p hp => ⟨(h.all p hp).1, Nat.zero_le _, Nat.zero_le _, (h.all p hp).2.1, (h.all p hp).2.2⟩, h.apart⟩
/-- sorted by where they begin, the kept pieces are a chain -/
theorem Kept2.chain {E : EQT} {N M : Nat} {ts us : List Pc} (h : Kept2 E N M ts) (hp : us.Perm ts) (hs : us.Pairwise fun p q => p.x ≤ q.x) : Ch E 0 0 us N M :=
  (h.good.perm hp.symm).chain hs ⟨Nat.zero_le _, Nat.zero_le _⟩
/-- the order of (lcs).sort -/
def ltS (p q : Pc) : Bool := if p.x = q.x then decide (q.l < p.l) else decide (p.x < q.x)
/-- the order of fix's sort -/
def ltL (p q : Pc) : Bool := decide (q.l < p.l)
theorem ltS_le {p q : Pc} (h : ltS q p = false) : p.x ≤ q.x := by
  unfold ltS at h
  by_cases e : q.x = p.x
  · omega
  · rw [if_neg e] at h
    have := of_decide_eq_false h
    omega
end Go.Proofs.YtgphjnhbheimiaaGreatDoor
