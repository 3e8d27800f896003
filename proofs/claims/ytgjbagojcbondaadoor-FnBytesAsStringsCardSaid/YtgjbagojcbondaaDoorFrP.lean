/-
  What a call leaves as it was: all old blocks but those of S. No program in sight.
-/
import Derived.Test.YtgjbagojcbondaaDoorKit
namespace Go.Proofs.YtgjbagojcbondaaDoor
set_option linter.unusedVariables false
open Go.RowKit

structure Fr (S : Nat → Prop) (w w' : World) : Prop where
  os : w'.os = w.os
  tape : w'.tape = w.tape
  output : w'.output = w.output
  size : w.heap.size ≤ w'.heap.size
  block : ∀ k, k < w.heap.size → ¬ S k → w'.heap[k]? = w.heap[k]?

section
variable {S : Nat → Prop} {a w w' : World}
theorem Fr.refl (S : Nat → Prop) (w : World) : Fr S w w := ⟨rfl, rfl, rfl, Nat.le_refl _, fun _ _ _ => rfl⟩
theorem Fr.trans (h : Fr S a w) (k : Fr S w w') : Fr S a w' :=
  ⟨k.os.trans h.os, k.tape.trans h.tape, k.output.trans h.output, Nat.le_trans h.size k.size, fun i hi hs => (k.block i (Nat.lt_of_lt_of_le hi h.size) hs).trans (h.block i hi hs)⟩
theorem Fr.mono {S' : Nat → Prop} (h : Fr S w w') (hs : ∀ k, k < w.heap.size → S k → S' k) : Fr S' w w' :=
  ⟨h.os, h.tape, h.output, h.size, fun k hk hn => h.block k hk fun hk' => hn (hs k hk hk')⟩
theorem Fr.drewN (h : Fr S a w) (n : Nat) : Fr S a (w.drewN n) := ⟨h.os, h.tape, h.output, h.size, h.block⟩
theorem Fr.alloc (h : Fr S a w) (o : Obj) : Fr S a (w.alloc o) :=
  h.trans ⟨rfl, rfl, rfl, by simp, fun k hk _ => Below.heap_alloc _ _ _ hk⟩
theorem Fr.setCell (h : Fr S a w) {p : Addr} (hp : S p.block ∨ a.heap.size ≤ p.block) (u : Value) : Fr S a (w.setCell p u) :=
  ⟨h.os, h.tape, h.output, by simpa [World.setCell] using h.size, fun k hk hs => by
    rw [Below.heap_setCell _ _ _ _ (fun e => by
      subst e
      rcases hp with hp | hp
      · exact hs hp
      · omega)]
    exact h.block k hk hs⟩
theorem Fr.grown {row : Option Nat} (h : Fr S a w) (hg : w.grownBy w' row) (hr : ∀ k, row = some k → S k ∨ a.heap.size ≤ k) : Fr S a w' :=
  ⟨hg.os.trans h.os, hg.tape.trans h.tape, hg.output.trans h.output, Nat.le_trans h.size hg.size, fun k hk hs => (hg.block k (Nat.lt_of_lt_of_le hk h.size) (fun e => by
    rcases hr k e.symm with h' | h'
    · exact hs h'
    · omega)).trans (h.block k hk hs)⟩
theorem Fr.of_below {B : Nat} (h : Below B w w') (hB : w.heap.size ≤ B) : Fr S w w' :=
  ⟨h.os, h.tape, h.output, h.size, fun k hk _ => h.block k (by omega)⟩
theorem Fr.below {B : Nat} (h : Fr S w w') (hs : ∀ k, S k → B ≤ k) (hB : B ≤ w.heap.size) : Below B w w' :=
  ⟨h.os, h.tape, h.output, h.size, fun k hk => h.block k (by omega) fun hk' => by have := hs k hk'; omega⟩
theorem Blk.fr {g t : Nat} {cs : Array Value} (h : Blk w g t cs) (hf : Fr S w w') (hg : ¬ S g) : Blk w' g t cs := (hf.block g h.lt hg).trans h
end
end Go.Proofs.YtgjbagojcbondaaDoor
