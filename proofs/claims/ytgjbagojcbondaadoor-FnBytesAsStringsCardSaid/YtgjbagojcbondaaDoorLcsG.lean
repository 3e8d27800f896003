/-
  The graph of lcs in memory: its cells and its two label tables; what a call on it may touch. No program is walked. No condition.
-/
import Derived.Test.YtgjbagojcbondaaDoorTabS
import Derived.Test.YtgjbagojcbondaaDoorLcsQ
namespace Go.Proofs.YtgjbagojcbondaaDoor
set_option linter.unusedVariables false
open Go.RowKit

section
variable {w w' : World} {base : Nat} {e : TypeId} {size : Nat} {v : Value} {n : Nat} {xs : List Value}
theorem own_fr {S : Nat → Prop} (h : w.ownsRow base e size v n xs) (hf : Fr S w w') (hs : ∀ g, v.ownBlock = some g → ¬ S g) : w'.ownsRow base e size v n xs := by
  have hl := h.lt
  refine ⟨h.1, ?_⟩
  rcases h.2 with hn | ⟨g, cap, cur, rfl, hb, hg, rest⟩
  · exact .inl hn
  · exact .inr ⟨g, cap, cur, rfl, hb, (hf.block g (hl g rfl).2 (hs g rfl)).trans hg, rest⟩
theorem own_below {B : Nat} (h : w.ownsRow base e size v n xs) (hf : Below B w w') (hB : w.heap.size ≤ B) : w'.ownsRow base e size v n xs :=
  own_fr (S := fun _ => False) h (Fr.of_below hf hB) (fun _ _ h => h)
end

/-- a block of pieces -/
def isD (w : World) (k : Nat) : Prop := ∃ cs, Blk w k 89 cs
/-- what a call on the graph leaves as it was: all old blocks below B, and all blocks of pieces -/
structure Gr (B : Nat) (w w' : World) : Prop where
  os : w'.os = w.os
  tape : w'.tape = w.tape
  output : w'.output = w.output
  size : w.heap.size ≤ w'.heap.size
  block : ∀ k, k < w.heap.size → k < B ∨ isD w k → w'.heap[k]? = w.heap[k]?
section
variable {B : Nat} {a w w' : World}
theorem Gr.refl (B : Nat) (w : World) : Gr B w w := ⟨rfl, rfl, rfl, Nat.le_refl _, fun _ _ _ => rfl⟩
theorem Gr.isD (h : Gr B w w') {k : Nat} (hk : isD w k) : isD w' k := by
  obtain ⟨cs, hc⟩ := hk
  exact ⟨cs, (h.block k hc.lt (.inr ⟨cs, hc⟩)).trans hc⟩
theorem Gr.trans (h : Gr B a w) (k : Gr B w w') : Gr B a w' :=
  ⟨k.os.trans h.os, k.tape.trans h.tape, k.output.trans h.output, Nat.le_trans h.size k.size, fun i hi hs => (k.block i (Nat.lt_of_lt_of_le hi h.size) (hs.imp id h.isD)).trans (h.block i hi hs)⟩
theorem Gr.of_below {B' : Nat} (h : Below B' w w') (hB : w.heap.size ≤ B') : Gr B w w' := ⟨h.os, h.tape, h.output, h.size, fun k hk _ => h.block k (by omega)⟩
theorem Gr.below (h : Gr B w w') (hB : B ≤ w.heap.size) : Below B w w' := ⟨h.os, h.tape, h.output, h.size, fun k hk => h.block k (by omega) (.inl hk)⟩
theorem Gr.of_fr {S : Nat → Prop} (h : Fr S w w') (hs : ∀ k, k < w.heap.size → S k → B ≤ k ∧ ¬ Proofs.YtgjbagojcbondaaDoor.isD w k) : Gr B w w' :=
  ⟨h.os, h.tape, h.output, h.size, fun k hk hc => h.block k hk fun hS => by
    have := hs k hk hS
    rcases hc with hc | hc
    · omega
    · exact this.2 hc⟩
theorem Blk.isD_not {g t : Nat} {cs : Array Value} (h : Blk w g t cs) (ht : t ≠ 89) : ¬ isD w g := by
  rintro ⟨cs', h'⟩
  exact Blk.ne_ h h' ht rfl
theorem own_gr {base size n : Nat} {v : Value} {xs : List Value} (h : w.ownsRow base 89 size v n xs) (hf : Gr B w w') : w'.ownsRow base 89 size v n xs := by
  have hl := h.lt
  refine ⟨h.1, ?_⟩
  rcases h.2 with hn | ⟨g, cap, cur, rfl, hb, hg, rest⟩
  · exact .inl hn
  · exact .inr ⟨g, cap, cur, rfl, hb, (hf.block g (hl g rfl).2 (.inr ⟨cur, hg⟩)).trans hg, rest⟩
theorem Gr.mono {B' : Nat} (h : Gr B w w') (hB : B' ≤ B) : Gr B' w w' := ⟨h.os, h.tape, h.output, h.size, fun k hk hc => h.block k hk (hc.imp (fun h => by omega) id)⟩
end

/-! ### the tables -/
theorem rowsTo_len (rows : List LRow) (d : Nat) (hd : d ≤ rows.length) : d < (rowsTo rows d).length ∧ (rowsTo rows d).length = max rows.length (d + 1) := by
  unfold rowsTo
  split
  · exact ⟨by omega, by omega⟩
  · simp; omega
theorem rowsTo_at (rows : List LRow) (d d' : Nat) (hd : d ≤ rows.length) : rowAt (rowsTo rows d) d' = rowAt rows d' := by
  unfold rowsTo
  split
  · rfl
  · unfold rowAt List.getD
    rcases Nat.lt_or_ge d' rows.length with h | h
    · rw [List.getElem?_append_left h]
    · rw [List.getElem?_append_right h, List.getElem?_eq_none h]
      cases hq : d' - rows.length with
      | zero => rfl
      | succ q => rfl
theorem rowsTo_blks (rows : List LRow) (d : Nat) : rowBlks (rowsTo rows d) = rowBlks rows := by
  unfold rowsTo
  split
  · rfl
  · simp [rowBlks]
theorem setRow_blks (rows : List LRow) (d j : Nat) (x : Int) (b : Nat) (hd : d ≤ rows.length) : rowBlks (setRow rows d j x b) = rowBlks rows ∨ (rowBlks (setRow rows d j x b)).Perm (b :: rowBlks rows) := by
  unfold setRow
  by_cases h : (rowAt rows d).2 = []
  · right
    rw [if_pos h]
    have hl := (rowsTo_len rows d hd).1
    have h1 := rowsTo_at rows d d hd
    rw [rowAt_eq hl] at h1
    have := rowBlks_set_new (rowsTo rows d) d hl b ((List.replicate (d + 1) 0).set j x) (by rw [h1]; exact h) (by
      intro h2
      have := congrArg List.length h2
      simp at this)
    rw [rowsTo_blks] at this
    exact this
  · left
    rw [if_neg h]
    have hl : d < rows.length := by
      rcases Nat.lt_or_ge d rows.length with h2 | h2
      · exact h2
      · exfalso
        apply h
        simp [rowAt, List.getD, h2]
    rw [rowAt_eq hl] at h ⊢
    exact rowBlks_set_old rows d hl _ h (by simpa using h)
theorem setRow_len (rows : List LRow) (d j : Nat) (x : Int) (b : Nat) (hd : d ≤ rows.length) : (setRow rows d j x b).length = max rows.length (d + 1) ∨ ((setRow rows d j x b).length = rows.length ∧ d < rows.length) := by
  unfold setRow
  split
  · left
    rw [List.length_set]
    exact (rowsTo_len rows d hd).2
  · rename_i h
    right
    rw [List.length_set]
    refine ⟨rfl, ?_⟩
    rcases Nat.lt_or_ge d rows.length with h2 | h2
    · exact h2
    · exfalso
      apply h
      simp [rowAt, List.getD, h2]
/-- each row is nil or has one number more than its level -/
def Shape (rows : List LRow) : Prop := ∀ d, (rowAt rows d).2 = [] ∨ (rowAt rows d).2.length = d + 1
theorem rowAt_set (l : List LRow) (d d' : Nat) (r : LRow) (hd : d < l.length) : rowAt (l.set d r) d' = if d = d' then r else rowAt l d' := by
  unfold rowAt
  by_cases h : d = d'
  · subst h
    simp [List.getD, hd]
  · rw [if_neg h]
    simp [List.getD, List.getElem?_set_ne h]
theorem setRow_at (rows : List LRow) (d j d' : Nat) (x : Int) (b : Nat) (hd : d ≤ rows.length) : rowAt (setRow rows d j x b) d' =
   if d = d' then (if (rowAt rows d).2 = [] then (b, (List.replicate (d + 1) 0).set j x) else ((rowAt rows d).1, (rowAt rows d).2.set j x)) else rowAt rows d' := by
  unfold setRow
  by_cases h : (rowAt rows d).2 = []
  · rw [if_pos h, if_pos h, rowAt_set _ _ _ _ (rowsTo_len rows d hd).1, rowsTo_at rows d d' hd]
  · rw [if_neg h, if_neg h]
    have hl : d < rows.length := by
      rcases Nat.lt_or_ge d rows.length with h2 | h2
      · exact h2
      · exfalso
        apply h
        simp [rowAt, List.getD, h2]
    rw [rowAt_set _ _ _ _ hl]
theorem Shape.set {rows : List LRow} (h : Shape rows) (d j : Nat) (x : Int) (b : Nat) (hd : d ≤ rows.length) : Shape (setRow rows d j x b) := by
  intro d'
  rw [setRow_at rows d j d' x b hd]
  by_cases h1 : d = d'
  · subst h1
    rw [if_pos rfl]
    right
    split
    · simp
    · rename_i h2
      simpa using (h d).resolve_left h2
  · rw [if_neg h1]
    exact h d'
/-- number j of row d is x -/
def Lab (rows : List LRow) (d j : Nat) (x : Int) : Prop := d < rows.length ∧ j < (rowAt rows d).2.length ∧ ix (rowAt rows d).2 j = x
theorem lab_new {rows : List LRow} {d j : Nat} (hs : Shape rows) (x : Int) (b : Nat) (hd : d ≤ rows.length) (hj : j ≤ d) : Lab (setRow rows d j x b) d j x := by
  have hl := setRow_len rows d j x b hd
  refine ⟨by omega, ?_, ?_⟩
  · rw [setRow_at rows d j d x b hd, if_pos rfl]
    split
    · simp; omega
    · rename_i h2
      have := (hs d).resolve_left h2
      simp; omega
  · rw [setRow_at rows d j d x b hd, if_pos rfl]
    split
    · simp [ix, List.getD]
      rw [List.getElem?_set_self (by simp; omega)]
      rfl
    · rename_i h2
      have := (hs d).resolve_left h2
      simp [ix, List.getD]
      rw [List.getElem?_set_self (by omega)]
      rfl
theorem lab_old {rows : List LRow} {d j d' j' : Nat} {x x' : Int} {b : Nat} (h : Lab rows d' j' x') (hd : d ≤ rows.length) (hne : ¬ (d = d' ∧ j = j')) : Lab (setRow rows d j x b) d' j' x' := by
  obtain ⟨h1, h2, h3⟩ := h
  have hl := setRow_len rows d j x b hd
  by_cases h4 : d = d'
  · subst h4
    have h5 : (rowAt rows d).2 ≠ [] := by
      intro h
      rw [h] at h2
      simp at h2
    have h6 : j ≠ j' := fun h => hne ⟨rfl, h⟩
    refine ⟨by omega, ?_, ?_⟩
    · rw [setRow_at rows d j d x b hd, if_pos rfl, if_neg h5]
      simpa using h2
    · rw [setRow_at rows d j d x b hd, if_pos rfl, if_neg h5]
      simp only [ix, List.getD] at h3 ⊢
      rw [List.getElem?_set_ne h6]
      exact h3
  · refine ⟨by omega, ?_, ?_⟩
    · rw [setRow_at rows d j d' x b hd, if_neg h4]; exact h2
    · rw [setRow_at rows d j d' x b hd, if_neg h4]; exact h3

section
variable {w w' : World} {B : Nat} {v : Value} {rows : List LRow}
theorem Tab.fr {S : Nat → Prop} (h : Tab w B v rows) (hf : Fr S w w') (h1 : ∀ g, v.ownBlock = some g → ¬ S g) (h2 : ∀ k, k ∈ rowBlks rows → ¬ S k) : Tab w' B v rows :=
  ⟨own_fr h.own hf h1, fun r hr hne => ⟨(h.row r hr hne).1, (h.row r hr hne).2.fr hf (h2 _ (mem_rowBlks hr hne))⟩⟩
theorem Tab.below {B' : Nat} (h : Tab w B v rows) (hf : Below B' w w') (hB : w.heap.size ≤ B') : Tab w' B v rows :=
  h.fr (S := fun _ => False) (Fr.of_below hf hB) (fun _ _ h => h) (fun _ _ h => h)
theorem Tab.blk (h : Tab w B v rows) {k : Nat} (hk : k ∈ rowBlks rows) : B ≤ k ∧ ∃ zs, Blk w k 3 zs := by
  obtain ⟨r, hr, hne, rfl⟩ := of_rowBlks hk
  exact ⟨(h.row r hr hne).1, _, (h.row r hr hne).2⟩
end

/-- what does not turn of a graph -/
structure GK where
  sq : Value
  lim : Int
  ux : Int
  uy : Int
  dl : Int
def gcells (K : GK) (vf vb : Value) : Array Value := #[K.sq, vf, vb, .int .i64 K.lim, .int .i64 0, .int .i64 0, .int .i64 K.ux, .int .i64 K.uy, .int .i64 K.dl]
/-- the graph K lies in block g, its tables from block B on -/
structure GSt (w : World) (B g : Nat) (K : GK) (vf vb : Value) (rf rb : List LRow) : Prop where
  blk : Blk w g 79 (gcells K vf vb)
  tf : Tab w B vf rf
  tb : Tab w B vb rb
  hg : B ≤ g
  nd : (rowBlks rf ++ rowBlks rb).Nodup
  vne : ∀ h, vf.ownBlock = some h → vb.ownBlock ≠ some h
  sf : Shape rf
  sb : Shape rb
  lf : rf.length ≤ 2002
  lb : rb.length ≤ 2002
section
variable {w w' : World} {B g : Nat} {K : GK} {vf vb : Value} {rf rb : List LRow}
theorem GSt.below {B' : Nat} (h : GSt w B g K vf vb rf rb) (hf : Below B' w w') (hB : w.heap.size ≤ B') : GSt w' B g K vf vb rf rb :=
  ⟨h.blk.below hf (Nat.lt_of_lt_of_le h.blk.lt hB), h.tf.below hf hB, h.tb.below hf hB, h.hg, h.nd, h.vne, h.sf, h.sb, h.lf, h.lb⟩
theorem own_vec {base e size n g : Nat} {v : Value} {xs : List Value} (h : w.ownsRow base e size v n xs) (hg : v.ownBlock = some g) : base ≤ g ∧ g < w.heap.size ∧ ∃ cs, Blk w g e cs := by
  have hl := h.lt g hg
  rcases h.2 with ⟨rfl, _⟩ | ⟨g', cap, cur, rfl, hb, hgg, rest⟩
  · cases hg
  · injection hg with hg
    subst hg
    exact ⟨hl.1, hl.2, cur, hgg⟩
/-- a number laid into the first table -/
theorem GSt.setF {d j b : Nat} {x : Int} {vf' : Value} (h : GSt w B g K vf vb rf rb) (hd : d ≤ rf.length) (hd2 : d ≤ 2001) (h1 : Blk w' g 79 ((gcells K vf vb).setIfInBounds 1 vf')) (h2 : Tab w' B vf' (setRow rf d j x b)) (h3 : w.heap.size ≤ b)
    (h4 : vf'.ownBlock = vf.ownBlock ∨ ∃ h, vf'.ownBlock = some h ∧ w.heap.size ≤ h) (hf : Fr (fun q => q = g ∨ some q = vf.ownBlock ∨ ((rowAt rf d).2 ≠ [] ∧ q = (rowAt rf d).1)) w w') :
    GSt w' B g K vf' vb (setRow rf d j x b) rb ∧ Gr B w w' := by
  have hnd := List.nodup_append.1 h.nd
  have hrow : (rowAt rf d).2 ≠ [] → (rowAt rf d).1 ∈ rowBlks rf := fun hne => by
    have hl : d < rf.length := by
      rcases Nat.lt_or_ge d rf.length with h2 | h2
      · exact h2
      · exfalso
        apply hne
        simp [rowAt, List.getD, h2]
    refine mem_rowBlks ?_ hne
    rw [rowAt_eq hl]
    exact List.getElem_mem _
  have hbn : ∀ {k}, k ∈ rowBlks rf → k ≠ b := fun hk => by
    obtain ⟨_, zs, hz⟩ := h.tf.blk hk
    have := hz.lt
    omega
  have hbn' : ∀ {k}, k ∈ rowBlks rb → k ≠ b := fun hk => by
    obtain ⟨_, zs, hz⟩ := h.tb.blk hk
    have := hz.lt
    omega
  refine ⟨⟨h1, h2, h.tb.fr hf (fun q hq => ?_) (fun k hk => ?_), h.hg, ?_, fun q hq => ?_, h.sf.set d j x b hd, h.sb, ?_, h.lb⟩, Gr.of_fr hf (fun k hk hS => ?_)⟩
  · obtain ⟨_, _, cs, hc⟩ := own_vec h.tb.own hq
    rintro (rfl | hS | ⟨hne, rfl⟩)
    · exact Blk.ne_ hc h.blk (by decide) rfl
    · exact h.vne q hS.symm hq
    · obtain ⟨_, zs, hz⟩ := h.tf.blk (hrow hne)
      exact Blk.ne_ hc hz (by decide) rfl
  · obtain ⟨_, zs, hz⟩ := h.tb.blk hk
    rintro (rfl | hS | ⟨hne, rfl⟩)
    · exact Blk.ne_ hz h.blk (by decide) rfl
    · obtain ⟨_, _, cs, hc⟩ := own_vec h.tf.own hS.symm
      exact Blk.ne_ hz hc (by decide) rfl
    · exact hnd.2.2 _ (hrow hne) _ hk rfl
  · rcases setRow_blks rf d j x b hd with h5 | h5
    · rw [h5]; exact h.nd
    · refine ((h5.append_right (rowBlks rb)).nodup_iff).2 ?_
      rw [List.cons_append, List.nodup_cons]
      refine ⟨fun hm => ?_, h.nd⟩
      rcases List.mem_append.1 hm with hm | hm
      · exact hbn hm rfl
      · exact hbn' hm rfl
  · rcases h4 with h4 | ⟨q', h4, h5⟩
    · exact h.vne q (by rw [← h4]; exact hq)
    · rw [h4] at hq
      injection hq with hq
      subst hq
      intro hb
      have := (own_vec h.tb.own hb).2.1
      omega
  · have := setRow_len rf d j x b hd
    have := h.lf
    omega
  · rcases hS with rfl | hS | ⟨hne, rfl⟩
    · exact ⟨h.hg, h.blk.isD_not (by decide)⟩
    · obtain ⟨a1, a2, cs, hc⟩ := own_vec h.tf.own hS.symm
      exact ⟨a1, hc.isD_not (by decide)⟩
    · obtain ⟨a1, zs, hz⟩ := h.tf.blk (hrow hne)
      exact ⟨a1, hz.isD_not (by decide)⟩
/-- a number laid into the second table -/
theorem GSt.setB {d j b : Nat} {x : Int} {vb' : Value} (h : GSt w B g K vf vb rf rb) (hd : d ≤ rb.length) (hd2 : d ≤ 2001) (h1 : Blk w' g 79 ((gcells K vf vb).setIfInBounds 2 vb')) (h2 : Tab w' B vb' (setRow rb d j x b)) (h3 : w.heap.size ≤ b)
    (h4 : vb'.ownBlock = vb.ownBlock ∨ ∃ h, vb'.ownBlock = some h ∧ w.heap.size ≤ h) (hf : Fr (fun q => q = g ∨ some q = vb.ownBlock ∨ ((rowAt rb d).2 ≠ [] ∧ q = (rowAt rb d).1)) w w') :
    GSt w' B g K vf vb' rf (setRow rb d j x b) ∧ Gr B w w' := by
  have hnd := List.nodup_append.1 h.nd
  have hrow : (rowAt rb d).2 ≠ [] → (rowAt rb d).1 ∈ rowBlks rb := fun hne => by
    have hl : d < rb.length := by
      rcases Nat.lt_or_ge d rb.length with h2 | h2
      · exact h2
      · exfalso
        apply hne
        simp [rowAt, List.getD, h2]
    refine mem_rowBlks ?_ hne
    rw [rowAt_eq hl]
    exact List.getElem_mem _
  have hbn : ∀ {k}, k ∈ rowBlks rf → k ≠ b := fun hk => by
    obtain ⟨_, zs, hz⟩ := h.tf.blk hk
    have := hz.lt
    omega
  have hbn' : ∀ {k}, k ∈ rowBlks rb → k ≠ b := fun hk => by
    obtain ⟨_, zs, hz⟩ := h.tb.blk hk
    have := hz.lt
    omega
  refine ⟨⟨h1, h.tf.fr hf (fun q hq => ?_) (fun k hk => ?_), h2, h.hg, ?_, fun q hq => ?_, h.sf, h.sb.set d j x b hd, h.lf, ?_⟩, Gr.of_fr hf (fun k hk hS => ?_)⟩
  · obtain ⟨_, _, cs, hc⟩ := own_vec h.tf.own hq
    rintro (rfl | hS | ⟨hne, rfl⟩)
    · exact Blk.ne_ hc h.blk (by decide) rfl
    · exact h.vne q hq hS.symm
    · obtain ⟨_, zs, hz⟩ := h.tb.blk (hrow hne)
      exact Blk.ne_ hc hz (by decide) rfl
  · obtain ⟨_, zs, hz⟩ := h.tf.blk hk
    rintro (rfl | hS | ⟨hne, rfl⟩)
    · exact Blk.ne_ hz h.blk (by decide) rfl
    · obtain ⟨_, _, cs, hc⟩ := own_vec h.tb.own hS.symm
      exact Blk.ne_ hz hc (by decide) rfl
    · exact hnd.2.2 _ hk _ (hrow hne) rfl
  · rcases setRow_blks rb d j x b hd with h5 | h5
    · rw [h5]; exact h.nd
    · refine ((h5.append_left (rowBlks rf)).nodup_iff).2 ?_
      refine List.nodup_append.2 ⟨hnd.1, List.nodup_cons.2 ⟨fun hm => hbn' hm rfl, hnd.2.1⟩, fun a ha c hc => ?_⟩
      rcases List.mem_cons.1 hc with hc | hc
      · rw [hc]; exact hbn ha
      · exact hnd.2.2 a ha c hc
  · rcases h4 with h4 | ⟨q', h4, h5⟩
    · rw [h4]; exact h.vne q hq
    · rw [h4]
      intro hb
      injection hb with hb
      subst hb
      have := (own_vec h.tf.own hq).2.1
      omega
  · have := setRow_len rb d j x b hd
    have := h.lb
    omega
  · rcases hS with rfl | hS | ⟨hne, rfl⟩
    · exact ⟨h.hg, h.blk.isD_not (by decide)⟩
    · obtain ⟨a1, a2, cs, hc⟩ := own_vec h.tb.own hS.symm
      exact ⟨a1, hc.isD_not (by decide)⟩
    · obtain ⟨a1, zs, hz⟩ := h.tb.blk (hrow hne)
      exact ⟨a1, hz.isD_not (by decide)⟩
end
end Go.Proofs.YtgjbagojcbondaaDoor
