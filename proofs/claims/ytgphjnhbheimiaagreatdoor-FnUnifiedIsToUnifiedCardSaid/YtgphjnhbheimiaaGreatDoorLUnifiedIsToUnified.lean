/-
  The walk of laws.FnUnifiedIsToUnified: for every input it returns true, where the table of powers of ten lies in memory.
-/
import Derived.Test.YtgphjnhbheimiaaGreatDoorUniI
namespace Go.Proofs.YtgphjnhbheimiaaGreatDoor
set_option linter.unusedVariables false
open Go.RowKit

set_option maxRecDepth 100000 in
set_option maxHeartbeats 1000000 in
theorem FnUnifiedIsToUnified_walk (s0 s1 s2 s3 : ByteArray) (w : World) (ws0 : s0.size ≤ maxLen) (ws1 : s1.size ≤ maxLen) (ws2 : s2.size ≤ maxLen) (ws3 : s3.size ≤ maxLen) (hT : TabP w) :
   Calls Tryz.prog 4 #[.string s0, .string s1, .string s2, .string s3] w fun e w' => e = .returned (.bool true) ∧ Below w.heap.size w w' := by
  have HTL := Lib.hid (fun A c w' x y z u (h : IntsR .i64 w' A [x, y, z, u]) => tooLong_any A c [x, y, z, u] w' h (by simp))
  have HCD := Lib.hid contextD_any
  have ha := fun W (h1 : s0.size + s1.size + s2.size + s3.size ≤ 1000000) => implLines_any s2 s3 W (by omega) (by omega)
  have hb := fun es (hp : LinesP s2 s3 es) A c W (hr : EdsR W A es) (g : Below w.heap.size w W) (h1 : s0.size + s1.size + s2.size + s3.size ≤ 1000000) =>
    implToUnified_any (P := fun l => l = es) s2 s0 s1 3 A c es W hr (by omega) (by omega) (by omega) (by omega) (hp.fine (by omega)).len (fun h => h.symm)
      (fun es' h' => by subst h'; have hf := hp.fine (by omega); exact ⟨rfl, hf.len, hf.size, hf.all⟩)
      (validate_ed (by omega) (hp.fine (by omega)).order (hp.fine (by omega)).len (hp.fine (by omega)).size) (hT.below g (Nat.le_refl _))
  have hc := fun W (g : Below w.heap.size w W) (h1 : s0.size + s1.size + s2.size + s3.size ≤ 1000000) => implUnified_any s2 s3 s0 s1 W (by omega) (by omega) (fun es h => h.fine (by omega)) (by omega) (hT.below g (Nat.le_refl _))
  have hio := fun es (hp : LinesP s2 s3 es) (h1 : s0.size + s1.size + s2.size + s3.size ≤ 1000000) => (hp.fine (by omega)).order
  unfold EdsOutI at ha
  unfold ITG at hb
  unfold UOut at hc
  have HA := Lib.hid ha; have HB := Lib.hid hb; have HC := Lib.hid hc; have HIO := Lib.hid hio
  clear ha hb hc hio hT
  unfold maxLen at ws0 ws1 ws2 ws3
  by_cases hb0 : (2147483647 : Int) < (s0.size : Int)
  · skip
    go_enter Tryz.func4, Tryz.ntmps4
    go_wp2
    go_ret
    exact ⟨rfl, Below.refl _ _⟩
  · by_cases hb1 : (2147483647 : Int) < (s1.size : Int)
    · skip
      go_enter Tryz.func4, Tryz.ntmps4
      go_wp2
      go_ret
      exact ⟨rfl, Below.refl _ _⟩
    · by_cases hb2 : (2147483647 : Int) < (s2.size : Int)
      · skip
        go_enter Tryz.func4, Tryz.ntmps4
        go_wp2
        go_ret
        exact ⟨rfl, Below.refl _ _⟩
      · by_cases hb3 : (2147483647 : Int) < (s3.size : Int)
        · skip
          go_enter Tryz.func4, Tryz.ntmps4
          go_wp2
          go_ret
          exact ⟨rfl, Below.refl _ _⟩
        · go_enter Tryz.func4, Tryz.ntmps4
          go_wp2_with fail
          refine (HTL.out _ _ _ s0.size s1.size s2.size s3.size (IntsR.lit4 _ _ _ _ _ _ _) (by simp; omega)).mono ?_
          rintro e w3 ⟨rfl, rfl⟩
          have hsum : sumI [(s0.size : Int), (s1.size : Int), (s2.size : Int), (s3.size : Int)] = (s0.size : Int) + s1.size + s2.size + s3.size := by simp [sumI]; omega
          by_cases hbig : 1000000 < (s0.size : Int) + s1.size + s2.size + s3.size
          · have hd : decide (1000000 < sumI [(s0.size : Int), (s1.size : Int), (s2.size : Int), (s3.size : Int)]) = true := by rw [hsum]; simp; omega
            rw [hd]
            clear hd hsum
            go_wp2
            go_ret
            exact ⟨rfl, (Below.refl _ _).alloc (Nat.le_refl _) _⟩
          · have hd : decide (1000000 < sumI [(s0.size : Int), (s1.size : Int), (s2.size : Int), (s3.size : Int)]) = false := by rw [hsum]; simp; omega
            rw [hd]
            have HB1 := Lib.hid ((Below.refl w.heap.size w).alloc (Nat.le_refl _) (.cells #[.int .i64 (s0.size : Int), .int .i64 (s1.size : Int), .int .i64 (s2.size : Int), .int .i64 (s3.size : Int)] 3))
            have hg : s0.size + s1.size + s2.size + s3.size ≤ 1000000 := by omega
            clear hd hsum hbig
            go_wp2_with fail
            refine (HA.out _ hg).mono ?_
            rintro e w4 ⟨es, A, c, rfl, hr, hcap, hb4, hp⟩
            have HB4 := Lib.hid (HB1.out.trans (hb4.mono HB1.out.size))
            have htu := HB.out es hp A c w4 hr HB4.out hg
            have hor := HIO.out es hp hg
            obtain ⟨n, hn⟩ : ∃ n, es.length = n := ⟨_, rfl⟩
            rw [hn] at htu hcap ⊢
            have HTU := Lib.hid htu; have HP := Lib.hid hp; have HOR := Lib.hid hor
            clear hr hb4 hp htu hn hor hcap HA HB
            go_wp2_with fail
            refine (HCD.out _).mono ?_
            rintro e w7 ⟨rfl, rfl⟩
            go_wp2_with fail
            refine HTU.out.mono ?_
            rintro e w5 ⟨es', rfl, hb5, ⟨_, rfl⟩ | ⟨hno, _⟩⟩
            · obtain ⟨u, hu⟩ : ∃ u, uniT s2 s0 s1 es' = u := ⟨_, rfl⟩
              have hu2 : uniS s0 s1 (unifF s2 3 (lineF s2 es')) = u := hu
              rw [hu2]
              have HU := Lib.hid hu
              have HB5 := Lib.hid (HB4.out.trans (hb5.mono HB4.out.size)); clear hb5 hu hu2
              go_wp2_with fail
              refine (HC.out _ HB5.out hg).mono ?_
              rintro e w6 ⟨es2, hp2, hb6, rfl⟩
              obtain rfl := HP.out.uniq hp2
              rw [HU.out]
              have HB6 := Lib.hid (HB5.out.trans (hb6.mono HB5.out.size)); clear hb6 hp2
              have heq : (u.toList == u.toList) = true := by simp
              go_wp2
              go_ret
              exact ⟨rfl, HB6.out⟩
            · exfalso
              rw [HOR.out] at hno
              cases hno
end Go.Proofs.YtgphjnhbheimiaaGreatDoor
