/-
  The walk of the reference's Same: two matrices held against each other, row by row, as strings.
-/
import Derived.Test.YthigdbokhghbjaaDoorBase
namespace Go.Proofs.YthigdbokhghbjaaDoor.Mat
open Go.RowKit Go.Proofs.YthigdbokhghbjaaDoorW.PrintWords Go.Proofs.YthigdbokhghbjaaDoorW.PrintLast Go.Proofs.YthigdbokhghbjaaDoorW.PrintMore
open Go.Proofs.YthigdbokhghbjaaDoor.Base
attribute [local go_sem] max2_int min2_int max_two min_two max_three min_three max_four min_four
set_option linter.unusedVariables false
set_option linter.unusedSimpArgs false

def same.T6 : Bool × List (List Nat × List Nat) := (true, [([], []), ([], []), ([0, 1], [0, 1]), ([2], [2]), ([3], [3]), ([], []), ([], []), ([5, 6], [5, 6]), ([7], [7]), ([8], [8]), ([4, 9], [4, 9])])
def same.B6 : List Nat := [0, 0, 3, 7, 15, 0, 0, 96, 224, 480, 1023]
theorem same.tab6 : rtab .any (opsOf Tryd.f9 6) = same.T6 := by kernel_rfl
theorem same.bits6 : waitsOk same.T6.2 same.B6 = true := by kernel_rfl
set_option maxHeartbeats 8000000 in
set_option maxRecDepth 100000 in
theorem same_true (A0 : Option Addr) (c0 : Nat) (A1 : Option Addr) (c1 : Nat) (l : List (List Int)) (w : World) (hr0 : Kd.C (Kd.slice 5 (Kd.int .u8)) w A0 l.length l) (hr1 : Kd.C (Kd.slice 5 (Kd.int .u8)) w A1 l.length l) (hl : l.length ≤ 1000000) :
    Calls Tryd.prog 9 #[.slice A0 l.length c0, .slice A1 l.length c1] w fun e w' => e = .returned (.bool true) ∧ Drawn0 w w' := by
  have HR0 := Aside0.mk hr0
  have HR1 := Aside0.mk hr1
  clear hr0 hr1
  go_enter Tryd.func9, Tryd.ntmps9
  go_wp2
  go_loopg [13] l.length (fun kq v13 w' => ∃ j : Nat, v13 = .int .i64 (j : Int) ∧ Aside0 (j + kq = l.length) ∧ Drawn0 w w')
  case atStart => exact ⟨0, rfl, ⟨by omega⟩, by repeat (first | exact Drawn0.refl _ | apply Drawn0.step)⟩
  case round =>
    obtain ⟨j, rfl, HJ, ⟨m1, rfl⟩⟩ := hrel
    cases gk with
    | zero =>
      have hge : ¬ j < l.length := by have := HJ.out; omega
      go_wp2
      go_ret
      exact ⟨rfl, by repeat (first | exact Drawn0.refl _ | apply Drawn0.step)⟩
    | succ k1 =>
      have hlt : j < l.length := by have := HJ.out; omega
      obtain ⟨ad101, A101_0, c101_0, e101, hx101_0, hl101_0, hi101_0⟩ := at_L1 HR0.out (j : Int) (by omega) (by omega)
      cases e101
      have HR101_0 := Aside0.mk hi101_0
      clear hi101_0 hl101_0
      have hcv9 := Kd.C_string (P := Tryd.prog) (A := A101_0) (c := c101_0) Tryd.underlying41 Tryd.underlying5 Tryd.underlying9 (Kd.C_drewN HR101_0.out (m1 + 1))
      obtain ⟨ad102, A102_0, c102_0, e102, hx102_0, hl102_0, hi102_0⟩ := at_L1 HR1.out (j : Int) (by omega) (by omega)
      cases e102
      have HR102_0 := Aside0.mk hi102_0
      clear hi102_0 hl102_0
      have hcv10 := Kd.C_string (P := Tryd.prog) (A := A102_0) (c := c102_0) Tryd.underlying41 Tryd.underlying5 Tryd.underlying9 (Kd.C_drewN HR102_0.out (m1 + 1))
      have HC1 := Aside0.mk hcv9
      have HC2 := Aside0.mk hcv10
      have HX1 := Aside0.mk hx101_0
      have HX2 := Aside0.mk hx102_0
      clear hcv9 hcv10 hx101_0 hx102_0
      simp only [Int.toNat_natCast] at HX1 HX2
      go_wp2
      refine start_ (n := 11) (S := fun w' => w'.cell? (ad101.add j) = some (.slice A101_0 (rd_L1 l (j : Int)).length c101_0) ∧ w'.cell? (ad102.add j) = some (.slice A102_0 (rd_L1 l (j : Int)).length c102_0) ∧ Sem.run Tryd.prog (convert 41 9 (.slice A101_0 (rd_L1 l (j : Int)).length c101_0)) w' = Result.ok (.string (strOfNums (rd_L1 l (j : Int)))) w' ∧ Sem.run Tryd.prog (convert 41 9 (.slice A102_0 (rd_L1 l (j : Int)).length c102_0)) w' = Result.ok (.string (strOfNums (rd_L1 l (j : Int)))) w') (ds := []) #[false, false, false, false, false, false, false, false, false, false, false] (by kernel_rfl) rfl rfl ⟨HX1.out, HX2.out, HC1.out, HC2.out⟩ (fun hHeld => ?_); refine with_tabW same.tab6 same.bits6 (fun HT_ HW_ => ?_)
      refine pure_ (i := 0) (N := some 16) (v := ?_) (a' := ?_) #[true, false, false, false, false, false, false, false, false, false, false] rfl rfl (any_of HT_.out (by kernel_rfl)) (fun _ _ _ h => h) (Or.inl ⟨by rfl, ?_⟩) ?_ ?_
      rotate_left
      · intro w'
        go_simp
        with_reducible rfl
      rotate_left
      · simp only [Act.put, List.setIfInBounds_toArray, List.set_cons_zero, List.set_cons_succ, i64_w, i32_w]
        rfl
      refine pure_ (i := 1) (N := some 17) (v := ?_) (a' := ?_) #[true, true, false, false, false, false, false, false, false, false, false] rfl rfl (any_of HT_.out (by kernel_rfl)) (fun _ _ _ h => h) (Or.inl ⟨by rfl, ?_⟩) ?_ ?_
      rotate_left
      · intro w'
        go_simp
        with_reducible rfl
      rotate_left
      · simp only [Act.put, List.setIfInBounds_toArray, List.set_cons_zero, List.set_cons_succ, i64_w, i32_w]
        rfl
      refine pure_ (i := 2) (N := some 18) (v := ?_) (a' := ?_) #[true, true, true, false, false, false, false, false, false, false, false] rfl rfl (any_of HT_.out (by kernel_rfl)) (fun _ _ _ h => h) (Or.inl ⟨by rfl, ?_⟩) ?_ ?_
      rotate_left
      · intro w'
        go_simp
        with_reducible rfl
      rotate_left
      · simp only [Act.put, List.setIfInBounds_toArray, List.set_cons_zero, List.set_cons_succ, i64_w, i32_w]
        rfl
      refine pure_ (i := 5) (N := some 21) (v := ?_) (a' := ?_) #[true, true, true, false, false, true, false, false, false, false, false] rfl rfl (any_of HT_.out (by kernel_rfl)) (fun _ _ _ h => h) (Or.inl ⟨by rfl, ?_⟩) ?_ ?_
      rotate_left
      · intro w'
        go_simp
        with_reducible rfl
      rotate_left
      · simp only [Act.put, List.setIfInBounds_toArray, List.set_cons_zero, List.set_cons_succ, i64_w, i32_w]
        rfl
      refine pure_ (i := 6) (N := some 22) (v := ?_) (a' := ?_) #[true, true, true, false, false, true, true, false, false, false, false] rfl rfl (any_of HT_.out (by kernel_rfl)) (fun _ _ _ h => h) (Or.inl ⟨by rfl, ?_⟩) ?_ ?_
      rotate_left
      · intro w'
        go_simp
        with_reducible rfl
      rotate_left
      · simp only [Act.put, List.setIfInBounds_toArray, List.set_cons_zero, List.set_cons_succ, i64_w, i32_w]
        rfl
      refine pure_ (i := 7) (N := some 23) (v := ?_) (a' := ?_) #[true, true, true, false, false, true, true, true, false, false, false] rfl rfl (any_of HT_.out (by kernel_rfl)) (fun _ _ _ h => h) (Or.inl ⟨by rfl, ?_⟩) ?_ ?_
      rotate_left
      · intro w'
        go_simp
        with_reducible rfl
      rotate_left
      · simp only [Act.put, List.setIfInBounds_toArray, List.set_cons_zero, List.set_cons_succ, i64_w, i32_w]
        rfl
      refine take_ (i := 3) (N := some 19) (v := ?_) (a' := ?_) #[true, true, true, true, false, true, true, true, false, false, false] rfl rfl (take_ofW HT_.out HW_.out (by kernel_rfl)) (fun _ _ _ h => h) (Or.inl ⟨by rfl, ?_⟩) hHeld ?_ ?_
      rotate_left
      · intro w' s0
        obtain ⟨s1, s2, s3, s4⟩ := s0
        go_simp
        with_reducible rfl
      rotate_left
      · simp only [Act.put, List.setIfInBounds_toArray, List.set_cons_zero, List.set_cons_succ, i64_w, i32_w]
        rfl
      refine take_ (i := 4) (N := some 20) (v := ?_) (a' := ?_) #[true, true, true, true, true, true, true, true, false, false, false] rfl rfl (take_ofW HT_.out HW_.out (by kernel_rfl)) (fun _ _ _ h => h) (Or.inl ⟨by rfl, ?_⟩) hHeld ?_ ?_
      rotate_left
      · intro w' s0
        obtain ⟨s1, s2, s3, s4⟩ := s0
        go_simp
        with_reducible rfl
      rotate_left
      · simp only [Act.put, List.setIfInBounds_toArray, List.set_cons_zero, List.set_cons_succ, i64_w, i32_w]
        rfl
      refine take_ (i := 8) (N := some 24) (v := ?_) (a' := ?_) #[true, true, true, true, true, true, true, true, true, false, false] rfl rfl (take_ofW HT_.out HW_.out (by kernel_rfl)) (fun _ _ _ h => h) (Or.inl ⟨by rfl, ?_⟩) hHeld ?_ ?_
      rotate_left
      · intro w' s0
        obtain ⟨s1, s2, s3, s4⟩ := s0
        go_simp
        with_reducible rfl
      rotate_left
      · simp only [Act.put, List.setIfInBounds_toArray, List.set_cons_zero, List.set_cons_succ, i64_w, i32_w]
        rfl
      refine take_ (i := 9) (N := some 25) (v := ?_) (a' := ?_) #[true, true, true, true, true, true, true, true, true, true, false] rfl rfl (take_ofW HT_.out HW_.out (by kernel_rfl)) (fun _ _ _ h => h) (Or.inl ⟨by rfl, ?_⟩) hHeld ?_ ?_
      rotate_left
      · intro w' s0
        obtain ⟨s1, s2, s3, s4⟩ := s0
        go_simp
        with_reducible rfl
      rotate_left
      · simp only [Act.put, List.setIfInBounds_toArray, List.set_cons_zero, List.set_cons_succ, i64_w, i32_w]
        rfl
      refine pure_ (i := 10) (N := some 26) (v := ?_) (a' := ?_) #[true, true, true, true, true, true, true, true, true, true, true] rfl rfl (any_of HT_.out (by kernel_rfl)) (fun _ _ _ h => h) (Or.inl ⟨by rfl, ?_⟩) ?_ ?_
      rotate_left
      · intro w'
        go_simp
        with_reducible rfl
      rotate_left
      · simp only [Act.put, List.setIfInBounds_toArray, List.set_cons_zero, List.set_cons_succ, i64_w, i32_w]
        rfl
      refine done_ (done_of HT_.out (by kernel_rfl)) ?_
      go_wp2
      go_roundg k1
      case measure => omega
      case rel => exact ⟨j + 1, by go_num, ⟨by have := HJ.out; omega⟩, by repeat (first | exact Drawn0.refl _ | apply Drawn0.step)⟩

end Go.Proofs.YthigdbokhghbjaaDoor.Mat
