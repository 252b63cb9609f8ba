/-
  The walks of vandermonde and ZZVandermonde, for one row and one column and more, where the two tables lie as the text lays them.
-/
import Derived.Test.YthigdbokhghbjaaDoorBase
import Derived.Test.YthigdbokhghbjaaDoorPow
import Derived.Test.YthigdbokhghbjaaDoorNewM
import Derived.WalkSpells
namespace Go.Proofs.YthigdbokhghbjaaDoor.Mat
open Go.RowKit Go.Proofs.YthigdbokhghbjaaDoorW.PrintWords Go.Proofs.YthigdbokhghbjaaDoorW.PrintLast Go.Proofs.YthigdbokhghbjaaDoorW.PrintMore
open Go.Proofs.YthigdbokhghbjaaDoor.Base
open Go.Proofs.YthigdbokhghbjaaDoor.Gf (gexp Tabs galExp_calls)
attribute [local go_sem] max2_int min2_int max_two min_two max_three min_three max_four min_four
set_option linter.unusedVariables false
set_option linter.unusedSimpArgs false

theorem galExp_ints (a n : Int) (h0 : 0 ≤ a) (h1 : a < 256) (h2 : 0 ≤ n) (h3 : n ≤ 100000) (w : World) (ht : Tabs w) :
    Calls Tryd.prog 19 #[.int .u8 a, .int .i64 n] w fun e w' => e = .returned (.int .u8 ((gexp a.toNat n.toNat : Nat) : Int)) ∧ Drawn0 w w' := by
  obtain ⟨a, rfl⟩ := Int.eq_ofNat_of_zero_le h0
  obtain ⟨n, rfl⟩ := Int.eq_ofNat_of_zero_le h2
  refine (galExp_calls a n (by omega) (by omega) w ht).mono ?_
  rintro e w' ⟨rfl, rfl⟩
  exact ⟨rfl, Drawn0.refl _⟩

mutual
def vand.l0 : Nat → List (List Int) → Int → Int → Option (List (List Int))
  | 0, _, _, _ => none
  | k + 1, x6, x20, x21 => if x21 < x20 then (if 0 ≤ x21 then (if x21 < (x6.length : Int) then (vand.l1 k x6 x21 x20 ((rd_L1 x6 x21).length : Int) 0) else none) else none) else (some x6)
def vand.l1 : Nat → List (List Int) → Int → Int → Int → Int → Option (List (List Int))
  | 0, _, _, _, _, _ => none
  | k + 1, x6, x21, x20, x24, x25 => if x25 < x24 then (if 0 ≤ x21 then (if x21 < (x6.length : Int) then (if 0 ≤ x25 ∧ x25 ≤ 100000 then (if x25 < ((rd_L1 x6 x21).length : Int) then (vand.l1 k (x6.set (x21 : Int).toNat ((rd_L1 x6 x21).set (x25 : Int).toNat ((gexp ((x21 % 256) : Int).toNat (x25 : Int).toNat : Nat) : Int))) x21 x20 x24 (wrap64 (x25 + 1))) else none) else none) else none) else none) else (vand.l0 k x6 x20 (wrap64 (x21 + 1)))
end
def vand.T10 : Bool × List (List Nat × List Nat) := (true, [([], []), ([], []), ([0, 1], [0, 1]), ([2], [2]), ([], []), ([], []), ([5], [5]), ([], []), ([6, 7], [6, 7]), ([3, 4, 0, 1, 2, 3, 4, 5, 6, 7, 8], [3, 4]), ([9, 8, 8, 0, 1, 2, 3, 4, 5, 6, 7, 8], [8, 9])])
def vand.B10 : List Nat := [0, 0, 3, 7, 0, 0, 32, 0, 224, 511, 1023]
theorem vand.tab10 : rtab .any (opsOf Tryd.f22 10) = vand.T10 := by kernel_rfl
theorem vand.bits10 : waitsOk vand.T10.2 vand.B10 = true := by kernel_rfl
set_option maxHeartbeats 8000000 in
set_option maxRecDepth 100000 in
theorem vandermonde_calls (k : Nat) (a0 a1 : Int) (t126 r : List (List Int)) (w : World) (ht : Tabs w) (hnew : reedsolomon_newMatrix.f k a0 a1 = some (t126, none)) (h : vand.l0 k t126 (t126.length : Int) 0 = some r) :
    Calls Tryd.prog 22 #[.int .i64 a0, .int .i64 a1] w fun e w' => ∃ v0_ : Value, e = .returned (.tuple #[v0_, .nilIface]) ∧ Kd.S (Kd.slice 5 (Kd.int .u8)) 41 w' w.heap.size (fun _ => True) v0_ r ∧ Below w.heap.size w w' := by
    have hu38 := Tryd.underlying38
    have HB := Aside0.mk (Below.refl w.heap.size w)
    have HTABS := Aside0.mk ht
    have A3 := Aside0.mk hnew
    have H' := Aside0.mk h
    clear h hnew ht
    go_enter Tryd.func22, Tryd.ntmps22
    go_wp2_with (first | ((with_reducible refine gate_callee (f := 23) rfl ?_); refine goesL_ (some 14) rfl rfl Tryd.func23 (by kernel_rfl) rfl #[.int .i64 a0, .int .i64 a1] rfl (by (try simp only [List.map_toArray, List.map_cons, List.map_nil]); first | done | rfl | (simp only [List.length_drop, List.length_take]; rfl)) ?_; (with_reducible refine (reedsolomon_newMatrix.calls k a0 a1 t126 none _ A3.out).mono ?_); rintro e w4 ⟨v128, rfl, ho0, hb⟩; refine ⟨_, rfl, ?_⟩; have n0_ := Aside0.mk (Kd.S_lower ho0 (below_size (by repeat (first | (with_reducible first | exact HB.out | apply below_alloc | apply pw_below_drewN | apply below_drew1) | exact HB.out)))); have n1_ := Aside0.mk (below_step (by repeat (first | (with_reducible first | exact HB.out | apply below_alloc | apply pw_below_drewN | apply below_drew1) | exact HB.out)) hb); clear HB; have HO129 := n0_; have HB := n1_; clear n0_ n1_; (try clear hb); (try clear hb2); (try clear hk); (try clear hi); (try clear ho0); (try simp only [errW_none, errW_some]); obtain ⟨Ao5, co5, eo5⟩ := Kd.S_slice HO129.out; subst eo5))
    go_loopg [22] k (fun kq v21 w' => ∃ (x6_1 : List (List Int)) (x21_1 : Int), v21 = .int .i64 x21_1 ∧ Aside0 (vand.l0 kq x6_1 (t126.length : Int) x21_1 = some r) ∧ Aside0 (kq ≤ k) ∧ Aside0 (Kd.S (Kd.slice 5 (Kd.int .u8)) 41 w' w.heap.size (fun _ => True) (.slice Ao5 t126.length co5) x6_1) ∧ Aside0 (Below w.heap.size w w'))
    case atStart => exact ⟨(t126), (0), (by first | rfl | (simp; done) | (simp [*]; done)), H', ⟨Nat.le_refl _⟩, ⟨by (with_reducible repeat (first | apply Kd.S_alloc | apply Kd.S_drewN | apply Kd.S_drew)); exact HO129.out⟩, ⟨by repeat (first | (with_reducible first | exact HB.out | apply below_alloc | apply pw_below_drewN | apply below_drew1) | exact HB.out)⟩⟩
    case round =>
      clear H'
      try clear c1
      try clear q1
      try clear p2
      try clear q130
      obtain ⟨x6_1, x21_1, rfl, HA, HK1, HO_6, HB⟩ := hrel
      have hl6_1 := (Kd.S_reads' HO_6.out).1
      rw [hl6_1] at HO_6
      (try simp only [hl6_1])
      cases gk with
      | zero => exact absurd HA.out (by simp [vand.l0])
      | succ k1 =>
        have H := HA.out
        clear HA
        simp only [vand.l0] at H
        by_cases c6 : x21_1 < (t126.length : Int)
        · rw [if_pos c6] at H
          have c6b0 : decide (x21_1 < (t126.length : Int)) = true := decide_eq_true c6
          clear c6
          by_cases d1 : 0 ≤ x21_1
          · rw [if_pos d1] at H
            by_cases d2 : x21_1 < (x6_1.length : Int)
            · rw [if_pos d2] at H
              have H' := Aside0.mk H
              clear H
              obtain ⟨adR, AR, cR, eR, hxR, hlR, hiR⟩ := at_L1 (Kd.S_reads' HO_6.out).2.2 x21_1 d1 d2
              cases eR
              have HLR := Aside0.mk hlR
              have HIR := Aside0.mk hiR
              clear hlR hiR
              have d1b0 := eq_true d1
              have d2b0 := eq_true d2
              have d1b1 : decide (0 ≤ x21_1) = true := decide_eq_true d1
              have d2b1 : decide (x21_1 < (x6_1.length : Int)) = true := decide_eq_true d2
              clear d1 d2
              go_wp2
              clear hxR
              go_loopg [29] k1 (fun kq v25 w' => ∃ (x6_2 : List (List Int)) (x25_2 : Int), v25 = .int .i64 x25_2 ∧ Aside0 (vand.l1 kq x6_2 x21_1 (t126.length : Int) ((rd_L1 x6_1 x21_1).length : Int) x25_2 = some r) ∧ Aside0 (kq ≤ k1) ∧ Aside0 (Kd.S (Kd.slice 5 (Kd.int .u8)) 41 w' w.heap.size (fun _ => True) (.slice (some adR) x6_1.length co5) x6_2) ∧ Aside0 (Below w.heap.size w w'))
              case atStart => exact ⟨(x6_1), (0), (by first | rfl | (simp; done) | (simp [*]; done)), H', ⟨Nat.le_refl _⟩, ⟨by (try simp only [hl6_1]); (with_reducible repeat (first | apply Kd.S_alloc | apply Kd.S_drewN | apply Kd.S_drew)); exact HO_6.out⟩, ⟨by repeat (first | (with_reducible first | exact HB.out | apply below_alloc | apply pw_below_drewN | apply below_drew1) | exact HB.out)⟩⟩
              case round =>
                clear H'
                try clear c1
                try clear q1
                try clear p2
                try clear c6
                try clear c6b0
                try clear p2
                try clear q1
                try clear q130
                obtain ⟨x6_2, x25_2, rfl, HA, HK2, HO_6, HB⟩ := hrel
                have hl6_2 := (Kd.S_reads' HO_6.out).1
                rw [hl6_2] at HO_6
                (try simp only [hl6_2])
                cases gk with
                | zero => exact absurd HA.out (by simp [vand.l1])
                | succ k2 =>
                  have H := HA.out
                  clear HA
                  simp only [vand.l1] at H
                  by_cases c7 : x25_2 < ((rd_L1 x6_1 x21_1).length : Int)
                  · rw [if_pos c7] at H
                    have c7b0 : decide (x25_2 < ((rd_L1 x6_1 x21_1).length : Int)) = true := decide_eq_true c7
                    clear c7
                    by_cases c8 : 0 ≤ x21_1
                    · rw [if_pos c8] at H
                      have c8b0 : decide (0 ≤ x21_1) = true := decide_eq_true c8
                      clear c8
                      by_cases c9 : x21_1 < (x6_2.length : Int)
                      · rw [if_pos c9] at H
                        have c9b0 : decide (x21_1 < (x6_2.length : Int)) = true := decide_eq_true c9
                        clear c9
                        obtain ⟨t132, ht132⟩ : ∃ t_ : Int, t_ = ((gexp ((x21_1 % 256) : Int).toNat (x25_2 : Int).toNat : Nat) : Int) := ⟨_, rfl⟩
                        rw [← ht132] at H
                        have HT132 := Aside0.mk ht132
                        clear ht132
                        by_cases c11 : 0 ≤ x25_2 ∧ x25_2 ≤ 100000
                        · rw [if_pos c11] at H
                          have c11b0 : decide (0 ≤ x25_2) = true := decide_eq_true c11.1
                          have HC11 := Aside0.mk c11.2
                          clear c11
                          by_cases c12 : x25_2 < ((rd_L1 x6_2 x21_1).length : Int)
                          · rw [if_pos c12] at H
                            have c12b0 : decide (x25_2 < ((rd_L1 x6_2 x21_1).length : Int)) = true := decide_eq_true c12
                            clear c12
                            obtain ⟨y133, hy133⟩ : ∃ y_ : List Int, y_ = ((rd_L1 x6_2 x21_1).set (x25_2 : Int).toNat t132) := ⟨_, rfl⟩
                            replace H : (vand.l1 k2 (x6_2.set (x21_1 : Int).toNat y133) x21_1 (t126.length : Int) ((rd_L1 x6_1 x21_1).length : Int) (wrap64 (x25_2 + 1))) = some r := by first | (rw [hy133]; with_reducible exact H) | (have H2_ := (Option.bind_some _ _).symm.trans H; rw [hy133]; with_reducible exact H2_) | (have H2_ := (Option.bind_some _ _).symm.trans H; with_reducible exact H2_) | with_reducible exact H | (rw [hy133]; exact H) | exact H
                            have Ny133 := Aside0.mk hy133
                            clear hy133
                            obtain ⟨y135, hy135⟩ : ∃ y_ : List (List Int), y_ = (x6_2.set (x21_1 : Int).toNat y133) := ⟨_, rfl⟩
                            replace H : (vand.l1 k2 y135 x21_1 (t126.length : Int) ((rd_L1 x6_1 x21_1).length : Int) (wrap64 (x25_2 + 1))) = some r := by first | (rw [hy135]; with_reducible exact H) | (have H2_ := (Option.bind_some _ _).symm.trans H; rw [hy135]; with_reducible exact H2_) | (have H2_ := (Option.bind_some _ _).symm.trans H; with_reducible exact H2_) | with_reducible exact H | (rw [hy135]; exact H) | exact H
                            have Ny135 := Aside0.mk hy135
                            clear hy135
                            have H' := Aside0.mk H
                            clear H
                            try go_wp2
                            have n0_ := Aside0.mk (Kd.S_drew HO_6.out)
                            have n1_ := Aside0.mk (below_drew1 HB.out)
                            clear HO_6
                            clear HB
                            have HO_6 := n0_
                            have HB := n1_
                            clear n0_ n1_
                            have p131 : 0 ≤ (x21_1 : Int) := of_decide_eq_true (by first | (with_reducible assumption) | assumption)
                            have q131 : x21_1 < (x6_2.length : Int) := of_decide_eq_true (by first | (with_reducible assumption) | assumption)
                            obtain ⟨ad131, A131_0, c131_0, e131, hx131_0, hl131_0, hi131_0⟩ := at_L1 (Kd.S_reads' HO_6.out).2.2 x21_1 p131 q131
                            cases e131
                            obtain ⟨ce131, hce131, hMe131, hcc131⟩ := Kd.S_get HO_6.out [] x21_1 p131 (by first | exact q131 | exact of_decide_eq_true (by first | (with_reducible assumption) | assumption) | (have e_ := (Kd.S_reads' HO_6.out).1; omega))
                            obtain ⟨ve131_0, rfl, ge131_0⟩ := hMe131
                            have hv131_0 := hcc131 0 _ rfl
                            rw [Nat.add_zero, show ((Kd.slice 5 (Kd.int .u8))).sz = 1 from rfl, Nat.mul_one] at hv131_0
                            replace hv131_0 := Option.some.inj (hv131_0.symm.trans hx131_0)
                            rw [hv131_0] at ge131_0
                            have HL131_0 := Aside0.mk (show Kd.R (Kd.int .u8) 5 _ _ _ _ (rd_L1 x6_2 x21_1) from ge131_0)
                            clear hv131_0 ge131_0
                            have HX131_0 := Aside0.mk hx131_0
                            clear hcc131 hce131
                            have HR131_0 := Aside0.mk hi131_0
                            have HC131_0 := Aside0.mk hl131_0
                            clear hi131_0 hl131_0
                            replace p131 := eq_true p131
                            replace q131 := eq_true q131
                            refine start_ (n := 11) (S := fun w' => w'.cell? (adR.add (x21_1).toNat) = some (.slice A131_0 (rd_L1 x6_2 x21_1).length c131_0)) (ds := [10]) #[false, false, false, false, false, false, false, false, false, false, false] (by kernel_rfl) rfl rfl (hx131_0) (fun hHeld => ?_); refine with_tabW vand.tab10 vand.bits10 (fun HT_ HW_ => ?_)
                            generalize wr.drew = w14 at HO_6 HB HL131_0 HR131_0 HX131_0 hx131_0 hHeld ⊢
                            refine pure_ (i := 0) (N := some 32) (v := ?_) (a' := ?_) #[true, false, false, false, false, false, false, false, false, false, false] rfl rfl (any_of HT_.out (by kernel_rfl)) (fun _ _ _ h => h) (Or.inl ⟨by rfl, ?_⟩) ?_ ?_
                            rotate_left
                            · intro w'
                              go_simp
                              with_reducible rfl
                            rotate_left
                            · simp only [Act.put, List.setIfInBounds_toArray, List.set_cons_zero, List.set_cons_succ, i64_w, i32_w]
                              rfl
                            refine pure_ (i := 1) (N := some 33) (v := ?_) (a' := ?_) #[true, true, false, false, false, false, false, false, false, false, false] rfl rfl (any_of HT_.out (by kernel_rfl)) (fun _ _ _ h => h) (Or.inl ⟨by rfl, ?_⟩) ?_ ?_
                            rotate_left
                            · intro w'
                              go_simp
                              with_reducible rfl
                            rotate_left
                            · simp only [Act.put, List.setIfInBounds_toArray, List.set_cons_zero, List.set_cons_succ, i64_w, i32_w]
                              rfl
                            refine pure_ (i := 2) (N := some 34) (v := ?_) (a' := ?_) #[true, true, true, false, false, false, false, false, false, false, false] rfl rfl (any_of HT_.out (by kernel_rfl)) (fun _ _ _ h => h) (Or.inl ⟨by rfl, ?_⟩) ?_ ?_
                            rotate_left
                            · intro w'
                              go_simp
                              with_reducible rfl
                            rotate_left
                            · simp only [Act.put, List.setIfInBounds_toArray, List.set_cons_zero, List.set_cons_succ, i64_w, i32_w]
                              rfl
                            refine pure_ (i := 4) (N := some 36) (v := ?_) (a' := ?_) #[true, true, true, false, true, false, false, false, false, false, false] rfl rfl (any_of HT_.out (by kernel_rfl)) (fun _ _ _ h => h) (Or.inl ⟨by rfl, ?_⟩) ?_ ?_
                            rotate_left
                            · intro w'
                              go_simp
                              with_reducible rfl
                            rotate_left
                            · simp only [Act.put, List.setIfInBounds_toArray, List.set_cons_zero, List.set_cons_succ, i64_w, i32_w]
                              rfl
                            refine pure_ (i := 5) (N := some 37) (v := ?_) (a' := ?_) #[true, true, true, false, true, true, false, false, false, false, false] rfl rfl (any_of HT_.out (by kernel_rfl)) (fun _ _ _ h => h) (Or.inl ⟨by rfl, ?_⟩) ?_ ?_
                            rotate_left
                            · intro w'
                              go_simp
                              with_reducible rfl
                            rotate_left
                            · simp only [Act.put, List.setIfInBounds_toArray, List.set_cons_zero, List.set_cons_succ, i64_w, i32_w]
                              rfl
                            refine pure_ (i := 6) (N := some 38) (v := ?_) (a' := ?_) #[true, true, true, false, true, true, true, false, false, false, false] rfl rfl (any_of HT_.out (by kernel_rfl)) (fun _ _ _ h => h) (Or.inl ⟨by rfl, ?_⟩) ?_ ?_
                            rotate_left
                            · intro w'
                              go_simp
                              with_reducible rfl
                            rotate_left
                            · simp only [Act.put, List.setIfInBounds_toArray, List.set_cons_zero, List.set_cons_succ, i64_w, i32_w]
                              rfl
                            refine pure_ (i := 7) (N := some 39) (v := ?_) (a' := ?_) #[true, true, true, false, true, true, true, true, false, false, false] rfl rfl (any_of HT_.out (by kernel_rfl)) (fun _ _ _ h => h) (Or.inl ⟨by rfl, ?_⟩) ?_ ?_
                            rotate_left
                            · intro w'
                              go_simp
                              with_reducible rfl
                            rotate_left
                            · simp only [Act.put, List.setIfInBounds_toArray, List.set_cons_zero, List.set_cons_succ, i64_w, i32_w]
                              rfl
                            refine take_ (i := 3) (N := some 35) (v := ?_) (a' := ?_) #[true, true, true, true, true, true, true, true, false, false, false] rfl rfl (take_ofW HT_.out HW_.out (by kernel_rfl)) (fun _ _ _ h => h) (Or.inl ⟨by rfl, ?_⟩) hHeld ?_ ?_
                            rotate_left
                            · intro w' s0
                              go_simp
                              with_reducible rfl
                            rotate_left
                            · simp only [Act.put, List.setIfInBounds_toArray, List.set_cons_zero, List.set_cons_succ, i64_w, i32_w]
                              rfl
                            refine one_ (i := 8) (N := some 40) #[true, true, true, true, true, true, true, true, true, false, false] rfl rfl (one_of HT_.out (by kernel_rfl)) (by decide) (fun K hK => ?_)
                            refine goes_ Tryd.func19 (by kernel_rfl) rfl #[.int .u8 ((x21_1) % 256), .int .i64 x25_2] (by rfl) rfl rfl (by (try simp only [List.map_toArray, List.map_cons, List.map_nil]); first | done | rfl | (simp only [List.length_drop, List.length_take]; rfl)) ?_
                            have CG := galExp_ints (x21_1 % 256) x25_2 (Int.emod_nonneg _ (by decide)) (Int.emod_lt_of_pos _ (by decide)) (of_decide_eq_true c11b0) HC11.out w14 (HTABS.out.below HB.out)
                            rw [← HT132.out] at CG
                            with_reducible refine CG.mono ?_
                            rintro e w' ⟨rfl, ⟨nd, rfl⟩⟩
                            refine ⟨_, rfl, ?_⟩
                            have p13 : 0 ≤ (x25_2 : Int) := of_decide_eq_true (by first | (with_reducible assumption) | assumption)
                            have q13 : (x25_2 : Int) < (((rd_L1 x6_2 x21_1).length : Int) : Int) := of_decide_eq_true (by first | (with_reducible assumption) | assumption)
                            obtain ⟨go13, co13, eo13, gb13, gl13, cl13, HG13⟩ := Kd.R_form HL131_0.out (by omega)
                            (first | cases eo13 | (injection eo13 with ea_ en_ ec_; (first | subst ea_ | (injection ea_ with ea_; subst ea_)); subst ec_; clear en_))
                            have GB13 := Aside0.mk gb13
                            have GG13 := Aside0.mk HG13
                            clear gb13 gl13 HG13
                            obtain ⟨hx13_0, hf13_0⟩ := Kd.R_celln 0 HL131_0.out (x25_2 : Int) p13 q13
                            replace p13 := eq_true p13
                            replace q13 := eq_true q13
                            have hq15 : (x21_1 : Int) < (x6_2.length : Int) := (by have h_ : (x21_1 : Int) < ((x6_2.length : Int) : Int) := of_decide_eq_true (by first | (with_reducible assumption) | assumption); first | exact h_ | (have e_ := (Kd.S_reads' HO_6.out).1; omega) | simpa only [List.length_set, List.length_set] using h_)
                            obtain ⟨oki15, ce15, hcl15, hM15, hcc15, hok15, hbk15⟩ := Kd.S_borrow HO_6.out [] (x21_1 : Int) (of_decide_eq_true (by first | (with_reducible assumption) | assumption)) hq15
                            obtain ⟨ve15_0, rfl, ge15_0⟩ := hM15
                            have hv15 := hcc15 0 _ rfl
                            rw [Nat.add_zero, show ((Kd.slice 5 (Kd.int .u8))).sz = 1 from rfl, Nat.mul_one] at hv15
                            replace hv15 := Option.some.inj (hv15.symm.trans HX131_0.out)
                            subst hv15
                            clear hcc15 hcl15
                            replace ge15_0 := (show Kd.R (Kd.int .u8) 5 _ _ _ _ (rd_L1 x6_2 x21_1) from ge15_0)
                            have HP15 := Kd.R_putg ge15_0 (x25_2 : Int) t132
                            rw [← Ny133.out] at HP15
                            have HS15 := hbk15 HP15.2 (fun k_ e_ => by injection e_ with e_; subst e_; exact ge15_0.1 _ rfl) (x' := y133) (Kd.M_row HP15.1)
                            rw [← Ny135.out] at HS15
                            have HQ15 := Aside0.mk HS15
                            clear HP15 HS15 hbk15 hok15
                            refine hK.out _ _ (hHeld) (fun hHeld => ?_)
                            clear hK K
                            refine norm_ (a' := ?_) ?_ ?_
                            rotate_left
                            · show Act.put _ (some 40) _ = _
                              simp only [Act.put, List.setIfInBounds_toArray, List.set_cons_zero, List.set_cons_succ, i64_w, i32_w]
                              rfl
                            refine pure_ (i := 9) (N := some 41) (v := ?_) (a' := ?_) #[true, true, true, true, true, true, true, true, true, true, false] rfl rfl (any_of HT_.out (by kernel_rfl)) (fun _ _ _ h => h) (Or.inl ⟨by rfl, ?_⟩) ?_ ?_
                            rotate_left
                            · intro w'
                              go_simp
                              with_reducible rfl
                            rotate_left
                            · simp only [Act.put, List.setIfInBounds_toArray, List.set_cons_zero, List.set_cons_succ, i64_w, i32_w]
                              rfl
                            refine last_ (i := 10) (N := none) #[true, true, true, true, true, true, true, true, true, true, true] rfl rfl (one_of HT_.out (by kernel_rfl)) (by decide) (fun K hK => ?_)
                            refine skip_ (w1 := ?_) (by rfl) rfl ?_ ?_
                            rotate_left
                            · go_simp
                              rfl
                            refine hK.out _ _ ?_
                            clear hK K
                            refine done_ (done_of HT_.out (by kernel_rfl)) ?_
                            try go_wp2
                            (try simp only [← hl6_2])
                            go_roundg k2
                            case measure => have := HK1.out; have := HK2.out; omega
                            case rel => exact ⟨(y135), (wrap64 (x25_2 + 1)), (by first | rfl | (simp; done) | (simp [*]; done)), H', ⟨by have := HK1.out; have := HK2.out; omega⟩, ⟨by (try simp only [hl6_1]); (try simp only [hl6_2]); (with_reducible repeat (first | apply Kd.S_alloc | apply Kd.S_drewN | apply Kd.S_drew)); exact HQ15.out⟩, ⟨by repeat (first | (with_reducible first | exact HB.out | apply below_alloc | apply pw_below_drewN | apply below_drew1 | refine below_set ?_ GB13.out) | exact HB.out)⟩⟩
                          · rw [if_neg c12] at H
                            exact absurd H (by simp)
                        · rw [if_neg c11] at H
                          exact absurd H (by simp)
                      · rw [if_neg c9] at H
                        exact absurd H (by simp)
                    · rw [if_neg c8] at H
                      exact absurd H (by simp)
                  · rw [if_neg c7] at H
                    have c7b0 : decide (x25_2 < ((rd_L1 x6_1 x21_1).length : Int)) = false := decide_eq_false c7
                    clear c7
                    have H' := Aside0.mk H
                    clear H
                    go_wp2
                    (try simp only [← hl6_1, ← hl6_2])
                    go_roundg k2
                    case measure => have := HK1.out; have := HK2.out; omega
                    case rel => exact ⟨(x6_2), (wrap64 (x21_1 + 1)), (by first | rfl | (simp; done) | (simp [*]; done)), H', ⟨by have := HK1.out; have := HK2.out; omega⟩, ⟨by (try simp only [hl6_1]); (try simp only [hl6_2]); (with_reducible repeat (first | apply Kd.S_alloc | apply Kd.S_drewN | apply Kd.S_drew)); exact HO_6.out⟩, ⟨by repeat (first | (with_reducible first | exact HB.out | apply below_alloc | apply pw_below_drewN | apply below_drew1) | exact HB.out)⟩⟩
            · rw [if_neg d2] at H
              exact absurd H (by simp)
          · rw [if_neg d1] at H
            exact absurd H (by simp)
        · rw [if_neg c6] at H
          have c6b0 : decide (x21_1 < (t126.length : Int)) = false := decide_eq_false c6
          have c6b1 : decide (x21_1 < (x6_1.length : Int)) = false := by rw [← hl6_1]; exact c6b0
          clear c6
          obtain rfl := Option.some.inj H
          go_wp2
          go_ret2
          exact ⟨_, by first | rfl | (simp [errW_none, errW_some] <;> rfl) | (simp [*, errW_none, errW_some] <;> rfl), by (with_reducible repeat (first | apply Kd.S_alloc | apply Kd.S_drewN | apply Kd.S_drew)); exact HO_6.out, by repeat (first | (with_reducible first | exact HB.out | apply below_alloc | apply pw_below_drewN | apply below_drew1) | exact HB.out)⟩

end Go.Proofs.YthigdbokhghbjaaDoor.Mat
