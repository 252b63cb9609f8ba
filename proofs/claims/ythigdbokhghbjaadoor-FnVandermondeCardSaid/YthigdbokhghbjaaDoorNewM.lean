/-
  The walks of newMatrix, identityMatrix and ZZIdentity, for one row and one column and more: a matrix of noughts; ones in its diagonal.
-/
import Derived.Test.YthigdbokhghbjaaDoorBase
import Derived.WalkSpells
namespace Go.Proofs.YthigdbokhghbjaaDoor.Mat
open Go.RowKit Go.Proofs.YthigdbokhghbjaaDoorW.PrintWords Go.Proofs.YthigdbokhghbjaaDoorW.PrintLast Go.Proofs.YthigdbokhghbjaaDoorW.PrintMore
open Go.Proofs.YthigdbokhghbjaaDoor.Base
attribute [local go_sem] max2_int min2_int max_two min_two max_three min_three max_four min_four
set_option linter.unusedVariables false
set_option linter.unusedSimpArgs false

def reedsolomon_newMatrix.l0 : Nat → Int → List (List Int) → Int → Int → Option ((List (List Int)) × Option Int)
  | 0, _, _, _, _ => none
  | k + 1, x1, x6, x17, x18 => if x18 < x17 then (if 0 ≤ x1 then (if (x1 : Int).toNat ≤ 281474976710656 then (if 0 ≤ x18 then (if x18 < (x6.length : Int) then (reedsolomon_newMatrix.l0 k x1 (x6.set (x18 : Int).toNat (List.replicate (x1 : Int).toNat 0)) x17 (wrap64 (x18 + 1))) else (none)) else (none)) else (none)) else (none)) else (some (x6, none))
def reedsolomon_newMatrix.f (k : Nat) (a0 : Int) (a1 : Int) : Option ((List (List Int)) × Option Int) := if a0 ≤ 0 then none else (if a1 ≤ 0 then none else (if 0 ≤ a0 then (if (a0 : Int).toNat ≤ 11728124029610 then (reedsolomon_newMatrix.l0 k a1 (List.replicate (a0 : Int).toNat []) ((List.replicate (a0 : Int).toNat ([] : List Int)).length : Int) 0) else (none)) else (none)))
set_option maxHeartbeats 8000000 in
set_option maxRecDepth 100000 in
theorem reedsolomon_newMatrix.calls (k : Nat) (a0 : Int) (a1 : Int) (r1 : List (List Int)) (r2 : Option Int) (w : World) (h : reedsolomon_newMatrix.f k a0 a1 = some (r1, r2)) :
    Calls Tryd.prog 23 #[.int .i64 a0, .int .i64 a1] w fun e w' => ∃ v0_ : Value, e = .returned (.tuple #[v0_, errW r2]) ∧ Kd.S (Kd.slice 5 (Kd.int .u8)) 41 w' w.heap.size (fun _ => True) v0_ r1 ∧ Below w.heap.size w w' := by
  have hu38 := Tryd.underlying38
  have HB := Aside0.mk (Below.refl w.heap.size w)
  have H : (if a0 ≤ 0 then none else (if a1 ≤ 0 then none else (if 0 ≤ a0 then (if (a0 : Int).toNat ≤ 11728124029610 then (reedsolomon_newMatrix.l0 k a1 (List.replicate (a0 : Int).toNat []) ((List.replicate (a0 : Int).toNat ([] : List Int)).length : Int) 0) else (none)) else (none)))) = some (r1, r2) := h
  clear h
  by_cases c3 : a0 ≤ 0
  · rw [if_pos c3] at H
    exact absurd H (by simp)
  · rw [if_neg c3] at H
    have c3b0 : decide (a0 ≤ 0) = false := decide_eq_false c3
    clear c3
    by_cases c4 : a1 ≤ 0
    · rw [if_pos c4] at H
      exact absurd H (by simp)
    · rw [if_neg c4] at H
      have c4b0 : decide (a1 ≤ 0) = false := decide_eq_false c4
      clear c4
      by_cases c5 : 0 ≤ a0
      · rw [if_pos c5] at H
        have c5b0 := eq_true c5
        have c5b1 : decide (0 ≤ a0) = true := decide_eq_true c5
        clear c5
        by_cases c6 : (a0 : Int).toNat ≤ 11728124029610
        · rw [if_pos c6] at H
          have c6b0 := eq_true c6
          have c6b1 : decide ((a0 : Int).toNat ≤ 11728124029610) = true := decide_eq_true c6
          clear c6
          obtain ⟨y116, hy116⟩ : ∃ y_ : List (List Int), y_ = (List.replicate (a0 : Int).toNat []) := ⟨_, rfl⟩
          replace H : (reedsolomon_newMatrix.l0 k a1 y116 (y116.length : Int) 0) = some (r1, r2) := by first | (rw [hy116]; with_reducible exact H) | (have H2_ := (Option.bind_some _ _).symm.trans H; rw [hy116]; with_reducible exact H2_) | (have H2_ := (Option.bind_some _ _).symm.trans H; with_reducible exact H2_) | with_reducible exact H | (rw [hy116]; exact H) | exact H
          have Ny116 := Aside0.mk hy116
          clear hy116
          have H' := Aside0.mk H
          clear H
          go_enter Tryd.func23, Tryd.ntmps23
          go_wp2_with (first | ((with_reducible refine gate_dst (N := 15) rfl ?_); refine Kd.S_make (Kd.slice 5 (Kd.int .u8)) _ 41 rfl (N := 15) rfl 25 _ _ rfl a0 rfl rfl Tryd.underlying25 (.slice none 0 0) 24 info41 rfl (by decide) (by omega) [] (ok := fun _ => True) (okp := fun _ => True) ⟨_, rfl, Kd.R_nil _ _ _ _ _⟩ (fun _ hk => hk) trivial (of_decide_eq_true (by first | (with_reducible assumption) | assumption)) (Nat.le_trans (Nat.mul_le_mul_right _ (of_decide_eq_true (by first | (with_reducible assumption) | assumption) : a0.toNat ≤ 11728124029610)) (by omega)) (Below.refl _ _) (Nat.le_refl _) ?_; intro v117 w7 ho8 hb hg_ hnew_; clear hg_ hnew_; (first | rw [← Ny116.out] at ho8 | (simp only [Int.reduceToNat] at ho8; rw [← Ny116.out] at ho8)); have n0_ := Aside0.mk (Kd.S_lower ho8 (below_size (by repeat (first | (with_reducible first | exact HB.out | apply below_alloc | apply pw_below_drewN | apply below_drew1) | exact HB.out)))); have n1_ := Aside0.mk (below_step (by repeat (first | (with_reducible first | exact HB.out | apply below_alloc | apply pw_below_drewN | apply below_drew1) | exact HB.out)) hb); clear HB; have HO118 := n0_; have HB := n1_; clear n0_ n1_; clear hb ho8; obtain ⟨Ao9, co9, eo9⟩ := Kd.S_slice HO118.out; subst eo9))
          go_loopg [18] k (fun kq v18 w' => ∃ (x6_1 : List (List Int)) (x18_1 : Int), v18 = .int .i64 x18_1 ∧ Aside0 (reedsolomon_newMatrix.l0 kq a1 x6_1 (y116.length : Int) x18_1 = some (r1, r2)) ∧ Aside0 (kq ≤ k) ∧ Aside0 (Kd.S (Kd.slice 5 (Kd.int .u8)) 41 w' w.heap.size (fun _ => True) (.slice Ao9 y116.length co9) x6_1) ∧ Aside0 (Below w.heap.size w w'))
          case atStart => exact ⟨(y116), (0), (by first | rfl | (simp; done) | (simp [*]; done)), H', ⟨Nat.le_refl _⟩, ⟨by (with_reducible repeat (first | apply Kd.S_alloc | apply Kd.S_drewN | apply Kd.S_drew)); exact HO118.out⟩, ⟨by repeat (first | (with_reducible first | exact HB.out | apply below_alloc | apply pw_below_drewN | apply below_drew1) | exact HB.out)⟩⟩
          case round =>
            clear H'
            try clear c1
            try clear p2
            try clear c3
            try clear c3b0
            try clear c4
            try clear c4b0
            try clear c5
            try clear c5b0
            try clear c5b1
            try clear c6
            try clear c6b0
            try clear c6b1
            obtain ⟨x6_1, x18_1, rfl, HA, HK1, HO_6, HB⟩ := hrel
            have hl6_1 := (Kd.S_reads' HO_6.out).1
            rw [hl6_1] at HO_6
            (try simp only [hl6_1])
            cases gk with
            | zero => exact absurd HA.out (by simp [reedsolomon_newMatrix.l0])
            | succ k1 =>
              have H := HA.out
              clear HA
              simp only [reedsolomon_newMatrix.l0] at H
              by_cases c10 : x18_1 < (y116.length : Int)
              · rw [if_pos c10] at H
                have c10b0 : decide (x18_1 < (y116.length : Int)) = true := decide_eq_true c10
                clear c10
                by_cases c11 : 0 ≤ a1
                · rw [if_pos c11] at H
                  have c11b0 := eq_true c11
                  have c11b1 : decide (0 ≤ a1) = true := decide_eq_true c11
                  clear c11
                  by_cases c12 : (a1 : Int).toNat ≤ 281474976710656
                  · rw [if_pos c12] at H
                    have c12b0 := eq_true c12
                    have c12b1 : decide ((a1 : Int).toNat ≤ 281474976710656) = true := decide_eq_true c12
                    clear c12
                    obtain ⟨y119, hy119⟩ : ∃ y_ : List Int, y_ = (List.replicate (a1 : Int).toNat 0) := ⟨_, rfl⟩
                    replace H : (if 0 ≤ x18_1 then (if x18_1 < (x6_1.length : Int) then (reedsolomon_newMatrix.l0 k1 a1 (x6_1.set (x18_1 : Int).toNat y119) (y116.length : Int) (wrap64 (x18_1 + 1))) else (none)) else (none)) = some (r1, r2) := by first | (rw [hy119]; with_reducible exact H) | (have H2_ := (Option.bind_some _ _).symm.trans H; rw [hy119]; with_reducible exact H2_) | (have H2_ := (Option.bind_some _ _).symm.trans H; with_reducible exact H2_) | with_reducible exact H | (rw [hy119]; exact H) | exact H
                    have Ny119 := Aside0.mk hy119
                    clear hy119
                    by_cases c13 : 0 ≤ x18_1
                    · rw [if_pos c13] at H
                      have c13b0 : decide (0 ≤ x18_1) = true := decide_eq_true c13
                      clear c13
                      by_cases c14 : x18_1 < (x6_1.length : Int)
                      · rw [if_pos c14] at H
                        have c14b0 : decide (x18_1 < (x6_1.length : Int)) = true := decide_eq_true c14
                        clear c14
                        obtain ⟨y122, hy122⟩ : ∃ y_ : List (List Int), y_ = (x6_1.set (x18_1 : Int).toNat y119) := ⟨_, rfl⟩
                        replace H : (reedsolomon_newMatrix.l0 k1 a1 y122 (y116.length : Int) (wrap64 (x18_1 + 1))) = some (r1, r2) := by first | (rw [hy122]; with_reducible exact H) | (have H2_ := (Option.bind_some _ _).symm.trans H; rw [hy122]; with_reducible exact H2_) | (have H2_ := (Option.bind_some _ _).symm.trans H; with_reducible exact H2_) | with_reducible exact H | (rw [hy122]; exact H) | exact H
                        have Ny122 := Aside0.mk hy122
                        clear hy122
                        have H' := Aside0.mk H
                        clear H
                        go_wp2_with (first | ((with_reducible refine gate_dst (N := 24) rfl ?_); refine Kd.R_make (Kd.int .u8) _ 5 rfl (N := 24) rfl 41 _ _ rfl a1 rfl rfl Tryd.underlying41 (.int .u8 0) 1 info5 rfl (by decide) (by omega) 0 (ok := fun _ => True) (okp := fun _ => True) rfl (fun _ hk => hk) trivial (of_decide_eq_true (by first | (with_reducible assumption) | assumption)) (Nat.le_trans (Nat.mul_le_mul_right _ (of_decide_eq_true (by first | (with_reducible assumption) | assumption) : a1.toNat ≤ 281474976710656)) (by omega)) (Below.refl _ _) (Nat.le_refl _) ?_; intro v120 w16 ho17 hb hg_ hnew_; clear hg_ hnew_; (first | rw [← Ny119.out] at ho17 | (simp only [Int.reduceToNat] at ho17; rw [← Ny119.out] at ho17)); have n0_ := Aside0.mk (Kd.S_elder' (by (with_reducible repeat (first | apply Kd.S_alloc | apply Kd.S_drewN | apply Kd.S_drew)); exact HO_6.out) (Kd.R_base ho17) hb); have n1_ := Aside0.mk (Kd.R_lower ho17 (below_size (by repeat (first | (with_reducible first | exact HB.out | apply below_alloc | apply pw_below_drewN | apply below_drew1) | exact HB.out)))); have n2_ := Aside0.mk (below_step (by repeat (first | (with_reducible first | exact HB.out | apply below_alloc | apply pw_below_drewN | apply below_drew1) | exact HB.out)) hb); clear HO_6; clear HB; have HO_6 := n0_; have HO121 := n1_; have HB := n2_; clear n0_ n1_ n2_; clear hb ho17; obtain ⟨Av, cv, ev_⟩ := Kd.R_slice HO121.out; subst ev_; have p15 : 0 ≤ (x18_1 : Int) := of_decide_eq_true (by first | (with_reducible assumption) | assumption); have q15 : (x18_1 : Int) < ((x6_1.length : Int) : Int) := of_decide_eq_true (by first | (with_reducible assumption) | assumption); obtain ⟨go15, co15, eo15, gb15, gl15, cl15, HG15⟩ := Kd.S_form HO_6.out (by omega); (first | cases eo15 | (injection eo15 with ea_ en_ ec_; (first | subst ea_ | (injection ea_ with ea_; subst ea_)); subst ec_; clear en_)); have GB15 := Aside0.mk gb15; have GG15 := Aside0.mk HG15; clear gb15 gl15 HG15; obtain ⟨_, ce15, hcl15, hM15, hcc15, hfr15, _, _⟩ := Kd.S_elem HO_6.out [] (x18_1 : Int) p15 q15; obtain ⟨ve15_0, rfl, ge15_0⟩ := hM15; have hx15_0 := hcc15 0 _ rfl; have hf15_0 := hfr15 0; (try simp only [show ((Kd.slice 5 (Kd.int .u8))).sz = 1 from rfl, Nat.mul_one, Nat.add_zero] at hx15_0); (try simp only [show ((Kd.slice 5 (Kd.int .u8))).sz = 1 from rfl, Nat.mul_one, Nat.add_zero] at hf15_0); (try clear hcl15); (try clear hcc15); (try clear hfr15); (try clear hM15); replace p15 := eq_true p15; replace q15 := eq_true q15; have n_ := Aside0.mk (Kd.S_mono (ok' := (fun k_ => some k_ ≠ (Value.slice Av y119.length cv).ownBlock)) HO_6.out (fun k_ hk => hk.2)); clear HO_6; have HO_6 := n_; clear n_; have HX18 := Aside0.mk (show Kd.S (Kd.slice 5 (Kd.int .u8)) 41 w16 w.heap.size (fun k_ => ((fun _ => True)) k_ ∧ ¬ ((fun k_ => some k_ = (Value.slice Av y119.length cv).ownBlock)) k_) (.slice (some ⟨go15, 0, none⟩) x6_1.length co9) x6_1 from (by (with_reducible repeat (first | apply Kd.S_alloc | apply Kd.S_drewN | apply Kd.S_drew)); exact Kd.S_mono HO_6.out (fun k_ hk => ⟨trivial, fun e_ => hk e_⟩))); obtain ⟨oki18, ce18, hcl18, hM18, hcc18, hfr18, hoki18, hH18⟩ := Kd.S_elem HX18.out [] (x18_1 : Int) (of_decide_eq_true (by first | (with_reducible assumption) | assumption)) (by have h_ : (x18_1 : Int) < ((x6_1.length : Int) : Int) := of_decide_eq_true (by first | (with_reducible assumption) | assumption); first | exact h_ | (have e_ := (Kd.S_reads' HO_6.out).1; omega) | simpa using h_); obtain ⟨ve18_0, rfl, ge18_0⟩ := hM18; have HP18 := Kd.S_seg hH18 (of_decide_eq_true (by first | (with_reducible assumption) | assumption)) (by have h_ : (x18_1 : Int) < ((x6_1.length : Int) : Int) := of_decide_eq_true (by first | (with_reducible assumption) | assumption); first | exact h_ | (have e_ := (Kd.S_reads' HO_6.out).1; omega) | simpa using h_) (seg := [(Value.slice Av y119.length cv)]) (j := 0) (show 1 ≤ 1 from by decide) (x' := y119) (Kd.M_row (Kd.R_mono (Kd.R_tight rfl (Kd.R_mono (ok' := fun k_ => ((fun _ => True)) k_ ∧ k_ ≠ go15) (Kd.R_apart' (HO121.out) (Kd.S_typed HO_6.out) (by decide)) (fun k_ hk => ⟨trivial, fun e_ => (hk.2) (by rw [e_]; rfl)⟩))) (fun _ h_ => Or.inr (h_)))) (fun _ hk => hk) (fun k_ hk_ => ((Kd.R_mono (ok' := fun k_ => ((fun _ => True)) k_ ∧ k_ ≠ go15) (Kd.R_apart' (HO121.out) (Kd.S_typed HO_6.out) (by decide)) (fun k_ hk => ⟨trivial, fun e_ => (hk.2) (by rw [e_]; rfl)⟩))).1 k_ hk_.symm); have hx18_0 := hcc18 0 _ rfl; (try simp only [show ((Kd.slice 5 (Kd.int .u8))).sz = 1 from rfl, Nat.mul_one, Nat.add_zero] at hx18_0); have hf18_0 := hfr18 0; (try simp only [show ((Kd.slice 5 (Kd.int .u8))).sz = 1 from rfl, Nat.mul_one, Nat.add_zero] at hf18_0); (try clear hcl18); (try clear hcc18); (try clear hfr18); (try clear hM18); (try clear hoki18); (try clear hH18); (try simp only [show ((Kd.slice 5 (Kd.int .u8))).sz = 1 from rfl, Nat.mul_one, Nat.add_zero] at HP18)) | ((with_reducible refine gate_store (t := 41) (p := 25) rfl ?_); refine store_event (t := 41) (p := 25) (v := ?vo_w19) (w1 := (w16.setCell ⟨go15, (x18_1 : Int).toNat, none⟩ ((Value.slice Av y119.length cv)))) ?hg ?ho ?hn ?hr ?_; (case ho => rfl); (case hg => rfl); (case hn => rfl); (case hr => first | (go_simp; done) | (go_simp; rfl)); intro w19 hw; have hg : w16.grownBy w19 (some go15) := (by rw [hw]; exact HP18.2); have hp_ : Kd.S (Kd.slice 5 (Kd.int .u8)) 41 w19 w.heap.size (fun _ => True) (.slice (some ⟨go15, 0, none⟩) x6_1.length co9) y122 := (by rw [hw, Ny122.out]; exact HP18.1); clear HP18; have n0_ := Aside0.mk (hp_); have n1_ := Aside0.mk ((by rw [hw]; exact below_set (HB.out) GB15.out : Below w.heap.size w w19)); clear HO_6; clear HB; clear HO121; have HO_6 := n0_; have HB := n1_; clear n0_ n1_; clear hg hw hp_))
                        (try simp only [← hl6_1])
                        go_roundg k1
                        case measure => have := HK1.out; omega
                        case rel => exact ⟨(y122), (wrap64 (x18_1 + 1)), (by first | rfl | (simp; done) | (simp [*]; done)), H', ⟨by have := HK1.out; omega⟩, ⟨by (try simp only [hl6_1]); (with_reducible repeat (first | apply Kd.S_alloc | apply Kd.S_drewN | apply Kd.S_drew)); exact HO_6.out⟩, ⟨by repeat (first | (with_reducible first | exact HB.out | apply below_alloc | apply pw_below_drewN | apply below_drew1) | exact HB.out)⟩⟩
                      · rw [if_neg c14] at H
                        exact absurd H (by simp)
                    · rw [if_neg c13] at H
                      exact absurd H (by simp)
                  · rw [if_neg c12] at H
                    exact absurd H (by simp)
                · rw [if_neg c11] at H
                  exact absurd H (by simp)
              · rw [if_neg c10] at H
                have c10b0 : decide (x18_1 < (y116.length : Int)) = false := decide_eq_false c10
                have c10b1 : decide (x18_1 < (x6_1.length : Int)) = false := by rw [← hl6_1]; exact c10b0
                clear c10
                simp only [Option.some.injEq, Prod.mk.injEq] at H
                obtain ⟨rfl, rfl⟩ := H
                go_wp2
                go_ret2
                exact ⟨_, by first | rfl | (simp [errW_none, errW_some] <;> rfl) | (simp [*, errW_none, errW_some] <;> rfl), by (with_reducible repeat (first | apply Kd.S_alloc | apply Kd.S_drewN | apply Kd.S_drew)); exact HO_6.out, by repeat (first | (with_reducible first | exact HB.out | apply below_alloc | apply pw_below_drewN | apply below_drew1) | exact HB.out)⟩
        · rw [if_neg c6] at H
          exact absurd H (by simp)
      · rw [if_neg c5] at H
        exact absurd H (by simp)

def reedsolomon_identityMatrix.l0 : Nat → List (List Int) → Int → Int → Option ((List (List Int)) × Option Int)
  | 0, _, _, _ => none
  | k + 1, x4, x17, x18 => if x18 < x17 then (if 0 ≤ x18 then (if x18 < (x4.length : Int) then (if x18 < ((rd_L1 x4 x18).length : Int) then (reedsolomon_identityMatrix.l0 k (x4.set (x18 : Int).toNat ((rd_L1 x4 x18).set (x18 : Int).toNat 1)) x17 (wrap64 (x18 + 1))) else (none)) else (none)) else (none)) else (some (x4, none))
def reedsolomon_identityMatrix.f (k : Nat) (a0 : Int) : Option ((List (List Int)) × Option Int) := (reedsolomon_newMatrix.f k a0 a0).bind fun bt123 => (if bt123.2.isNone = true then (reedsolomon_identityMatrix.l0 k bt123.1 (bt123.1.length : Int) 0) else none)
set_option maxHeartbeats 8000000 in
set_option maxRecDepth 100000 in
theorem reedsolomon_identityMatrix.calls (k : Nat) (a0 : Int) (r1 : List (List Int)) (r2 : Option Int) (w : World) (h : reedsolomon_identityMatrix.f k a0 = some (r1, r2)) :
    Calls Tryd.prog 21 #[.int .i64 a0] w fun e w' => ∃ v0_ : Value, e = .returned (.tuple #[v0_, errW r2]) ∧ Kd.S (Kd.slice 5 (Kd.int .u8)) 41 w' w.heap.size (fun _ => True) v0_ r1 ∧ Below w.heap.size w w' := by
  have hu38 := Tryd.underlying38
  have HB := Aside0.mk (Below.refl w.heap.size w)
  have H : ((reedsolomon_newMatrix.f k a0 a0).bind fun bt123 => (if bt123.2.isNone = true then (reedsolomon_identityMatrix.l0 k bt123.1 (bt123.1.length : Int) 0) else none)) = some (r1, r2) := h
  clear h
  replace H := Option.bind_eq_some_iff.mp H
  obtain ⟨⟨t123, t124⟩, A20, H⟩ := H
  replace H : (if t124.isNone = true then (reedsolomon_identityMatrix.l0 k t123 (t123.length : Int) 0) else none) = some (r1, r2) := H
  have A2 := Aside0.mk A20
  clear A20
  rcases t124 with _ | q127
  · have H1 : (reedsolomon_identityMatrix.l0 k t123 (t123.length : Int) 0) = some (r1, r2) := by rw [if_pos (show (none : Option Int).isNone = true by rfl)] at H; exact H
    clear H
    have H := H1
    clear H1
    try simp only [errW_none, errW_some]
    have H' := Aside0.mk H
    clear H
    go_enter Tryd.func21, Tryd.ntmps21
    go_wp2_with (first | ((with_reducible refine gate_callee (f := 23) rfl ?_); refine goesL_ (some 10) rfl rfl Tryd.func23 (by kernel_rfl) rfl #[.int .i64 a0, .int .i64 a0] rfl (by (try simp only [List.map_toArray, List.map_cons, List.map_nil]); first | done | rfl | (simp only [List.length_drop, List.length_take]; rfl)) ?_; (with_reducible refine (reedsolomon_newMatrix.calls k a0 a0 t123 none _ A2.out).mono ?_); rintro e w3 ⟨v125, rfl, ho0, hb⟩; refine ⟨_, rfl, ?_⟩; have n0_ := Aside0.mk (Kd.S_lower ho0 (below_size (by repeat (first | (with_reducible first | exact HB.out | apply below_alloc | apply pw_below_drewN | apply below_drew1) | exact HB.out)))); have n1_ := Aside0.mk (below_step (by repeat (first | (with_reducible first | exact HB.out | apply below_alloc | apply pw_below_drewN | apply below_drew1) | exact HB.out)) hb); clear HB; have HO126 := n0_; have HB := n1_; clear n0_ n1_; (try clear hb); (try clear hb2); (try clear hk); (try clear hi); (try clear ho0); (try simp only [errW_none, errW_some]); obtain ⟨Ao4, co4, eo4⟩ := Kd.S_slice HO126.out; subst eo4))
    go_loopg [18] k (fun kq v18 w' => ∃ (x4_1 : List (List Int)) (x18_1 : Int), v18 = .int .i64 x18_1 ∧ Aside0 (reedsolomon_identityMatrix.l0 kq x4_1 (t123.length : Int) x18_1 = some (r1, r2)) ∧ Aside0 (kq ≤ k) ∧ Aside0 (Kd.S (Kd.slice 5 (Kd.int .u8)) 41 w' w.heap.size (fun _ => True) (.slice Ao4 t123.length co4) x4_1) ∧ Aside0 (Below w.heap.size w w'))
    case atStart => exact ⟨(t123), (0), (by first | rfl | (simp; done) | (simp [*]; done)), H', ⟨Nat.le_refl _⟩, ⟨by (with_reducible repeat (first | apply Kd.S_alloc | apply Kd.S_drewN | apply Kd.S_drew)); exact HO126.out⟩, ⟨by repeat (first | (with_reducible first | exact HB.out | apply below_alloc | apply pw_below_drewN | apply below_drew1) | exact HB.out)⟩⟩
    case round =>
      clear H'
      try clear c1
      try clear q1
      try clear p2
      try clear q127
      obtain ⟨x4_1, x18_1, rfl, HA, HK1, HO_4, HB⟩ := hrel
      have hl4_1 := (Kd.S_reads' HO_4.out).1
      rw [hl4_1] at HO_4
      (try simp only [hl4_1])
      cases gk with
      | zero => exact absurd HA.out (by simp [reedsolomon_identityMatrix.l0])
      | succ k1 =>
        have H := HA.out
        clear HA
        simp only [reedsolomon_identityMatrix.l0] at H
        by_cases c5 : x18_1 < (t123.length : Int)
        · rw [if_pos c5] at H
          have c5b0 : decide (x18_1 < (t123.length : Int)) = true := decide_eq_true c5
          clear c5
          by_cases c6 : 0 ≤ x18_1
          · rw [if_pos c6] at H
            have c6b0 : decide (0 ≤ x18_1) = true := decide_eq_true c6
            clear c6
            by_cases c7 : x18_1 < (x4_1.length : Int)
            · rw [if_pos c7] at H
              have c7b0 : decide (x18_1 < (x4_1.length : Int)) = true := decide_eq_true c7
              clear c7
              by_cases c8 : x18_1 < ((rd_L1 x4_1 x18_1).length : Int)
              · rw [if_pos c8] at H
                have c8b0 : decide (x18_1 < ((rd_L1 x4_1 x18_1).length : Int)) = true := decide_eq_true c8
                clear c8
                obtain ⟨y129, hy129⟩ : ∃ y_ : List Int, y_ = ((rd_L1 x4_1 x18_1).set (x18_1 : Int).toNat 1) := ⟨_, rfl⟩
                replace H : (reedsolomon_identityMatrix.l0 k1 (x4_1.set (x18_1 : Int).toNat y129) (t123.length : Int) (wrap64 (x18_1 + 1))) = some (r1, r2) := by first | (rw [hy129]; with_reducible exact H) | (have H2_ := (Option.bind_some _ _).symm.trans H; rw [hy129]; with_reducible exact H2_) | (have H2_ := (Option.bind_some _ _).symm.trans H; with_reducible exact H2_) | with_reducible exact H | (rw [hy129]; exact H) | exact H
                have Ny129 := Aside0.mk hy129
                clear hy129
                obtain ⟨y131, hy131⟩ : ∃ y_ : List (List Int), y_ = (x4_1.set (x18_1 : Int).toNat y129) := ⟨_, rfl⟩
                replace H : (reedsolomon_identityMatrix.l0 k1 y131 (t123.length : Int) (wrap64 (x18_1 + 1))) = some (r1, r2) := by first | (rw [hy131]; with_reducible exact H) | (have H2_ := (Option.bind_some _ _).symm.trans H; rw [hy131]; with_reducible exact H2_) | (have H2_ := (Option.bind_some _ _).symm.trans H; with_reducible exact H2_) | with_reducible exact H | (rw [hy131]; exact H) | exact H
                have Ny131 := Aside0.mk hy131
                clear hy131
                have H' := Aside0.mk H
                clear H
                have p128 : 0 ≤ (x18_1 : Int) := of_decide_eq_true (by first | (with_reducible assumption) | assumption)
                have q128 : x18_1 < (x4_1.length : Int) := of_decide_eq_true (by first | (with_reducible assumption) | assumption)
                obtain ⟨ad128, A128_0, c128_0, e128, hx128_0, hl128_0, hi128_0⟩ := at_L1 (Kd.S_reads' HO_4.out).2.2 x18_1 p128 q128
                cases e128
                obtain ⟨ce128, hce128, hMe128, hcc128⟩ := Kd.S_get HO_4.out [] x18_1 p128 (by first | exact q128 | exact of_decide_eq_true (by first | (with_reducible assumption) | assumption) | (have e_ := (Kd.S_reads' HO_4.out).1; omega))
                obtain ⟨ve128_0, rfl, ge128_0⟩ := hMe128
                have hv128_0 := hcc128 0 _ rfl
                rw [Nat.add_zero, show ((Kd.slice 5 (Kd.int .u8))).sz = 1 from rfl, Nat.mul_one] at hv128_0
                replace hv128_0 := Option.some.inj (hv128_0.symm.trans hx128_0)
                rw [hv128_0] at ge128_0
                have HL128_0 := Aside0.mk (show Kd.R (Kd.int .u8) 5 _ _ _ _ (rd_L1 x4_1 x18_1) from ge128_0)
                clear hv128_0 ge128_0
                have HX128_0 := Aside0.mk hx128_0
                clear hcc128 hce128
                have HR128_0 := Aside0.mk hi128_0
                have HC128_0 := Aside0.mk hl128_0
                clear hi128_0 hl128_0
                replace p128 := eq_true p128
                replace q128 := eq_true q128
                have p9 : 0 ≤ (x18_1 : Int) := of_decide_eq_true (by first | (with_reducible assumption) | assumption)
                have q9 : (x18_1 : Int) < (((rd_L1 x4_1 x18_1).length : Int) : Int) := of_decide_eq_true (by first | (with_reducible assumption) | assumption)
                obtain ⟨go9, co9, eo9, gb9, gl9, cl9, HG9⟩ := Kd.R_form HL128_0.out (by omega)
                (first | cases eo9 | (injection eo9 with ea_ en_ ec_; (first | subst ea_ | (injection ea_ with ea_; subst ea_)); subst ec_; clear en_))
                have GB9 := Aside0.mk gb9
                have GG9 := Aside0.mk HG9
                clear gb9 gl9 HG9
                obtain ⟨hx9_0, hf9_0⟩ := Kd.R_celln 0 HL128_0.out (x18_1 : Int) p9 q9
                replace p9 := eq_true p9
                replace q9 := eq_true q9
                have hq10 : (x18_1 : Int) < (x4_1.length : Int) := (by have h_ : (x18_1 : Int) < ((x4_1.length : Int) : Int) := of_decide_eq_true (by first | (with_reducible assumption) | assumption); first | exact h_ | (have e_ := (Kd.S_reads' HO_4.out).1; omega) | simpa only [List.length_set, List.length_set] using h_)
                obtain ⟨oki10, ce10, hcl10, hM10, hcc10, hok10, hbk10⟩ := Kd.S_borrow HO_4.out [] (x18_1 : Int) (of_decide_eq_true (by first | (with_reducible assumption) | assumption)) hq10
                obtain ⟨ve10_0, rfl, ge10_0⟩ := hM10
                have hv10 := hcc10 0 _ rfl
                rw [Nat.add_zero, show ((Kd.slice 5 (Kd.int .u8))).sz = 1 from rfl, Nat.mul_one] at hv10
                replace hv10 := Option.some.inj (hv10.symm.trans HX128_0.out)
                subst hv10
                clear hcc10 hcl10
                replace ge10_0 := (show Kd.R (Kd.int .u8) 5 _ _ _ _ (rd_L1 x4_1 x18_1) from ge10_0)
                have HP10 := Kd.R_putg ge10_0 (x18_1 : Int) 1
                go_wp2_with (first | ((with_reducible refine gate_store (t := 5) (p := 26) rfl ?_); refine store_event (t := 5) (p := 26) (v := ?vo_w11) (w1 := (wr.setCell ⟨go9, (x18_1 : Int).toNat, none⟩ (.int .u8 1))) ?hg ?ho ?hn ?hr ?_; (case ho => rfl); (case hg => rfl); (case hn => rfl); (case hr => first | (go_simp; done) | (go_simp; rfl)); intro w11 hw; have hg : wr.grownBy w11 (some go9) := (by rw [hw]; exact HP10.2); have hz_ : Kd.R (Kd.int .u8) 5 w11 w.heap.size oki10 (.slice (some ⟨go9, 0, none⟩) (rd_L1 x4_1 x18_1).length c128_0) y129 := (by rw [hw, Ny129.out]; exact HP10.1); have hp_ : Kd.S (Kd.slice 5 (Kd.int .u8)) 41 w11 w.heap.size (fun _ => True) (.slice (some ad128) x4_1.length co4) y131 := (by rw [Ny131.out]; exact hbk10 hg (fun k_ e_ => by injection e_ with e_; subst e_; exact ge10_0.1 _ rfl) (Kd.M_row hz_)); have hm_ := Kd.R_mono hz_ hok10; clear HP10 hbk10; have n0_ := Aside0.mk (hp_); have n1_ := Aside0.mk ((by rw [hw]; exact below_set (HB.out) GB9.out : Below w.heap.size w w11)); have n2_ := Aside0.mk (hm_); have n3_ := Aside0.mk ((Kd.R_reads' hm_).2.1); clear HO_4; clear HB; clear HL128_0; have HO_4 := n0_; have HB := n1_; have HL132 := n2_; have HC130 := n3_; clear n0_ n1_ n2_ n3_; clear hg hw hp_ hz_ hm_ hok10))
                (try simp only [← hl4_1])
                go_roundg k1
                case measure => have := HK1.out; omega
                case rel => exact ⟨(y131), (wrap64 (x18_1 + 1)), (by first | rfl | (simp; done) | (simp [*]; done)), H', ⟨by have := HK1.out; omega⟩, ⟨by (try simp only [hl4_1]); (with_reducible repeat (first | apply Kd.S_alloc | apply Kd.S_drewN | apply Kd.S_drew)); exact HO_4.out⟩, ⟨by repeat (first | (with_reducible first | exact HB.out | apply below_alloc | apply pw_below_drewN | apply below_drew1) | exact HB.out)⟩⟩
              · rw [if_neg c8] at H
                exact absurd H (by simp)
            · rw [if_neg c7] at H
              exact absurd H (by simp)
          · rw [if_neg c6] at H
            exact absurd H (by simp)
        · rw [if_neg c5] at H
          have c5b0 : decide (x18_1 < (t123.length : Int)) = false := decide_eq_false c5
          have c5b1 : decide (x18_1 < (x4_1.length : Int)) = false := by rw [← hl4_1]; exact c5b0
          clear c5
          simp only [Option.some.injEq, Prod.mk.injEq] at H
          obtain ⟨rfl, rfl⟩ := H
          go_wp2
          go_ret2
          exact ⟨_, by first | rfl | (simp [errW_none, errW_some] <;> rfl) | (simp [*, errW_none, errW_some] <;> rfl), by (with_reducible repeat (first | apply Kd.S_alloc | apply Kd.S_drewN | apply Kd.S_drew)); exact HO_4.out, by repeat (first | (with_reducible first | exact HB.out | apply below_alloc | apply pw_below_drewN | apply below_drew1) | exact HB.out)⟩
  · rw [if_neg (show ¬ (some q127).isNone = true by simp)] at H
    exact absurd H (by simp)

def reedsolomon_ZZIdentity.f (k : Nat) (a0 : Int) : Option ((List (List Int)) × Option Int) := (reedsolomon_identityMatrix.f k a0).bind fun bt133 => (some (bt133.1, bt133.2))
set_option maxHeartbeats 8000000 in
set_option maxRecDepth 100000 in
theorem reedsolomon_ZZIdentity.calls (k : Nat) (a0 : Int) (r1 : List (List Int)) (r2 : Option Int) (w : World) (h : reedsolomon_ZZIdentity.f k a0 = some (r1, r2)) :
    Calls Tryd.prog 16 #[.int .i64 a0] w fun e w' => ∃ v0_ : Value, e = .returned (.tuple #[v0_, errW r2]) ∧ Kd.S (Kd.slice 5 (Kd.int .u8)) 41 w' w.heap.size (fun _ => True) v0_ r1 ∧ Below w.heap.size w w' := by
  have HB := Aside0.mk (Below.refl w.heap.size w)
  have H : ((reedsolomon_identityMatrix.f k a0).bind fun bt133 => (some (bt133.1, bt133.2))) = some (r1, r2) := h
  clear h
  replace H := Option.bind_eq_some_iff.mp H
  obtain ⟨⟨t133, t134⟩, A20, H⟩ := H
  replace H : (some (t133, t134)) = some (r1, r2) := H
  have A2 := Aside0.mk A20
  clear A20
  simp only [Option.some.injEq, Prod.mk.injEq] at H
  obtain ⟨rfl, rfl⟩ := H
  go_enter Tryd.func16, Tryd.ntmps16
  go_wp2_with (first | ((with_reducible refine gate_callee (f := 21) rfl ?_); refine goesL_ (some 8) rfl rfl Tryd.func21 (by kernel_rfl) rfl #[.int .i64 a0] rfl (by (try simp only [List.map_toArray, List.map_cons, List.map_nil]); first | done | rfl | (simp only [List.length_drop, List.length_take]; rfl)) ?_; (with_reducible refine (reedsolomon_identityMatrix.calls k a0 t133 t134 _ A2.out).mono ?_); rintro e w3 ⟨v135, rfl, ho0, hb⟩; refine ⟨_, rfl, ?_⟩; have n0_ := Aside0.mk (Kd.S_lower ho0 (below_size (by repeat (first | (with_reducible first | exact HB.out | apply below_alloc | apply pw_below_drewN | apply below_drew1) | exact HB.out)))); have n1_ := Aside0.mk (below_step (by repeat (first | (with_reducible first | exact HB.out | apply below_alloc | apply pw_below_drewN | apply below_drew1) | exact HB.out)) hb); clear HB; have HO136 := n0_; have HB := n1_; clear n0_ n1_; (try clear hb); (try clear hb2); (try clear hk); (try clear hi); (try clear ho0); (try simp only [errW_none, errW_some])))
  go_ret2
  exact ⟨_, by first | rfl | (simp [errW_none, errW_some] <;> rfl) | (simp [*, errW_none, errW_some] <;> rfl), by (with_reducible repeat (first | apply Kd.S_alloc | apply Kd.S_drewN | apply Kd.S_drew)); exact HO136.out, by repeat (first | (with_reducible first | exact HB.out | apply below_alloc | apply pw_below_drewN | apply below_drew1) | exact HB.out)⟩

end Go.Proofs.YthigdbokhghbjaaDoor.Mat
