/-
  The walks of slices.Clone at bytes and of impl.told: a matrix copied, row by row, for every matrix whose rows are shorter than 2^47 - 2 bytes.
-/
import Derived.Test.YthigdbokhghbjaaDoorBase
import Derived.WalkSpells
namespace Go.Proofs.YthigdbokhghbjaaDoor.Mat
open Go.RowKit Go.Proofs.YthigdbokhghbjaaDoorW.PrintWords Go.Proofs.YthigdbokhghbjaaDoorW.PrintLast Go.Proofs.YthigdbokhghbjaaDoorW.PrintMore
open Go.Proofs.YthigdbokhghbjaaDoor.Base
attribute [local go_sem] max2_int min2_int max_two min_two max_three min_three max_four min_four
set_option linter.unusedVariables false
set_option linter.unusedSimpArgs false

set_option maxHeartbeats 8000000 in
set_option maxRecDepth 100000 in
theorem clone_calls (A0 : Option Addr) (c0 : Nat) (l0 : List Int) (w : World) (hr0 : Kd.C (Kd.int .u8) w A0 l0.length l0) (hlen : l0.length < 140737488355328) :
    Calls Tryd.prog 20 #[.slice A0 l0.length c0] w fun e w' => ∃ v0_ : Value, e = .returned (v0_) ∧ Kd.R (Kd.int .u8) 5 w' w.heap.size (fun _ => True) v0_ l0 ∧ Below w.heap.size w w' := by
  cases A0 with
  | none =>
    have hz : l0 = [] := by
      rcases Nat.eq_zero_or_pos l0.length with h | h
      · exact List.length_eq_zero_iff.1 h
      · obtain ⟨ad, e, _⟩ := hr0.2.2 h
        cases e
    subst hz
    have hnil := fun w' => Lib.run_eql_slice_nil (P := Tryd.prog) w' 41 5 none 0 c0 0 0 Tryd.underlying41
    clear hr0
    simp only [List.length_nil]
    go_enter Tryd.func20, Tryd.ntmps20
    go_wp2
    go_ret
    exact ⟨_, rfl, Kd.R_nil _ _ _ _ _, Below.refl _ _⟩
  | some ad =>
    have HR0 := Aside0.mk hr0
    clear hr0
    have HB := Aside0.mk (Below.refl w.heap.size w)
    obtain ⟨y0, hy0⟩ : ∃ y_ : List Int, y_ = ([] : List Int) := ⟨_, rfl⟩
    have LM : Aside0 (y0.length + l0.length < 140737488355328) := ⟨by rw [hy0]; simpa using hlen⟩
    clear hlen
    obtain ⟨y1, hy1⟩ : ∃ y_ : List Int, y_ = (y0 ++ l0) := ⟨_, rfl⟩
    have Hy : Aside0 (y1 = l0) := ⟨by rw [hy1, hy0]; rfl⟩
    have Ny0 := Aside0.mk hy0
    have Ny1 := Aside0.mk hy1
    clear hy0 hy1
    have hnil := fun w' => Lib.run_eql_slice_nil (P := Tryd.prog) w' 41 5 (some ad) l0.length c0 0 0 Tryd.underlying41
    go_enter Tryd.func20, Tryd.ntmps20
    go_wp2_with (first | ((with_reducible refine gate_dst (N := 5) rfl ?_); refine Kd.R_lit (Kd.int .u8) _ 5 ?hg (N := 5) ?hd (xs := ([] : List Int)) (inner := []) (ok := fun _ => True) (okp := fun _ => True) ?hr ?hp (fun _ hk => hk) trivial (Below.refl _ _) (Nat.le_refl _) (by simp) ?_; (case hd => rfl); (case hg => rfl); (case hr => first | (go_simp; done) | (go_simp; rfl)); (case hp => exact (Reps.none _ _)); intro v102 w3 ho4 hb hg_ hnew_; clear hg_ hnew_; (first | rw [← Ny0.out] at ho4 | (simp only [Int.reduceToNat] at ho4; rw [← Ny0.out] at ho4)); have n0_ := Aside0.mk (Kd.R_lower ho4 (below_size (by repeat (first | (with_reducible first | exact HB.out | apply below_alloc | apply pw_below_drewN | apply below_drew1) | exact HB.out)))); have n1_ := Aside0.mk (below_step (by repeat (first | (with_reducible first | exact HB.out | apply below_alloc | apply pw_below_drewN | apply below_drew1) | exact HB.out)) hb); clear HB; have HO103 := n0_; have HB := n1_; clear n0_ n1_; clear hb ho4) | ((with_reducible refine gate_builtin (b := .append) (xs := #[.tmp 5, .tmp 6]) rfl ?_); at_builtin; refine Kd.R_append_rows (Kd.int .u8) (w0 := w) w.heap.size rfl (.tmp 5) (.tmp 6) 41 5 (.int .u8 0) 1 rfl Tryd.underlying41 info5 rfl (by decide) (by omega) v102 y0 l0 _ _ _ (fun _ => True) (fun _ => False) rfl rfl ?aO ?aR (fun _ _ h => h) (fun _ h => h.elim) ?aF ?aB ?aS ?aL ?_; (case aR => repeat (first | exact (Kd.C_below HR0.out HB.out) | (with_reducible refine Kd.C_alloc ?_ _) | (with_reducible refine Kd.C_drewN ?_ _) | (with_reducible refine Kd.C_drew ?_))); (case aB => exact (by repeat (first | (with_reducible first | exact HB.out | apply below_alloc | apply pw_below_drewN | apply below_drew1) | exact HB.out))); (case aF => exact (fun _ _ => trivial)); (case aO => exact (by (with_reducible repeat (first | apply Kd.R_alloc | apply Kd.R_drewN | apply Kd.R_drew)); exact HO103.out)); (case aS => exact (below_size (by repeat (first | (with_reducible first | exact HB.out | apply below_alloc | apply pw_below_drewN | apply below_drew1) | exact HB.out)))); (case aL => have := LM.out; omega); intro v105 w5 ho hb hg hat; rw [← Ny1.out] at ho; have n0_ := Aside0.mk (hb); have n1_ := Aside0.mk (ho); clear HB; clear HO103; have HB := n0_; have HO106 := n1_; clear n0_ n1_; clear ho hb hg hat))
    go_ret
    rw [Hy.out] at HO106
    exact ⟨_, rfl, by (with_reducible repeat (first | apply Kd.R_alloc | apply Kd.R_drewN | apply Kd.R_drew)); exact HO106.out, by repeat (first | (with_reducible first | exact HB.out | apply below_alloc | apply pw_below_drewN | apply below_drew1) | exact HB.out)⟩

/-- What slices.Clone tells of a row that can be copied: the row. -/
def impl_clone0.f (l0 : List Int) : Option (List Int) := if l0.length < 140737488355328 then some l0 else none
theorem impl_clone0.calls (A0 : Option Addr) (c0 : Nat) (l0 : List Int) (r : List Int) (w : World) (hr0 : Kd.C (Kd.int .u8) w A0 l0.length l0) (hc0 : l0.length ≤ c0) (h : impl_clone0.f l0 = some r) :
    Calls Tryd.prog 20 #[.slice A0 l0.length c0] w fun e w' => ∃ v0_ : Value, e = .returned (v0_) ∧ Kd.R (Kd.int .u8) 5 w' w.heap.size (fun _ => True) v0_ r ∧ Below w.heap.size w w' := by
  unfold impl_clone0.f at h
  split at h
  · rename_i hl
    obtain rfl := Option.some.inj h
    exact clone_calls A0 c0 l0 w hr0 hl
  · cases h

def impl_told.l0 : Nat → List (List Int) → List (List Int) → Int → Int → Option ((List (List Int)) × Bool)
  | 0, _, _, _, _ => none
  | k + 1, x0, x6, x14, x15 => if x15 < x14 then (if 0 ≤ x15 then (if x15 < (x0.length : Int) then ((impl_clone0.f (rd_L1 x0 x15)).bind fun t112 => (if x15 < (x6.length : Int) then (impl_told.l0 k x0 (x6.set (x15 : Int).toNat t112) x14 (wrap64 (x15 + 1))) else (none))) else (none)) else (none)) else (some (x6, true))
set_option maxHeartbeats 8000000 in
set_option maxRecDepth 100000 in
theorem impl_told.calls (k : Nat) (A0 : Option Addr) (c0 : Nat) (l0 : List (List Int)) (r1 : List (List Int)) (r2 : Bool) (w : World) (hr0 : Kd.C (Kd.slice 5 (Kd.int .u8)) w A0 l0.length l0) (hc0 : l0.length ≤ c0)
    (h : (if 0 ≤ (l0.length : Int) then (if ((l0.length : Int) : Int).toNat ≤ 11728124029610 then (impl_told.l0 k l0 (List.replicate ((l0.length : Int) : Int).toNat []) (l0.length : Int) 0) else (none)) else (none)) = some (r1, r2)) :
    Calls Tryd.prog 15 #[.slice A0 l0.length c0, .nilIface] w fun e w' => ∃ v0_ : Value, e = .returned (.tuple #[v0_, .bool r2]) ∧ Kd.S (Kd.slice 5 (Kd.int .u8)) 41 w' w.heap.size (fun _ => True) v0_ r1 ∧ Below w.heap.size w w' := by
    have HR0 := Aside0.mk hr0
    have HC0 := Aside0.mk hc0
    clear hr0 hc0
    have HB := Aside0.mk (Below.refl w.heap.size w)
    have H := h
    clear h
    have hu38 := Tryd.underlying38
    by_cases c3 : 0 ≤ (l0.length : Int)
    · rw [if_pos c3] at H
      have c3b0 := eq_true c3
      have c3b1 : decide (0 ≤ (l0.length : Int)) = true := decide_eq_true c3
      clear c3
      by_cases c4 : ((l0.length : Int) : Int).toNat ≤ 11728124029610
      · rw [if_pos c4] at H
        have c4b0 := eq_true c4
        have c4b1 : decide (((l0.length : Int) : Int).toNat ≤ 11728124029610) = true := decide_eq_true c4
        clear c4
        obtain ⟨y108, hy108⟩ : ∃ y_ : List (List Int), y_ = (List.replicate ((l0.length : Int) : Int).toNat []) := ⟨_, rfl⟩
        replace H : (impl_told.l0 k l0 y108 (l0.length : Int) 0) = some (r1, r2) := by first | (rw [hy108]; with_reducible exact H) | (have H2_ := (Option.bind_some _ _).symm.trans H; rw [hy108]; with_reducible exact H2_) | (have H2_ := (Option.bind_some _ _).symm.trans H; with_reducible exact H2_) | with_reducible exact H | (rw [hy108]; exact H) | exact H
        have Ny108 := Aside0.mk hy108
        clear hy108
        have H' := Aside0.mk H
        clear H
        go_enter Tryd.func15, Tryd.ntmps15
        go_wp2_with (first | ((with_reducible refine gate_dst (N := 12) rfl ?_); refine Kd.S_make (Kd.slice 5 (Kd.int .u8)) _ 41 rfl (N := 12) rfl 25 _ _ rfl (l0.length : Int) rfl rfl Tryd.underlying25 (.slice none 0 0) 24 info41 rfl (by decide) (by omega) [] (ok := fun _ => True) (okp := fun _ => True) ⟨_, rfl, Kd.R_nil _ _ _ _ _⟩ (fun _ hk => hk) trivial (of_decide_eq_true (by first | (with_reducible assumption) | assumption)) (Nat.le_trans (Nat.mul_le_mul_right _ (of_decide_eq_true (by first | (with_reducible assumption) | assumption) : (l0.length : Int).toNat ≤ 11728124029610)) (by omega)) (Below.refl _ _) (Nat.le_refl _) ?_; intro v109 w5 ho6 hb hg_ hnew_; clear hg_ hnew_; (first | rw [← Ny108.out] at ho6 | (simp only [Int.reduceToNat] at ho6; rw [← Ny108.out] at ho6)); have n0_ := Aside0.mk (Kd.S_lower ho6 (below_size (by repeat (first | (with_reducible first | exact HB.out | apply below_alloc | apply pw_below_drewN | apply below_drew1) | exact HB.out)))); have n1_ := Aside0.mk (below_step (by repeat (first | (with_reducible first | exact HB.out | apply below_alloc | apply pw_below_drewN | apply below_drew1) | exact HB.out)) hb); clear HB; have HO110 := n0_; have HB := n1_; clear n0_ n1_; clear hb ho6))
        go_loopg [15] k (fun kq v15 w' => ∃ (x6_1 : List (List Int)) (x15_1 : Int), v15 = .int .i64 x15_1 ∧ Aside0 (impl_told.l0 kq l0 x6_1 (l0.length : Int) x15_1 = some (r1, r2)) ∧ Aside0 (kq ≤ k) ∧ Aside0 (Kd.S (Kd.slice 5 (Kd.int .u8)) 41 w' w.heap.size (fun _ => True) v109 x6_1) ∧ Aside0 (Below w.heap.size w w'))
        case atStart => exact ⟨(y108), (0), (by first | rfl | (simp; done) | (simp [*]; done)), H', ⟨Nat.le_refl _⟩, ⟨by (with_reducible repeat (first | apply Kd.S_alloc | apply Kd.S_drewN | apply Kd.S_drew)); exact HO110.out⟩, ⟨by repeat (first | (with_reducible first | exact HB.out | apply below_alloc | apply pw_below_drewN | apply below_drew1) | exact HB.out)⟩⟩
        case round =>
          clear H'
          try clear c1
          try clear q1
          try clear p2
          try clear c3
          try clear c3b0
          try clear c3b1
          try clear c4
          try clear c4b0
          try clear c4b1
          try clear q107
          obtain ⟨x6_1, x15_1, rfl, HA, HK1, HO_6, HB⟩ := hrel
          cases gk with
          | zero => exact absurd HA.out (by simp [impl_told.l0])
          | succ k1 =>
            have H := HA.out
            clear HA
            simp only [impl_told.l0] at H
            by_cases c7 : x15_1 < (l0.length : Int)
            · rw [if_pos c7] at H
              have c7b0 : decide (x15_1 < (l0.length : Int)) = true := decide_eq_true c7
              clear c7
              by_cases c8 : 0 ≤ x15_1
              · rw [if_pos c8] at H
                have c8b0 : decide (0 ≤ x15_1) = true := decide_eq_true c8
                clear c8
                by_cases c9 : x15_1 < (l0.length : Int)
                · rw [if_pos c9] at H
                  have c9b0 : decide (x15_1 < (l0.length : Int)) = true := decide_eq_true c9
                  clear c9
                  replace H := Option.bind_eq_some_iff.mp H
                  obtain ⟨t112, A100, H⟩ := H
                  replace H : (if x15_1 < (x6_1.length : Int) then (impl_told.l0 k1 l0 (x6_1.set (x15_1 : Int).toNat t112) (l0.length : Int) (wrap64 (x15_1 + 1))) else (none)) = some (r1, r2) := H
                  have A10 := Aside0.mk A100
                  clear A100
                  by_cases c11 : x15_1 < (x6_1.length : Int)
                  · rw [if_pos c11] at H
                    have c11b0 : decide (x15_1 < (x6_1.length : Int)) = true := decide_eq_true c11
                    clear c11
                    obtain ⟨y115, hy115⟩ : ∃ y_ : List (List Int), y_ = (x6_1.set (x15_1 : Int).toNat t112) := ⟨_, rfl⟩
                    replace H : (impl_told.l0 k1 l0 y115 (l0.length : Int) (wrap64 (x15_1 + 1))) = some (r1, r2) := by first | (rw [hy115]; with_reducible exact H) | (have H2_ := (Option.bind_some _ _).symm.trans H; rw [hy115]; with_reducible exact H2_) | (have H2_ := (Option.bind_some _ _).symm.trans H; with_reducible exact H2_) | with_reducible exact H | (rw [hy115]; exact H) | exact H
                    have Ny115 := Aside0.mk hy115
                    clear hy115
                    have H' := Aside0.mk H
                    clear H
                    have p111 : 0 ≤ (x15_1 : Int) := of_decide_eq_true (by first | (with_reducible assumption) | assumption)
                    have q111 : x15_1 < (l0.length : Int) := of_decide_eq_true (by first | (with_reducible assumption) | assumption)
                    obtain ⟨ad111, A111_0, c111_0, e111, hx111_0, hl111_0, hi111_0⟩ := at_L1 HR0.out x15_1 p111 q111
                    cases e111
                    replace hx111_0 := (HB.out.cell (World.block_lt_of_cell? w _ hx111_0)).trans hx111_0
                    have HR111_0 := Aside0.mk hi111_0
                    have HC111_0 := Aside0.mk hl111_0
                    clear hi111_0 hl111_0
                    replace p111 := eq_true p111
                    replace q111 := eq_true q111
                    go_wp2_with (first | ((with_reducible refine gate_callee (f := 20) rfl ?_); refine goesL_ (some 24) rfl rfl Tryd.func20 (by kernel_rfl) rfl #[.slice A111_0 (rd_L1 l0 x15_1).length c111_0] rfl (by (try simp only [List.map_toArray, List.map_cons, List.map_nil]); first | done | rfl | (simp only [List.length_drop, List.length_take]; rfl)) ?_; (with_reducible refine (impl_clone0.calls _ _ (rd_L1 l0 x15_1) t112 _ ?side1 ?side2 A10.out).mono ?_); (case side1 => repeat (first | exact (Kd.C_below HR111_0.out HB.out) | (with_reducible refine Kd.C_alloc ?_ _) | (with_reducible refine Kd.C_drewN ?_ _) | (with_reducible refine Kd.C_drew ?_))); (case side2 => exact HC111_0.out); rintro e w13 ⟨v113, rfl, ho0, hb⟩; refine ⟨_, rfl, ?_⟩; have n0_ := Aside0.mk (Kd.S_elder' (by (with_reducible repeat (first | apply Kd.S_alloc | apply Kd.S_drewN | apply Kd.S_drew)); exact HO_6.out) (Kd.R_base ho0) hb); have n1_ := Aside0.mk (Kd.R_lower ho0 (below_size (by repeat (first | (with_reducible first | exact HB.out | apply below_alloc | apply pw_below_drewN | apply below_drew1) | exact HB.out)))); have n2_ := Aside0.mk (below_step (by repeat (first | (with_reducible first | exact HB.out | apply below_alloc | apply pw_below_drewN | apply below_drew1) | exact HB.out)) hb); clear HO_6; clear HB; have HO_6 := n0_; have HO114 := n1_; have HB := n2_; clear n0_ n1_ n2_; (try clear hb); (try clear hb2); (try clear hk); (try clear hi); (try clear ho0); obtain ⟨Av, cv, ev_⟩ := Kd.R_slice HO114.out; subst ev_; have p12 : 0 ≤ (x15_1 : Int) := of_decide_eq_true (by first | (with_reducible assumption) | assumption); have q12 : (x15_1 : Int) < ((x6_1.length : Int) : Int) := of_decide_eq_true (by first | (with_reducible assumption) | assumption); obtain ⟨go12, co12, eo12, gb12, gl12, cl12, HG12⟩ := Kd.S_form HO_6.out (by omega); (first | cases eo12 | (injection eo12 with ea_ en_ ec_; (first | subst ea_ | (injection ea_ with ea_; subst ea_)); subst ec_; clear en_)); have GB12 := Aside0.mk gb12; have GG12 := Aside0.mk HG12; clear gb12 gl12 HG12; obtain ⟨_, ce12, hcl12, hM12, hcc12, hfr12, _, _⟩ := Kd.S_elem HO_6.out [] (x15_1 : Int) p12 q12; obtain ⟨ve12_0, rfl, ge12_0⟩ := hM12; have hx12_0 := hcc12 0 _ rfl; have hf12_0 := hfr12 0; (try simp only [show ((Kd.slice 5 (Kd.int .u8))).sz = 1 from rfl, Nat.mul_one, Nat.add_zero] at hx12_0); (try simp only [show ((Kd.slice 5 (Kd.int .u8))).sz = 1 from rfl, Nat.mul_one, Nat.add_zero] at hf12_0); (try clear hcl12); (try clear hcc12); (try clear hfr12); (try clear hM12); replace p12 := eq_true p12; replace q12 := eq_true q12; have n_ := Aside0.mk (Kd.S_mono (ok' := (fun k_ => some k_ ≠ (Value.slice Av t112.length cv).ownBlock)) HO_6.out (fun k_ hk => hk.2)); clear HO_6; have HO_6 := n_; clear n_; have HX14 := Aside0.mk (show Kd.S (Kd.slice 5 (Kd.int .u8)) 41 w13 w.heap.size (fun k_ => ((fun _ => True)) k_ ∧ ¬ ((fun k_ => some k_ = (Value.slice Av t112.length cv).ownBlock)) k_) (.slice (some ⟨go12, 0, none⟩) x6_1.length co12) x6_1 from (by (with_reducible repeat (first | apply Kd.S_alloc | apply Kd.S_drewN | apply Kd.S_drew)); exact Kd.S_mono HO_6.out (fun k_ hk => ⟨trivial, fun e_ => hk e_⟩))); obtain ⟨oki14, ce14, hcl14, hM14, hcc14, hfr14, hoki14, hH14⟩ := Kd.S_elem HX14.out [] (x15_1 : Int) (of_decide_eq_true (by first | (with_reducible assumption) | assumption)) (by have h_ : (x15_1 : Int) < ((x6_1.length : Int) : Int) := of_decide_eq_true (by first | (with_reducible assumption) | assumption); first | exact h_ | (have e_ := (Kd.S_reads' HO_6.out).1; omega) | simpa using h_); obtain ⟨ve14_0, rfl, ge14_0⟩ := hM14; have HP14 := Kd.S_seg hH14 (of_decide_eq_true (by first | (with_reducible assumption) | assumption)) (by have h_ : (x15_1 : Int) < ((x6_1.length : Int) : Int) := of_decide_eq_true (by first | (with_reducible assumption) | assumption); first | exact h_ | (have e_ := (Kd.S_reads' HO_6.out).1; omega) | simpa using h_) (seg := [(Value.slice Av t112.length cv)]) (j := 0) (show 1 ≤ 1 from by decide) (x' := t112) (Kd.M_row (Kd.R_mono (Kd.R_tight rfl (Kd.R_mono (ok' := fun k_ => ((fun _ => True)) k_ ∧ k_ ≠ go12) (Kd.R_apart' (HO114.out) (Kd.S_typed HO_6.out) (by decide)) (fun k_ hk => ⟨trivial, fun e_ => (hk.2) (by rw [e_]; rfl)⟩))) (fun _ h_ => Or.inr (h_)))) (fun _ hk => hk) (fun k_ hk_ => ((Kd.R_mono (ok' := fun k_ => ((fun _ => True)) k_ ∧ k_ ≠ go12) (Kd.R_apart' (HO114.out) (Kd.S_typed HO_6.out) (by decide)) (fun k_ hk => ⟨trivial, fun e_ => (hk.2) (by rw [e_]; rfl)⟩))).1 k_ hk_.symm); have hx14_0 := hcc14 0 _ rfl; (try simp only [show ((Kd.slice 5 (Kd.int .u8))).sz = 1 from rfl, Nat.mul_one, Nat.add_zero] at hx14_0); have hf14_0 := hfr14 0; (try simp only [show ((Kd.slice 5 (Kd.int .u8))).sz = 1 from rfl, Nat.mul_one, Nat.add_zero] at hf14_0); (try clear hcl14); (try clear hcc14); (try clear hfr14); (try clear hM14); (try clear hoki14); (try clear hH14); (try simp only [show ((Kd.slice 5 (Kd.int .u8))).sz = 1 from rfl, Nat.mul_one, Nat.add_zero] at HP14)) | ((with_reducible refine gate_store (t := 41) (p := 25) rfl ?_); refine store_event (t := 41) (p := 25) (v := ?vo_w15) (w1 := (w13.setCell ⟨go12, (x15_1 : Int).toNat, none⟩ ((Value.slice Av t112.length cv)))) ?hg ?ho ?hn ?hr ?_; (case ho => rfl); (case hg => rfl); (case hn => rfl); (case hr => first | (go_simp; done) | (go_simp; rfl)); intro w15 hw; have hg : w13.grownBy w15 (some go12) := (by rw [hw]; exact HP14.2); have hp_ : Kd.S (Kd.slice 5 (Kd.int .u8)) 41 w15 w.heap.size (fun _ => True) (.slice (some ⟨go12, 0, none⟩) x6_1.length co12) y115 := (by rw [hw, Ny115.out]; exact HP14.1); clear HP14; have n0_ := Aside0.mk (hp_); have n1_ := Aside0.mk ((by rw [hw]; exact below_set (HB.out) GB12.out : Below w.heap.size w w15)); clear HO_6; clear HB; clear HO114; have HO_6 := n0_; have HB := n1_; clear n0_ n1_; clear hg hw hp_))
                    go_roundg k1
                    case measure => have := HK1.out; omega
                    case rel => exact ⟨(y115), (wrap64 (x15_1 + 1)), (by first | rfl | (simp; done) | (simp [*]; done)), H', ⟨by have := HK1.out; omega⟩, ⟨by (with_reducible repeat (first | apply Kd.S_alloc | apply Kd.S_drewN | apply Kd.S_drew)); exact HO_6.out⟩, ⟨by repeat (first | (with_reducible first | exact HB.out | apply below_alloc | apply pw_below_drewN | apply below_drew1) | exact HB.out)⟩⟩
                  · rw [if_neg c11] at H
                    exact absurd H (by simp)
                · rw [if_neg c9] at H
                  exact absurd H (by simp)
              · rw [if_neg c8] at H
                exact absurd H (by simp)
            · rw [if_neg c7] at H
              have c7b0 : decide (x15_1 < (l0.length : Int)) = false := decide_eq_false c7
              clear c7
              simp only [Option.some.injEq, Prod.mk.injEq] at H
              obtain ⟨rfl, rfl⟩ := H
              go_wp2
              go_ret2
              exact ⟨_, by first | rfl | (simp [errW_none, errW_some] <;> rfl) | (simp [*, errW_none, errW_some] <;> rfl), by (with_reducible repeat (first | apply Kd.S_alloc | apply Kd.S_drewN | apply Kd.S_drew)); exact HO_6.out, by repeat (first | (with_reducible first | exact HB.out | apply below_alloc | apply pw_below_drewN | apply below_drew1) | exact HB.out)⟩
      · rw [if_neg c4] at H
        exact absurd H (by simp)
    · rw [if_neg c3] at H
      exact absurd H (by simp)

end Go.Proofs.YthigdbokhghbjaaDoor.Mat
