/-
  The walks of the power: galExp, ZZExp, impl.Power and the law FnPower, for every element and every exponent up to 100000, where the two tables lie as the program's text lays them.
-/
import Derived.Test.YthigdbokhghbjaaDoorGf
namespace Go.Proofs.YthigdbokhghbjaaDoor.Gf
open Go.RowKit Go.Proofs.YthigdbokhghbjaaDoorW.PrintWords Go.Proofs.YthigdbokhghbjaaDoorW.PrintLast Go.Proofs.YthigdbokhghbjaaDoorW.PrintMore
open Go.Proofs.YthigdbokhghbjaaDoor.Base

/-- The two tables lie in the world as the text lays them. -/
structure Tabs (w : World) : Prop where
  log : ∀ i, i < 256 → w.cell? ⟨0, i, none⟩ = some (.int .u8 ((logT.getD i 0 : Nat) : Int))
  exp : ∀ i, i < 256 → w.cell? ⟨1, i, none⟩ = some (.int .u8 ((expT.getD i 0 : Nat) : Int))

theorem Tabs.below {w w' : World} (h : Tabs w) (hb : Below w.heap.size w w') : Tabs w' :=
  ⟨fun i hi => pw_cell_below hb (h.log i hi), fun i hi => pw_cell_below hb (h.exp i hi)⟩

theorem Tabs.drewN {w : World} (h : Tabs w) (n : Nat) : Tabs (w.drewN n) := h.below (pw_below_drewN (Below.refl _ _) n)

set_option maxHeartbeats 1000000 in
set_option maxRecDepth 100000 in
theorem galExp_calls (a n : Nat) (ha : a < 256) (hn : n ≤ 100000) (w : World) (ht : Tabs w) :
    Calls Tryd.prog 19 #[.int .u8 (a : Int), .int .i64 (n : Int)] w fun e w' => e = .returned (.int .u8 ((gexp a n : Nat) : Int)) ∧ w' = w := by
  by_cases h0 : n = 0
  · subst h0
    have e : gexp a 0 = 1 := rfl
    rw [e]
    go_enter Tryd.func19, Tryd.ntmps19
    go_wp2
    go_ret
    exact ⟨rfl, rfl⟩
  · by_cases ha0 : a = 0
    · subst ha0
      have e : gexp 0 n = 0 := by unfold gexp; rw [if_neg h0, if_pos rfl]
      rw [e]
      have hb0 : ((n : Int) == 0) = false := by simpa using h0
      clear e ht ha
      go_enter Tryd.func19, Tryd.ntmps19
      go_wp2
      go_ret
      exact ⟨rfl, rfl⟩
    · have e : gexp a n = E (logT.getD a 0 * n) := by unfold gexp; rw [if_neg h0, if_neg ha0]
      rw [e]
      obtain ⟨l, hl⟩ : ∃ l, logT.getD a 0 = l := ⟨_, rfl⟩
      have hlog := ht.log a ha
      have hl256 := log_lt ha
      rw [hl] at hlog hl256 ⊢
      have hexp := ht.exp ((l * n) % 255) (by omega)
      have hE : E (l * n) = expT.getD ((l * n) % 255) 0 := rfl
      obtain ⟨r, hr⟩ : ∃ r, E (l * n) = r := ⟨_, rfl⟩
      rw [← hE, hr] at hexp
      rw [hr]
      have hb0 : ((n : Int) == 0) = false := by simpa using h0
      have hb1 : ((a : Int) == 0) = false := by simpa using ha0
      have hprod : l * n ≤ 25600000 := Nat.le_trans (Nat.mul_le_mul (Nat.le_of_lt hl256) hn) (by omega)
      obtain ⟨m, hm⟩ : ∃ m, l * n = m := ⟨_, rfl⟩
      have hmul : IntKind.i64.wrap ((l : Int) * (n : Int)) = (m : Int) := by
        rw [← hm]
        rw [IntKind.wrap_i64]
        have : ((l : Int) * (n : Int)) = ((l * n : Nat) : Int) := by simp
        omega
      rw [hm] at hexp hprod
      have HM := Aside0.mk hm
      have HE := Aside0.mk hE
      have HL := Aside0.mk hl
      have HR := Aside0.mk hr
      clear hm hE hl hr e ht h0 ha0
      go_enter Tryd.func19, Tryd.ntmps19
      go_wp2
      go_loop [6] (fun t => ∃ j : Nat, t = .int .i64 (j : Int) ∧ j ≤ 25600000 ∧ Aside0 (j % 255 = m % 255)) (fun t => (intOf t).toNat)
      case atStart => exact ⟨m, rfl, hprod, ⟨rfl⟩⟩
      case round =>
        obtain ⟨j, rfl, hj, HJ⟩ := hrel
        by_cases hlt : 255 ≤ j
        · go_wp2
          go_round
          case rel => exact ⟨j - 255, by go_num, by omega, ⟨by have := HJ.out; omega⟩⟩
          case measure => simp [intOf]; omega
        · have hj2 : j % 255 = j := Nat.mod_eq_of_lt (by omega)
          have hlast : w.cell? ⟨1, j, none⟩ = some (.int .u8 (r : Int)) := by rw [← hj2, HJ.out]; exact hexp
          have hw8 : IntKind.u8.wrap (j : Int) = (j : Int) := by rw [IntKind.wrap_u8]; omega
          clear hj2 hexp
          go_wp2
          go_ret
          exact ⟨rfl, rfl⟩

set_option maxHeartbeats 1000000 in
set_option maxRecDepth 100000 in
theorem zzExp_calls (a n : Nat) (ha : a < 256) (hn : n ≤ 100000) (w : World) (ht : Tabs w) :
    Calls Tryd.prog 13 #[.int .u8 (a : Int), .int .i64 (n : Int)] w fun e w' => e = .returned (.int .u8 ((gexp a n : Nat) : Int)) ∧ w' = w := by
  have HT := Aside0.mk ht
  clear ht
  go_enter Tryd.func13, Tryd.ntmps13
  go_wp2_with (go_at_call 19; refine (galExp_calls a n ha hn _ HT.out).mono ?_; rintro e w' ⟨rfl, rfl⟩)
  go_ret
  exact ⟨rfl, rfl⟩

set_option maxHeartbeats 1000000 in
set_option maxRecDepth 100000 in
theorem implPower_calls (a n : Nat) (ha : a < 256) (hn : n ≤ 100000) (w : World) (ht : Tabs w) :
    Calls Tryd.prog 6 #[.int .u8 (a : Int), .int .i64 (n : Int)] w fun e w' => e = .returned (.int .u8 ((gexp a n : Nat) : Int)) ∧ w' = w := by
  have HT := Aside0.mk ht
  clear ht
  have h0 : ¬ (n : Int) < 0 := by omega
  go_enter Tryd.func6, Tryd.ntmps6
  go_wp2_with (go_at_call 13; refine (zzExp_calls a n ha hn _ HT.out).mono ?_; rintro e w' ⟨rfl, rfl⟩)
  go_ret
  exact ⟨rfl, rfl⟩

set_option maxHeartbeats 1000000 in
set_option maxRecDepth 100000 in
theorem fnPower_calls (a n : Nat) (ha : a < 256) (hn : n < 65536) (w : World) (ht : Tabs w) :
    Calls Tryd.prog 3 #[.int .u8 (a : Int), .int .u16 (n : Int)] w fun e w' => e = .returned (.bool true) ∧ Drawn0 w w' := by
  have HT := Aside0.mk ht
  clear ht
  obtain ⟨k, hk⟩ : ∃ k, n % 2001 = k := ⟨_, rfl⟩
  have hk1 : k ≤ 2000 := by omega
  have hmod : (n : Int) % 2001 = (k : Int) := by omega
  have HP := Aside0.mk (power_tells ha k (by omega))
  have h1 := gexp_one k
  obtain ⟨g, hg⟩ : ∃ g, gexp a k = g := ⟨_, rfl⟩
  rw [hg] at HP
  have C1 := fun W H => implPower_calls a k ha (by omega) W H
  have C2 : ∀ W, Tabs W → Calls Tryd.prog 6 #[.int .u8 1, .int .i64 (k : Int)] W fun e w' => e = .returned (.int .u8 1) ∧ w' = W := fun W H => by
    have h := implPower_calls 1 k (by omega) (by omega) W H
    rw [h1] at h
    exact h
  rw [hg] at C1
  clear hk h1 hg
  go_enter Tryd.func3, Tryd.ntmps3
  go_wp2_with (first | (go_at_call 7; (with_reducible refine (spec_Power.calls (k + 10) _ _ _ _ HP.out).mono ?_); rintro e w' ⟨rfl, ⟨nd, rfl⟩⟩) | (go_at_call 6; (with_reducible refine (C1 _ HT.out).mono ?_); rintro e w' ⟨rfl, rfl⟩) | (go_at_call 6; (with_reducible refine (C2 _ (HT.out.drewN nd)).mono ?_); rintro e w' ⟨rfl, rfl⟩))
  go_ret
  exact ⟨rfl, by repeat (first | exact Drawn0.refl _ | apply Drawn0.step)⟩

end Go.Proofs.YthigdbokhghbjaaDoor.Gf
