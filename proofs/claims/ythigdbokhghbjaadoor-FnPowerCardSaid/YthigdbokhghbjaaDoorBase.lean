/-
  What all the walks of this seat share: the readings of a row and of a matrix of bytes, and the walks of the reference's product of two bytes and of its power: lines that the kit's print wrote for this seat.
-/
import Derived.Test.YthigdbokhghbjaaDoorProg
import Derived.Below
import Derived.Deep.Draws
import Derived.Deep.AppendLies
import Derived.Maps.AppendAt
import Derived.OwnWalk
import Derived.Laws.BytesArg
import Derived.Laws.MakeOwn
import Derived.Laws.OwnMore
import Derived.Deep.OwnRows
import Derived.Tactics
import Derived.Lib.ConvBytes
import Derived.Laws.Slices
import Derived.WalkKit
import Derived.KernelRfl
import Derived.RowKit3
import Derived.Deep.LoopGhost
import Derived.Deep.QuietTactic
import Derived.BigQuiet
import Derived.WideLaws
import Derived.Deep.DeepCutAuto
import Derived.Deep.CutBlock
import Derived.Deep.RegionHeld3
import Derived.Laws.Rows
import Derived.Lib.AppendStr
import Derived.ArgAppend
import Derived.Laws.IdiomCopy
import Derived.OrdersHeld
import Derived.Laws.BitsLemmas
import Derived.RowKit
import Derived.Test.YthigdbokhghbjaaDoorWWords
import Derived.Test.YthigdbokhghbjaaDoorWLast
import Derived.Test.YthigdbokhghbjaaDoorWTab
import Derived.Test.YthigdbokhghbjaaDoorWFour
import Derived.Test.YthigdbokhghbjaaDoorWQPut
import Derived.Test.YthigdbokhghbjaaDoorWApart
import Derived.Test.YthigdbokhghbjaaDoorWArr
import Derived.Test.YthigdbokhghbjaaDoorWZeros
import Derived.Test.YthigdbokhghbjaaDoorWFoot
import Derived.Test.YthigdbokhghbjaaDoorWKept
import Derived.Test.YthigdbokhghbjaaDoorWShare
import Derived.Test.YthigdbokhghbjaaDoorWN
import Derived.Test.YthigdbokhghbjaaDoorWFootNe
import Derived.Test.YthigdbokhghbjaaDoorWAt
import Derived.Test.YthigdbokhghbjaaDoorWEqStruct
import Derived.Test.YthigdbokhghbjaaDoorWRepsOne
import Derived.Test.YthigdbokhghbjaaDoorWInv
import Derived.Test.YthigdbokhghbjaaDoorWInvWords
import Derived.Test.YthigdbokhghbjaaDoorWGuard
import Derived.Test.YthigdbokhghbjaaDoorWNEv
import Derived.Test.YthigdbokhghbjaaDoorWMore
namespace Go.Proofs.YthigdbokhghbjaaDoor.Base
open Go.RowKit Go.Proofs.YthigdbokhghbjaaDoorW.PrintWords Go.Proofs.YthigdbokhghbjaaDoorW.PrintLast Go.Proofs.YthigdbokhghbjaaDoorW.PrintMore
attribute [local go_sem] max2_int min2_int max_two min_two max_three min_three max_four min_four
set_option linter.unusedVariables false
set_option linter.unusedSimpArgs false

def errW : Option Int → Value
  | none => .nilIface
  | some c => .iface 0 (.int .i64 c)
theorem errW_none : errW none = .nilIface := rfl
theorem errW_some (c : Int) : errW (some c) = .iface 0 (.int .i64 c) := rfl

theorem info5 : (Tryd.prog.info? 5).map (fun i => (i.zero, i.size, i.bytes)) = some (some (.int .u8 0), 1, 1) := by kernel_rfl
theorem info41 : (Tryd.prog.info? 41).map (fun i => (i.zero, i.size, i.bytes)) = some (some (.slice none 0 0), 1, 24) := by kernel_rfl
def rd_L1 (xs : List (List Int)) (i : Int) : (List Int) := xs.getD i.toNat ([] : List Int)
theorem at_L1 {w : World} {A : Option Addr} {n : Nat} {xs : List (List Int)} (h : Kd.C (Kd.slice 5 (Kd.int .u8)) w A n xs) (i : Int) (h0 : 0 ≤ i) (h1 : i < n) : ∃ ad A0 c0, A = some ad ∧ w.cell? (ad.add i.toNat) = some (.slice A0 (rd_L1 xs i).length c0) ∧ (rd_L1 xs i).length ≤ c0 ∧ (Kd.int .u8).C w A0 (rd_L1 xs i).length (rd_L1 xs i) := by
  obtain ⟨ad, c, e, _, hK, hc0⟩ := Kd.C_get h ([] : List Int) i h0 h1
  have hc : ∀ j u, c[j]? = some u → w.cell? (ad.add (i.toNat * 1 + j)) = some u := hc0
  obtain ⟨A0, c0, rfl, l0, g0⟩ := hK
  exact ⟨ad, A0, c0, e, by have hq := hc 0 _ rfl; rwa [Nat.mul_one, Nat.add_zero] at hq, l0, g0⟩

/-! ### spec_Times: function 14 -/
def spec_Times.l0 : Nat → Int → Int → Int → Int → Option (Int)
  | 0, _, _, _, _ => none
  | k + 1, x0, x1, x5, x6 => if x6 ≥ 0 then (if x5 ≥ 128 then (if 0 ≤ x6 then (if (Go.bits .and .u8 (shr .u8 x1 x6) 1) = 1 then (spec_Times.l0 k x0 x1 (Go.bits .xor .u8 (Go.bits .xor .u8 ((x5 * 2) % 256) 29) x0) (wrap64 (x6 - 1))) else (spec_Times.l0 k x0 x1 (Go.bits .xor .u8 ((x5 * 2) % 256) 29) (wrap64 (x6 - 1)))) else (none)) else (if 0 ≤ x6 then (if (Go.bits .and .u8 (shr .u8 x1 x6) 1) = 1 then (spec_Times.l0 k x0 x1 (Go.bits .xor .u8 ((x5 * 2) % 256) x0) (wrap64 (x6 - 1))) else (spec_Times.l0 k x0 x1 ((x5 * 2) % 256) (wrap64 (x6 - 1)))) else (none))) else (some x5)
def spec_Times.f (k : Nat) (a0 : Int) (a1 : Int) : Option (Int) := spec_Times.l0 k a0 a1 0 7
theorem spec_Times.mono_l : ∀ k, (∀ y0 y1 y2 y3, LeO (spec_Times.l0 k y0 y1 y2 y3) (spec_Times.l0 (k + 1) y0 y1 y2 y3))
  | 0 => fun _ _ _ _ r h => by simp [spec_Times.l0] at h
  | k + 1 => by
    have ih0 := spec_Times.mono_l k
    · intro y0 y1 y2 y3
      unfold spec_Times.l0
      repeat' first
      | (with_reducible exact ih0 _ _ _ _)
      | (with_reducible exact LeO.refl _)
      | (with_reducible exact LeO.none _)
      | (with_reducible refine LeO.ite ?_ ?_)
      | (with_reducible refine LeO.bind ?_ (fun _ => ?_))
      | exact ih0 _ _ _ _
      | exact LeO.none _
      | refine LeO.ite ?_ ?_
      | refine LeO.bind ?_ (fun _ => ?_)
theorem spec_Times.mono : ∀ a0 a1 k, LeO (spec_Times.f k a0 a1) (spec_Times.f (k + 1) a0 a1) := by
  intro a0 a1 k
  have ih0 := spec_Times.mono_l k
  unfold spec_Times.f
  repeat' first
      | (with_reducible exact ih0 _ _ _ _)
      | (with_reducible exact LeO.refl _)
      | (with_reducible exact LeO.none _)
      | (with_reducible refine LeO.ite ?_ ?_)
      | (with_reducible refine LeO.bind ?_ (fun _ => ?_))
      | exact ih0 _ _ _ _
      | exact LeO.none _
      | refine LeO.ite ?_ ?_
      | refine LeO.bind ?_ (fun _ => ?_)
set_option maxHeartbeats 8000000 in
set_option maxRecDepth 100000 in
theorem spec_Times.calls (k : Nat) (a0 : Int) (a1 : Int) (r : Int) (w : World) (h : spec_Times.f k a0 a1 = some r) :
    Calls Tryd.prog 14 #[.int .u8 a0, .int .u8 a1] w fun e w' => e = .returned (.int .u8 r) ∧ Drawn0 w w' := by
  have H : (spec_Times.l0 k a0 a1 0 7) = some r := h
  clear h
  have H' := Aside0.mk H
  clear H
  go_enter Tryd.func14, Tryd.ntmps14
  go_wp2
  go_loopg [5, 6] k (fun kq v5 v6 w' => ∃ (x5_1 : Int) (x6_1 : Int), v5 = .int .u8 x5_1 ∧ v6 = .int .i64 x6_1 ∧ Aside0 (spec_Times.l0 kq a0 a1 x5_1 x6_1 = some r) ∧ Aside0 (kq ≤ k) ∧ Drawn0 w w')
  case atStart => exact ⟨(0), (7), (by first | rfl | (simp; done) | (simp [*]; done)), (by first | rfl | (simp; done) | (simp [*]; done)), H', ⟨Nat.le_refl _⟩, by repeat (first | exact Drawn0.refl _ | apply Drawn0.step)⟩
  case round =>
    clear H'
    try clear c1
    try clear p2
    obtain ⟨x5_1, x6_1, rfl, rfl, HA, HK1, ⟨m1, rfl⟩⟩ := hrel
    cases gk with
    | zero => exact absurd HA.out (by simp [spec_Times.l0])
    | succ k1 =>
      have H := HA.out
      clear HA
      simp only [spec_Times.l0] at H
      by_cases c3 : x6_1 ≥ 0
      · rw [if_pos c3] at H
        have c3b0 : decide (0 ≤ x6_1) = true := decide_eq_true c3
        clear c3
        by_cases c4 : x5_1 ≥ 128
        · rw [if_pos c4] at H
          have c4b0 : decide (128 ≤ x5_1) = true := decide_eq_true c4
          clear c4
          by_cases c5 : 0 ≤ x6_1
          · rw [if_pos c5] at H
            have c5b0 := eq_true c5
            have c5b1 : decide (0 ≤ x6_1) = true := decide_eq_true c5
            clear c5
            obtain ⟨ji6, hji6⟩ : ∃ j_ : Int, (shr .u8 a1 x6_1) = j_ := ⟨_, rfl⟩
            replace H : (if (Go.bits .and .u8 (ji6) 1) = 1 then (spec_Times.l0 k1 a0 a1 (Go.bits .xor .u8 (Go.bits .xor .u8 ((x5_1 * 2) % 256) 29) a0) (wrap64 (x6_1 - 1))) else (spec_Times.l0 k1 a0 a1 (Go.bits .xor .u8 ((x5_1 * 2) % 256) 29) (wrap64 (x6_1 - 1)))) = some r := by first | (rw [hji6] at H; exact H) | (simp only [hji6] at H ⊢; exact H)
            have hji6_ : (a1 / 2 ^ min x6_1.toNat 8) = ji6 := hji6
            have hji6z : x6_1 ≤ 8 → (a1 / 2 ^ x6_1.toNat) = ji6 := shr_small hji6
            by_cases c7 : (Go.bits .and .u8 (ji6) 1) = 1
            · rw [if_pos c7] at H
              have c7b0 : ((Go.bits .and .u8 (ji6) 1) == 1) = true := beq_iff_eq.mpr c7
              have c7b1 : ((Go.bits .and .u8 (ji6) 1) != 1) = false := bne_eq_false_iff_eq.mpr c7
              clear c7
              have H' := Aside0.mk H
              clear H
              go_wp2
              go_roundg k1
              case measure => have := HK1.out; omega
              case rel => exact ⟨(Go.bits .xor .u8 (Go.bits .xor .u8 ((x5_1 * 2) % 256) 29) a0), (wrap64 (x6_1 - 1)), (by first | rfl | (simp; done) | (simp [*]; done)), (by first | rfl | (simp; done) | (simp [*]; done)), H', ⟨by have := HK1.out; omega⟩, by repeat (first | exact Drawn0.refl _ | apply Drawn0.step)⟩
            · rw [if_neg c7] at H
              have c7b0 : ((Go.bits .and .u8 (ji6) 1) == 1) = false := beq_eq_false_iff_ne.mpr c7
              have c7b1 : ((Go.bits .and .u8 (ji6) 1) != 1) = true := bne_iff_ne.mpr c7
              have H' := Aside0.mk H
              clear H
              go_wp2
              go_roundg k1
              case measure => have := HK1.out; omega
              case rel => exact ⟨(Go.bits .xor .u8 ((x5_1 * 2) % 256) 29), (wrap64 (x6_1 - 1)), (by first | rfl | (simp; done) | (simp [*]; done)), (by first | rfl | (simp; done) | (simp [*]; done)), H', ⟨by have := HK1.out; omega⟩, by repeat (first | exact Drawn0.refl _ | apply Drawn0.step)⟩
          · rw [if_neg c5] at H
            exact absurd H (by simp)
        · rw [if_neg c4] at H
          have c4b0 : decide (128 ≤ x5_1) = false := decide_eq_false c4
          clear c4
          by_cases c8 : 0 ≤ x6_1
          · rw [if_pos c8] at H
            have c8b0 := eq_true c8
            have c8b1 : decide (0 ≤ x6_1) = true := decide_eq_true c8
            clear c8
            obtain ⟨ji9, hji9⟩ : ∃ j_ : Int, (shr .u8 a1 x6_1) = j_ := ⟨_, rfl⟩
            replace H : (if (Go.bits .and .u8 (ji9) 1) = 1 then (spec_Times.l0 k1 a0 a1 (Go.bits .xor .u8 ((x5_1 * 2) % 256) a0) (wrap64 (x6_1 - 1))) else (spec_Times.l0 k1 a0 a1 ((x5_1 * 2) % 256) (wrap64 (x6_1 - 1)))) = some r := by first | (rw [hji9] at H; exact H) | (simp only [hji9] at H ⊢; exact H)
            have hji9_ : (a1 / 2 ^ min x6_1.toNat 8) = ji9 := hji9
            have hji9z : x6_1 ≤ 8 → (a1 / 2 ^ x6_1.toNat) = ji9 := shr_small hji9
            by_cases c10 : (Go.bits .and .u8 (ji9) 1) = 1
            · rw [if_pos c10] at H
              have c10b0 : ((Go.bits .and .u8 (ji9) 1) == 1) = true := beq_iff_eq.mpr c10
              have c10b1 : ((Go.bits .and .u8 (ji9) 1) != 1) = false := bne_eq_false_iff_eq.mpr c10
              clear c10
              have H' := Aside0.mk H
              clear H
              go_wp2
              go_roundg k1
              case measure => have := HK1.out; omega
              case rel => exact ⟨(Go.bits .xor .u8 ((x5_1 * 2) % 256) a0), (wrap64 (x6_1 - 1)), (by first | rfl | (simp; done) | (simp [*]; done)), (by first | rfl | (simp; done) | (simp [*]; done)), H', ⟨by have := HK1.out; omega⟩, by repeat (first | exact Drawn0.refl _ | apply Drawn0.step)⟩
            · rw [if_neg c10] at H
              have c10b0 : ((Go.bits .and .u8 (ji9) 1) == 1) = false := beq_eq_false_iff_ne.mpr c10
              have c10b1 : ((Go.bits .and .u8 (ji9) 1) != 1) = true := bne_iff_ne.mpr c10
              have H' := Aside0.mk H
              clear H
              go_wp2
              go_roundg k1
              case measure => have := HK1.out; omega
              case rel => exact ⟨((x5_1 * 2) % 256), (wrap64 (x6_1 - 1)), (by first | rfl | (simp; done) | (simp [*]; done)), (by first | rfl | (simp; done) | (simp [*]; done)), H', ⟨by have := HK1.out; omega⟩, by repeat (first | exact Drawn0.refl _ | apply Drawn0.step)⟩
          · rw [if_neg c8] at H
            exact absurd H (by simp)
      · rw [if_neg c3] at H
        have c3b0 : decide (0 ≤ x6_1) = false := decide_eq_false c3
        clear c3
        obtain rfl := Option.some.inj H
        go_wp2
        go_ret
        exact ⟨by first | rfl | (simp; done) | (simp [*]; done), by repeat (first | exact Drawn0.refl _ | apply Drawn0.step)⟩

/-! ### spec_Power: function 7 -/
def spec_Power.l0 : Nat → Int → Int → Int → Int → Option (Int)
  | 0, _, _, _, _ => none
  | k + 1, x0, x5, x6, x7 => if x7 < x6 then ((spec_Times.f k x5 x0).bind fun t101 => (spec_Power.l0 k x0 t101 x6 (wrap64 (x7 + 1)))) else (some x5)
def spec_Power.f (k : Nat) (a0 : Int) (a1 : Int) : Option (Int) := spec_Power.l0 k a0 1 a1 0
theorem spec_Power.mono_l : ∀ k, (∀ y0 y1 y2 y3, LeO (spec_Power.l0 k y0 y1 y2 y3) (spec_Power.l0 (k + 1) y0 y1 y2 y3))
  | 0 => fun _ _ _ _ r h => by simp [spec_Power.l0] at h
  | k + 1 => by
    have ih0 := spec_Power.mono_l k
    · intro y0 y1 y2 y3
      unfold spec_Power.l0
      repeat' first
      | (with_reducible exact ih0 _ _ _ _)
      | (with_reducible exact spec_Times.mono _ _ _)
      | (with_reducible exact LeO.refl _)
      | (with_reducible exact LeO.none _)
      | (with_reducible refine LeO.ite ?_ ?_)
      | (with_reducible refine LeO.bind ?_ (fun _ => ?_))
      | exact ih0 _ _ _ _
      | exact spec_Times.mono _ _ _
      | exact LeO.none _
      | refine LeO.ite ?_ ?_
      | refine LeO.bind ?_ (fun _ => ?_)
theorem spec_Power.mono : ∀ a0 a1 k, LeO (spec_Power.f k a0 a1) (spec_Power.f (k + 1) a0 a1) := by
  intro a0 a1 k
  have ih0 := spec_Power.mono_l k
  unfold spec_Power.f
  repeat' first
      | (with_reducible exact ih0 _ _ _ _)
      | (with_reducible exact spec_Times.mono _ _ _)
      | (with_reducible exact LeO.refl _)
      | (with_reducible exact LeO.none _)
      | (with_reducible refine LeO.ite ?_ ?_)
      | (with_reducible refine LeO.bind ?_ (fun _ => ?_))
      | exact ih0 _ _ _ _
      | exact spec_Times.mono _ _ _
      | exact LeO.none _
      | refine LeO.ite ?_ ?_
      | refine LeO.bind ?_ (fun _ => ?_)
set_option maxHeartbeats 8000000 in
set_option maxRecDepth 100000 in
theorem spec_Power.calls (k : Nat) (a0 : Int) (a1 : Int) (r : Int) (w : World) (h : spec_Power.f k a0 a1 = some r) :
    Calls Tryd.prog 7 #[.int .u8 a0, .int .i64 a1] w fun e w' => e = .returned (.int .u8 r) ∧ Drawn0 w w' := by
  have H : (spec_Power.l0 k a0 1 a1 0) = some r := h
  clear h
  have H' := Aside0.mk H
  clear H
  go_enter Tryd.func7, Tryd.ntmps7
  go_wp2
  go_loopg [5, 7] k (fun kq v5 v7 w' => ∃ (x5_1 : Int) (x7_1 : Int), v5 = .int .u8 x5_1 ∧ v7 = .int .i64 x7_1 ∧ Aside0 (spec_Power.l0 kq a0 x5_1 a1 x7_1 = some r) ∧ Aside0 (kq ≤ k) ∧ Drawn0 w w')
  case atStart => exact ⟨(1), (0), (by first | rfl | (simp; done) | (simp [*]; done)), (by first | rfl | (simp; done) | (simp [*]; done)), H', ⟨Nat.le_refl _⟩, by repeat (first | exact Drawn0.refl _ | apply Drawn0.step)⟩
  case round =>
    clear H'
    try clear p2
    obtain ⟨x5_1, x7_1, rfl, rfl, HA, HK1, ⟨m1, rfl⟩⟩ := hrel
    cases gk with
    | zero => exact absurd HA.out (by simp [spec_Power.l0])
    | succ k1 =>
      have H := HA.out
      clear HA
      simp only [spec_Power.l0] at H
      by_cases c3 : x7_1 < a1
      · rw [if_pos c3] at H
        have c3b0 : decide (x7_1 < a1) = true := decide_eq_true c3
        clear c3
        replace H := Option.bind_eq_some_iff.mp H
        obtain ⟨t101, A40, H⟩ := H
        replace H : (spec_Power.l0 k1 a0 t101 a1 (wrap64 (x7_1 + 1))) = some r := H
        have A4 := Aside0.mk A40
        clear A40
        have H' := Aside0.mk H
        clear H
        go_wp2_with (first | ((with_reducible refine gate_callee (f := 14) rfl ?_); refine goesL_ (some 11) rfl rfl Tryd.func14 (by kernel_rfl) rfl #[.int .u8 x5_1, .int .u8 a0] rfl (by (try simp only [List.map_toArray, List.map_cons, List.map_nil]); first | done | rfl | (simp only [List.length_drop, List.length_take]; rfl)) ?_; (with_reducible refine (spec_Times.calls k1 x5_1 a0 t101 _ A4.out).mono ?_); rintro e w' ⟨rfl, ⟨nd, rfl⟩⟩; refine ⟨_, rfl, ?_⟩))
        go_roundg k1
        case measure => have := HK1.out; omega
        case rel => exact ⟨(t101), (wrap64 (x7_1 + 1)), (by first | rfl | (simp; done) | (simp [*]; done)), (by first | rfl | (simp; done) | (simp [*]; done)), H', ⟨by have := HK1.out; omega⟩, by repeat (first | exact Drawn0.refl _ | apply Drawn0.step)⟩
      · rw [if_neg c3] at H
        have c3b0 : decide (x7_1 < a1) = false := decide_eq_false c3
        clear c3
        obtain rfl := Option.some.inj H
        go_wp2
        go_ret
        exact ⟨by first | rfl | (simp; done) | (simp [*]; done), by repeat (first | exact Drawn0.refl _ | apply Drawn0.step)⟩

end Go.Proofs.YthigdbokhghbjaaDoor.Base
