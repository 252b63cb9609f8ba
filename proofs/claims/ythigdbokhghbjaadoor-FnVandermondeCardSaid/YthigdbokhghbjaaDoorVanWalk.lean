/-
  The walks of ZZVandermonde, impl.Vandermonde and of the law FnVandermonde: true for every two bytes, where the two tables lie as the text lays them.
-/
import Derived.Test.YthigdbokhghbjaaDoorVanLaw
import Derived.Test.YthigdbokhghbjaaDoorSame
namespace Go.Proofs.YthigdbokhghbjaaDoor.Mat
open Go.RowKit Go.Proofs.YthigdbokhghbjaaDoorW.PrintWords Go.Proofs.YthigdbokhghbjaaDoorW.PrintLast Go.Proofs.YthigdbokhghbjaaDoorW.PrintMore
open Go.Proofs.YthigdbokhghbjaaDoor.Base
open Go.Proofs.YthigdbokhghbjaaDoor.Gf (Tabs)

set_option maxHeartbeats 4000000 in
set_option maxRecDepth 100000 in
theorem zzVandermonde_calls (k : Nat) (a0 a1 : Int) (t r : List (List Int)) (w : World) (ht : Tabs w) (hnew : reedsolomon_newMatrix.f k a0 a1 = some (t, none)) (h : vand.l0 k t (t.length : Int) 0 = some r) :
    Calls Tryd.prog 18 #[.int .i64 a0, .int .i64 a1] w fun e w' => ∃ v0_ : Value, e = .returned (.tuple #[v0_, .nilIface]) ∧ Kd.S (Kd.slice 5 (Kd.int .u8)) 41 w' w.heap.size (fun _ => True) v0_ r ∧ Below w.heap.size w w' := by
  have HT := Aside0.mk ht
  have HN := Aside0.mk hnew
  have HV := Aside0.mk h
  clear ht hnew h
  go_enter Tryd.func18, Tryd.ntmps18
  go_wp2_with (go_at_call 22; (with_reducible refine (vandermonde_calls k a0 a1 t r _ HT.out HN.out HV.out).mono ?_); rintro e w1 ⟨v1, rfl, ho1, hb1⟩; have HO1 := Aside0.mk ho1; have HB1 := Aside0.mk hb1; clear ho1 hb1)
  go_ret2
  exact ⟨_, rfl, HO1.out, HB1.out⟩

set_option maxHeartbeats 4000000 in
set_option maxRecDepth 100000 in
theorem implVandermonde_calls (k R C : Nat) (hR0 : 1 ≤ R) (hR : R ≤ 256) (hC0 : 1 ≤ C) (hC : C ≤ 256) (t r : List (List Int)) (hr : Sized r R C) (w : World) (ht : Tabs w) (hnew : reedsolomon_newMatrix.f k (R : Int) (C : Int) = some (t, none)) (h : vand.l0 k t (t.length : Int) 0 = some r) :
    Calls Tryd.prog 11 #[.int .i64 (R : Int), .int .i64 (C : Int)] w fun e w' => ∃ v0_ : Value, e = .returned (.tuple #[v0_, .bool true]) ∧ Kd.S (Kd.slice 5 (Kd.int .u8)) 41 w' w.heap.size (fun _ => True) v0_ r ∧ Below w.heap.size w w' := by
  have HTB := Aside0.mk ht
  have HN := Aside0.mk hnew
  have HV := Aside0.mk h
  have HT := Aside0.mk (told_tells r R C hr (by omega) (by omega) (R + 1) (by omega))
  clear ht hnew h hr
  go_enter Tryd.func11, Tryd.ntmps11
  go_wp2_with (first
    | (go_at_call 18; (with_reducible refine (zzVandermonde_calls k (R : Int) (C : Int) t r _ HTB.out HN.out HV.out).mono ?_); rintro e w1 ⟨v1, rfl, ho1, hb1⟩; have HO1 := Aside0.mk ho1; have HB1 := Aside0.mk hb1; clear ho1 hb1; obtain ⟨A1, c1, e1⟩ := Kd.S_slice HO1.out; subst e1)
    | (go_at_call 15; (with_reducible refine (impl_told.calls (R + 1) A1 c1 r r true _ (Kd.S_reads' HO1.out).2.2 (Kd.S_reads' HO1.out).2.1 HT.out).mono ?_); rintro e w2 ⟨v2, rfl, ho2, hb2⟩; have HO2 := Aside0.mk ho2; have HB2 := Aside0.mk hb2; clear ho2 hb2))
  go_ret2
  exact ⟨_, rfl, Kd.S_lower HO2.out (below_size HB1.out), below_step HB1.out HB2.out⟩

set_option maxHeartbeats 4000000 in
set_option maxRecDepth 100000 in
theorem fnVandermonde_calls (n m : Nat) (hn : n < 256) (hm : m < 256) (w : World) (ht : Tabs w) :
    Calls Tryd.prog 5 #[.int .u8 (n : Int), .int .u8 (m : Int)] w fun e w' => e = .returned (.bool true) ∧ Below w.heap.size w w' := by
  obtain ⟨n1, hn1⟩ : ∃ z, n % 40 = z := ⟨_, rfl⟩
  obtain ⟨m1, hm1⟩ : ∃ z, m % 40 = z := ⟨_, rfl⟩
  have bn : n1 < 40 := by omega
  have bm : m1 < 40 := by omega
  have hmodn : (n : Int) % 40 = (n1 : Int) := by omega
  have hmodm : (m : Int) % 40 = (m1 : Int) := by omega
  obtain ⟨R, hR⟩ : ∃ q, 1 + n1 = q := ⟨_, rfl⟩
  obtain ⟨C, hC⟩ : ∃ q, 1 + m1 = q := ⟨_, rfl⟩
  have hRi : (1 : Int) + (n1 : Int) = (R : Int) := by omega
  have hCi : (1 : Int) + (m1 : Int) = (C : Int) := by omega
  have hR1 : 1 ≤ R := by omega
  have hR2 : R ≤ 40 := by omega
  have hC1 : 1 ≤ C := by omega
  have hC2 : C ≤ 40 := by omega
  obtain ⟨K, r, hs, h1, h2, h3⟩ := vandermonde_same R C hR1 hC1 (by omega) (by omega)
  have C11 := fun W H => implVandermonde_calls K R C hR1 (by omega) hC1 (by omega) (zm R C) r hs W H h2 h3
  have C12 := fun W => spec_Vandermonde.calls K (R : Int) (C : Int) r W h1
  have HS : Aside0 (r.length ≤ 1000000) := ⟨by rw [hs.1]; omega⟩
  have HTB := Aside0.mk ht
  clear hn1 hm1 hR hC hs h1 h2 h3 ht
  go_enter Tryd.func5, Tryd.ntmps5
  go_wp2_with (first
    | (go_at_call 11; (with_reducible refine (C11 _ HTB.out).mono ?_); rintro e w1 ⟨v1, rfl, ho1, hb1⟩; have HO1 := Aside0.mk ho1; have HB1 := Aside0.mk hb1; clear ho1 hb1; obtain ⟨A1, c1, e1⟩ := Kd.S_slice HO1.out; subst e1)
    | (go_at_call 12; (with_reducible refine (C12 _).mono ?_); rintro e w2 ⟨v2, rfl, ho2, hb2⟩; have HO2 := Aside0.mk ho2; have HB2 := Aside0.mk hb2; clear ho2 hb2; obtain ⟨A2, c2, e2⟩ := Kd.S_slice HO2.out; subst e2)
    | (go_at_call 9; (with_reducible refine (same_true A1 c1 A2 c2 r _ (Kd.C_below (Kd.S_reads' HO1.out).2.2 HB2.out) (Kd.S_reads' HO2.out).2.2 HS.out).mono ?_); rintro e w3 ⟨rfl, ⟨nd, rfl⟩⟩))
  go_ret
  exact ⟨rfl, pw_below_drewN (below_step HB1.out HB2.out) nd⟩

end Go.Proofs.YthigdbokhghbjaaDoor.Mat
