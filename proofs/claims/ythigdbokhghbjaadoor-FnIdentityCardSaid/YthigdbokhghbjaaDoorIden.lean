/-
  The walks of impl.Identity and of the law FnIdentity: true for every byte.
-/
import Derived.Test.YthigdbokhghbjaaDoorMatLaw
import Derived.Test.YthigdbokhghbjaaDoorSame
namespace Go.Proofs.YthigdbokhghbjaaDoor.Mat
open Go.RowKit Go.Proofs.YthigdbokhghbjaaDoorW.PrintWords Go.Proofs.YthigdbokhghbjaaDoorW.PrintLast Go.Proofs.YthigdbokhghbjaaDoorW.PrintMore
open Go.Proofs.YthigdbokhghbjaaDoor.Base

set_option maxHeartbeats 4000000 in
set_option maxRecDepth 100000 in
theorem implIdentity_calls (k n : Nat) (h0 : 1 ≤ n) (h1 : n ≤ 64) (r : List (List Int)) (hr : Sized r n n) (w : World) (h : reedsolomon_ZZIdentity.f k (n : Int) = some (r, none)) :
    Calls Tryd.prog 8 #[.int .i64 (n : Int)] w fun e w' => ∃ v0_ : Value, e = .returned (.tuple #[v0_, .bool true]) ∧ Kd.S (Kd.slice 5 (Kd.int .u8)) 41 w' w.heap.size (fun _ => True) v0_ r ∧ Below w.heap.size w w' := by
  have HZ := Aside0.mk h
  have HT := Aside0.mk (told_tells r n n hr (by omega) (by omega) (n + 1) (by omega))
  clear h hr
  go_enter Tryd.func8, Tryd.ntmps8
  go_wp2_with (first
    | (go_at_call 16; (with_reducible refine (reedsolomon_ZZIdentity.calls k (n : Int) r none _ HZ.out).mono ?_); rintro e w1 ⟨v1, rfl, ho1, hb1⟩; simp only [errW_none]; have HO1 := Aside0.mk ho1; have HB1 := Aside0.mk hb1; clear ho1 hb1; obtain ⟨A1, c1, e1⟩ := Kd.S_slice HO1.out; subst e1)
    | (go_at_call 15; (with_reducible refine (impl_told.calls (n + 1) A1 c1 r r true _ (Kd.S_reads' HO1.out).2.2 (Kd.S_reads' HO1.out).2.1 HT.out).mono ?_); rintro e w2 ⟨v2, rfl, ho2, hb2⟩; have HO2 := Aside0.mk ho2; have HB2 := Aside0.mk hb2; clear ho2 hb2))
  go_ret2
  exact ⟨_, rfl, Kd.S_lower HO2.out (below_size HB1.out), below_step HB1.out HB2.out⟩

set_option maxHeartbeats 4000000 in
set_option maxRecDepth 100000 in
theorem fnIdentity_calls (n : Nat) (hn : n < 256) (w : World) :
    Calls Tryd.prog 4 #[.int .u8 (n : Int)] w fun e w' => e = .returned (.bool true) ∧ Below w.heap.size w w' := by
  obtain ⟨m, hm⟩ : ∃ m, n % 40 = m := ⟨_, rfl⟩
  have hm1 : m < 40 := by omega
  have hmod : (n : Int) % 40 = (m : Int) := by omega
  obtain ⟨q, hq⟩ : ∃ q, 1 + m = q := ⟨_, rfl⟩
  have hqi : (1 : Int) + (m : Int) = (q : Int) := by omega
  have hq1 : 1 ≤ q := by omega
  have hq2 : q ≤ 40 := by omega
  obtain ⟨r, hs, h1, h2⟩ := identity_same q hq1 (by omega) (q + 1) (by omega)
  have C8 := fun W => implIdentity_calls (q + 1) q hq1 (by omega) r hs W h2
  have C10 := fun W => spec_One.calls (q + 1) (q : Int) r W h1
  have HS : Aside0 (r.length ≤ 1000000) := ⟨by rw [hs.1]; omega⟩
  clear hm hq hs h1 h2
  go_enter Tryd.func4, Tryd.ntmps4
  go_wp2_with (first
    | (go_at_call 8; (with_reducible refine (C8 _).mono ?_); rintro e w1 ⟨v1, rfl, ho1, hb1⟩; have HO1 := Aside0.mk ho1; have HB1 := Aside0.mk hb1; clear ho1 hb1; obtain ⟨A1, c1, e1⟩ := Kd.S_slice HO1.out; subst e1)
    | (go_at_call 10; (with_reducible refine (C10 _).mono ?_); rintro e w2 ⟨v2, rfl, ho2, hb2⟩; have HO2 := Aside0.mk ho2; have HB2 := Aside0.mk hb2; clear ho2 hb2; obtain ⟨A2, c2, e2⟩ := Kd.S_slice HO2.out; subst e2)
    | (go_at_call 9; (with_reducible refine (same_true A1 c1 A2 c2 r _ (Kd.C_below (Kd.S_reads' HO1.out).2.2 HB2.out) (Kd.S_reads' HO2.out).2.2 HS.out).mono ?_); rintro e w3 ⟨rfl, ⟨nd, rfl⟩⟩))
  go_ret
  exact ⟨rfl, pw_below_drewN (below_step HB1.out HB2.out) nd⟩

end Go.Proofs.YthigdbokhghbjaaDoor.Mat
