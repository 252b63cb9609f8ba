/-
  Proved: the tied card of laws.FnPower: for every byte a and every number n the law answers true and leaves its arguments as they were; the power by the package's two tables is the power by the reference's repeated product (exponents to 2000, as the law takes them).
  Conditions: the row's own (the two tables start as the program's text lays them; the card ties them to the text); the tie speaks of the pruned copy of the project.
-/
import Derived.Test.YthigdbokhghbjaaDoorFrame
import Derived.Test.YthigdbokhghbjaaDoorCards
import Derived.Test.YthigdbokhghbjaaDoorTie
import Derived.SevenTiedAt
namespace Go.Proofs.YthigdbokhghbjaaDoor.Gf
open Go.ChangeShapes Go.WideShapes Go.ChangeAt Go.RowKit

abbrev laidPower : List (String × DataW Unit) := Rows.fnPowerRow.laid

/-- The door's own heap meets the condition. -/
theorem door_power (os : Os) (args : Array Value) : laidMetH Tryd.prog laidPower ((World.doorLaid Tryd.prog 57 os).forCall (fun _ _ => 0) ⟨#[], args, []⟩).memory :=
  laidMetH_of_parts3 (fuel := 8) (met_by_bits 8 257 (by kernel_rfl)) (by kernel_rfl) (by kernel_rfl)

/-- The start: the door's own heap, the arguments 0 and 0. -/
noncomputable abbrev startPower (os : Os) : World := (World.doorLaid Tryd.checked.prog 57 os).forCall (fun _ _ => 0) ⟨#[], #[.int .u8 0, .int .u16 0], []⟩
theorem shaped_power (os : Os) : (startPower os).Shaped Tryd.checked.prog := World.shaped_of_RefB (by kernel_rfl) (by kernel_rfl)
theorem sized_power (os : Os) (H : Type) (enc : TypeId × Value → H) : Rows.fnPowerSpec.sizedB enc Tryd.checked.prog Tryd.f3 false (startPower os).memory #[.int .u8 0, .int .u16 0] 8 = true := by kernel_rfl

set_option maxRecDepth 100000 in
theorem power_lifted (os : Os) (started : os.Started) (H : Type) (enc : TypeId × Value → H) :
    ReturnsInHanded {} Tryd.checked os 3 .any (fun w args => (Rows.fnPowerSpec.pre enc Tryd.prog Tryd.f3 [] false w args ∧ laidMetH Tryd.prog laidPower w) ∧ sizedMet enc Tryd.prog Tryd.f3 (OpenSpec.ofChange Rows.fnPowerSpec) false w args)
      (Rows.fnPowerSpec.post enc Tryd.prog Tryd.f3 false true false false) := by
  refine returnsInHanded_of_change_and (C := Tryd.checked) (X := fun w _ => laidMetH Tryd.prog laidPower w) (fun _ _ _ hh h => h.of_heap hh) own started (by kernel_rfl) Tryd.func3
    (ChangeSpec.witness_shaped (enc := enc) (C := Tryd.checked) (os := os) (X := fun w _ => laidMetH Tryd.prog laidPower w) false (World.doorLaid Tryd.prog 57 os) #[.int .u8 0, .int .u16 0] 8 rfl (shaped_power os) (by kernel_rfl) (pre_of_sized (sized_power os H enc)) (sized_power os H enc) (door_power os _)) ?_
  intro W base args ds gs before hval0 hW _ _ hL _
  have hval : ∀ (j : Nat) t v, Tryd.f3.params[j]? = some t → args[j]? = some v → Value.okWide Tryd.prog W .any base t v := hval0
  have hW' := hW
  obtain ⟨p, q, hA0, hV0, rfl, hfz, hnd⟩ := hW
  have hA : DataW.TrodAll enc Tryd.prog W 0 (fun _ => true) true Tryd.f3.params.toList args.toList ds p := hA0
  have hV : DataW.TrodVars enc Tryd.prog W (fun _ => true) ["loop.example/pub-g03243/pub/reedsolomon.logTable", "loop.example/pub-g03243/pub/reedsolomon.expTable"] gs q := hV0
  rw [Tryd.params3] at hA hval
  obtain ⟨v0, v1, d0, d1, p0, p1, rfl, rfl, rfl, h0, h1⟩ := trodAll_two hA
  obtain ⟨a, rfl, rfl, rfl, wa⟩ := open_int Tryd.underlying5 (hval 0 5 v0 rfl rfl) h0
  obtain ⟨n, rfl, rfl, rfl, wn⟩ := open_int Tryd.underlying22 (hval 1 22 v1 rfl rfl) h1
  rw [MakeChecks.laidMetH_plain _ _ _ (by kernel_rfl)] at hL
  have ht : Tabs W := tabs_of_laid hL
  have ba := bounds_u8 wa
  have bn := bounds_u16 wn
  obtain ⟨a, rfl⟩ := Int.eq_ofNat_of_zero_le ba.1
  obtain ⟨n, rfl⟩ := Int.eq_ofNat_of_zero_le bn.1
  refine (fnPower_calls a n (by omega) (by omega) W ht).mono fun e W' ⟨he, hd⟩ => ?_
  subst he
  have hb := hd.below
  have vs := vars_stay laidOut hb (by
    intro m hm g t hg hty
    simp only [List.mem_cons, List.not_mem_nil, or_false] at hm
    rcases hm with rfl | rfl
    · obtain rfl := Option.some.inj (gLog.symm.trans hg)
      obtain rfl := Option.some.inj (tLog.symm.trans hty)
      exact ⟨by kernel_rfl, of_decide_eq_true (by kernel_rfl)⟩
    · obtain rfl := Option.some.inj (gExp.symm.trans hg)
      obtain rfl := Option.some.inj (tExp.symm.trans hty)
      exact ⟨by kernel_rfl, of_decide_eq_true (by kernel_rfl)⟩) hV
  obtain ⟨g1, g2, rfl⟩ : ∃ g1 g2, gs = [g1, g2] := by
    obtain ⟨_, _, _, _, d, _, _, _, _, _, d', _, e, _⟩ := trodVars_two hV
    exact ⟨d, d', e⟩
  exact ⟨_, rfl, _, _, _, [], _, q, hW', trodAll_mk1 (shut_bool Tryd.underlying4 _), trodAll_mk2 (shut_int Tryd.underlying5 wa) (shut_int Tryd.underlying22 wn), vs, hb.frame _, fun h => by cases h⟩

theorem fnPower_row : Rows.FnPowerSaid :=
  OpenClaim.holds_of_wide 3 Tryd.f3 rfl rfl rfl rfl rfl rfl rfl ⟨rfl, rfl, rfl, rfl, rfl⟩ rfl rfl rfl rfl rfl (by kernel_rfl) Tryd.func3 (by kernel_rfl)
    (of_decide_eq_true (by kernel_rfl)) (by unfold Func.isWrapper; first | (rw [if_pos (by decide +kernel)]; kernel_rfl) | (rw [if_neg (by decide +kernel)]; exact ⟨rfl, rfl⟩))
    (fun os started H enc _ => power_lifted os started H enc)

end Go.Proofs.YthigdbokhghbjaaDoor.Gf
namespace Go.Proofs.YthigdbokhghbjaaDoor
open Go

/-- THE TIED CARD of laws.FnPower. -/
theorem fnPower_holds : Rows.FnPowerCardSaid :=
  Claim7.holds_tied_plain_at .later [] [.data, .data] true (true, "d075027a936d0e85acf15b511f7318eda71dc139e3f9a9f3eb8b8cb9f5e40ee2") false
    Gf.fnPower_row (fun _ h => by cases h) (by kernel_rfl) (fun _ h => by cases h) fnPower_row_tie rfl ⟨rfl, rfl⟩ (by kernel_rfl) rfl
    (fun f fn hf hfn => by
      obtain rfl : f = 3 := Option.some.inj ((show Tryd.prog.funcNamed "loop.example/pub-g03243/laws.FnPower" = some 3 by kernel_rfl).symm.trans hf) |>.symm
      obtain rfl : fn = Tryd.f3 := (Option.some.inj (Tryd.func3.symm.trans hfn)).symm
      exact ⟨by kernel_rfl, fun j t ht => by
        rw [Tryd.params3] at ht
        have hm : t ∈ [5, 22] := by simpa using Array.mem_of_getElem? ht
        have hall : ([5, 22].all fun u => !Tryd.prog.wantsStandIn u) = true := by kernel_rfl
        exact (show Tryd.prog.wantsStandIn t = false by simpa using List.all_eq_true.1 hall t hm)⟩)
    (by kernel_rfl)
#print axioms fnPower_holds
end Go.Proofs.YthigdbokhghbjaaDoor
