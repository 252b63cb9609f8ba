/-
  Proved: the tied card of laws.FnIdentity: for every byte n the law answers true and leaves its argument as it was; the package's identity matrix of 1 + n mod 40 rows is the reference's.
  Conditions: the row's own (the two sentinels start as the program's text lays them; the card ties them to the text); the tie speaks of the pruned copy of the project.
-/
import Derived.Test.YthigdbokhghbjaaDoorFrame
import Derived.Test.YthigdbokhghbjaaDoorIden
import Derived.Test.YthigdbokhghbjaaDoorCards
import Derived.Test.YthigdbokhghbjaaDoorTie
import Derived.SevenTiedAt
namespace Go.Proofs.YthigdbokhghbjaaDoor.Mat
open Go.ChangeShapes Go.WideShapes Go.ChangeAt Go.RowKit
open Go.Proofs.YthigdbokhghbjaaDoor.Gf (own laidOut vars_stay met_by_bits pre_of_sized)

theorem gRow : Tryd.prog.globalNamed "loop.example/pub-g03243/pub/reedsolomon.errInvalidRowSize" = some 2 := by kernel_rfl
theorem gCol : Tryd.prog.globalNamed "loop.example/pub-g03243/pub/reedsolomon.errInvalidColSize" = some 3 := by kernel_rfl
theorem tRow : (Tryd.prog.globals[2]?).map (·.type) = some 38 := by kernel_rfl
theorem tCol : (Tryd.prog.globals[3]?).map (·.type) = some 38 := by kernel_rfl

abbrev laidIden : List (String × DataW Unit) := Rows.fnIdentityRow.laid

/-- The door's own heap meets the condition. -/
theorem door_iden (os : Os) (args : Array Value) : laidMetH Tryd.prog laidIden ((World.doorLaid Tryd.prog 57 os).forCall (fun _ _ => 0) ⟨#[], args, []⟩).memory :=
  laidMetH_of_parts3 (fuel := 8) (met_by_bits 8 257 (by kernel_rfl)) (by kernel_rfl) (by kernel_rfl)
/-- The start: the door's own heap, the argument 0. -/
noncomputable abbrev startIden (os : Os) : World := (World.doorLaid Tryd.checked.prog 57 os).forCall (fun _ _ => 0) ⟨#[], #[.int .u8 0], []⟩
theorem shaped_iden (os : Os) : (startIden os).Shaped Tryd.checked.prog := World.shaped_of_RefB (by kernel_rfl) (by kernel_rfl)
theorem sized_iden (os : Os) (H : Type) (enc : TypeId × Value → H) : Rows.fnIdentitySpec.sizedB enc Tryd.checked.prog Tryd.f4 false (startIden os).memory #[.int .u8 0] 8 = true := by kernel_rfl

set_option maxRecDepth 100000 in
theorem iden_lifted (os : Os) (started : os.Started) (H : Type) (enc : TypeId × Value → H) :
    ReturnsInHanded {} Tryd.checked os 4 .any (fun w args => (Rows.fnIdentitySpec.pre enc Tryd.prog Tryd.f4 [] false w args ∧ laidMetH Tryd.prog laidIden w) ∧ sizedMet enc Tryd.prog Tryd.f4 (OpenSpec.ofChange Rows.fnIdentitySpec) false w args)
      (Rows.fnIdentitySpec.post enc Tryd.prog Tryd.f4 false true false false) := by
  refine returnsInHanded_of_change_and (C := Tryd.checked) (X := fun w _ => laidMetH Tryd.prog laidIden w) (fun _ _ _ hh h => h.of_heap hh) own started (by kernel_rfl) Tryd.func4
    (ChangeSpec.witness_shaped (enc := enc) (C := Tryd.checked) (os := os) (X := fun w _ => laidMetH Tryd.prog laidIden w) false (World.doorLaid Tryd.prog 57 os) #[.int .u8 0] 8 rfl (shaped_iden os) (by kernel_rfl) (pre_of_sized (sized_iden os H enc)) (sized_iden os H enc) (door_iden os _)) ?_
  intro W base args ds gs before hval0 hW _ _ _ _
  have hval : ∀ (j : Nat) t v, Tryd.f4.params[j]? = some t → args[j]? = some v → Value.okWide Tryd.prog W .any base t v := hval0
  have hW' := hW
  obtain ⟨p, q, hA0, hV0, rfl, hfz, hnd⟩ := hW
  have hA : DataW.TrodAll enc Tryd.prog W 0 (fun _ => true) true Tryd.f4.params.toList args.toList ds p := hA0
  have hV : DataW.TrodVars enc Tryd.prog W (fun _ => true) ["loop.example/pub-g03243/pub/reedsolomon.errInvalidRowSize", "loop.example/pub-g03243/pub/reedsolomon.errInvalidColSize"] gs q := hV0
  rw [Tryd.params4] at hA hval
  obtain ⟨v0, d0, rfl, rfl, h0⟩ := trodAll_one hA
  obtain ⟨a, rfl, rfl, rfl, wa⟩ := open_int Tryd.underlying5 (hval 0 5 v0 rfl rfl) h0
  have ba := bounds_u8 wa
  obtain ⟨a, rfl⟩ := Int.eq_ofNat_of_zero_le ba.1
  refine (fnIdentity_calls a (by omega) W).mono fun e W' ⟨he, hb⟩ => ?_
  subst he
  have vs := vars_stay laidOut hb (by
    intro m hm g t hg hty
    simp only [List.mem_cons, List.not_mem_nil, or_false] at hm
    rcases hm with rfl | rfl
    · obtain rfl := Option.some.inj (gRow.symm.trans hg)
      obtain rfl := Option.some.inj (tRow.symm.trans hty)
      exact ⟨by kernel_rfl, of_decide_eq_true (by kernel_rfl)⟩
    · obtain rfl := Option.some.inj (gCol.symm.trans hg)
      obtain rfl := Option.some.inj (tCol.symm.trans hty)
      exact ⟨by kernel_rfl, of_decide_eq_true (by kernel_rfl)⟩) hV
  obtain ⟨g1, g2, rfl⟩ : ∃ g1 g2, gs = [g1, g2] := by
    obtain ⟨_, _, _, _, d, _, _, _, _, _, d', _, e, _⟩ := trodVars_two hV
    exact ⟨d, d', e⟩
  exact ⟨_, rfl, _, _, _, [], _, q, hW', trodAll_mk1 (shut_bool Tryd.underlying4 _), trodAll_mk1 (shut_int Tryd.underlying5 wa), vs, hb.frame _, fun h => by cases h⟩

theorem fnIdentity_row : Rows.FnIdentitySaid :=
  OpenClaim.holds_of_wide 4 Tryd.f4 rfl rfl rfl rfl rfl rfl rfl ⟨rfl, rfl, rfl, rfl, rfl⟩ rfl rfl rfl rfl rfl (by kernel_rfl) Tryd.func4 (by kernel_rfl)
    (of_decide_eq_true (by kernel_rfl)) (by unfold Func.isWrapper; first | (rw [if_pos (by decide +kernel)]; kernel_rfl) | (rw [if_neg (by decide +kernel)]; exact ⟨rfl, rfl⟩))
    (fun os started H enc _ => iden_lifted os started H enc)

end Go.Proofs.YthigdbokhghbjaaDoor.Mat
namespace Go.Proofs.YthigdbokhghbjaaDoor
open Go

/-- THE TIED CARD of laws.FnIdentity. -/
theorem fnIdentity_holds : Rows.FnIdentityCardSaid :=
  Claim7.holds_tied_plain_at .later [] [.sentinel, .sentinel] true (true, "d075027a936d0e85acf15b511f7318eda71dc139e3f9a9f3eb8b8cb9f5e40ee2") false
    Mat.fnIdentity_row (fun _ h => by cases h) (by kernel_rfl) (fun _ h => by cases h) fnIdentity_row_tie rfl ⟨rfl, rfl⟩ (by kernel_rfl) rfl
    (fun f fn hf hfn => by
      obtain rfl : f = 4 := Option.some.inj ((show Tryd.prog.funcNamed "loop.example/pub-g03243/laws.FnIdentity" = some 4 by kernel_rfl).symm.trans hf) |>.symm
      obtain rfl : fn = Tryd.f4 := (Option.some.inj (Tryd.func4.symm.trans hfn)).symm
      exact ⟨by kernel_rfl, fun j t ht => by
        rw [Tryd.params4] at ht
        have hm : t ∈ [5] := by simpa using Array.mem_of_getElem? ht
        have hall : ([5].all fun u => !Tryd.prog.wantsStandIn u) = true := by kernel_rfl
        exact (show Tryd.prog.wantsStandIn t = false by simpa using List.all_eq_true.1 hall t hm)⟩)
    (by kernel_rfl)
#print axioms fnIdentity_holds
end Go.Proofs.YthigdbokhghbjaaDoor
