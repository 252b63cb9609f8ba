/-
  Proved: the tied card of laws.FnVandermonde: for every two bytes the law answers true and leaves its arguments as they were; the package's Vandermonde matrix, by its two tables, of 1 + rows mod 40 rows and 1 + cols mod 40 columns is the reference's, by repeated products.
  Conditions: the row's own (the two tables and the two sentinels start as the program's text lays them; the card ties them to the text); the tie speaks of the pruned copy of the project.
-/
import Derived.Test.YthigdbokhghbjaaDoorFrame
import Derived.Test.YthigdbokhghbjaaDoorVanWalk
import Derived.Test.YthigdbokhghbjaaDoorCards
import Derived.Test.YthigdbokhghbjaaDoorTie
import Derived.SevenTiedAt
namespace Go.Proofs.YthigdbokhghbjaaDoor.Mat
open Go.ChangeShapes Go.WideShapes Go.ChangeAt Go.RowKit
open Go.Proofs.YthigdbokhghbjaaDoor.Gf (own laidOut vars_stay met_by_bits pre_of_sized gLog gExp tLog tExp tabs_of_laid Tabs)

theorem vgRow : Tryd.prog.globalNamed "loop.example/pub-g03243/pub/reedsolomon.errInvalidRowSize" = some 2 := by kernel_rfl
theorem vgCol : Tryd.prog.globalNamed "loop.example/pub-g03243/pub/reedsolomon.errInvalidColSize" = some 3 := by kernel_rfl
theorem vtRow : (Tryd.prog.globals[2]?).map (·.type) = some 38 := by kernel_rfl
theorem vtCol : (Tryd.prog.globals[3]?).map (·.type) = some 38 := by kernel_rfl

/-- Four named variables read as four data. -/
theorem vars_four {H : Type} {enc : TypeId × Value → H} {P : Program} {w : World} {sp : Nat → Bool} {n0 n1 n2 n3 : String} {gs : List (DataW H)} {ps : List MemPlace} (h : DataW.TrodVars enc P w sp [n0, n1, n2, n3] gs ps) : ∃ a b c d, gs = [a, b, c, d] := by
  cases gs with
  | nil => simp [DataW.TrodVars] at h
  | cons a gs =>
    obtain ⟨_, _, _, _, _, _, _, _, _, _, h, _⟩ := h
    cases gs with
    | nil => simp [DataW.TrodVars] at h
    | cons b gs =>
      obtain ⟨_, _, _, _, _, _, _, _, _, _, h, _⟩ := h
      obtain ⟨_, _, _, _, c, _, _, _, _, _, d, _, e, _⟩ := trodVars_two h
      exact ⟨a, b, c, d, by rw [e]⟩

abbrev laidVan : List (String × DataW Unit) := Rows.fnVandermondeRow.laid

/-- The door's own heap meets the condition. -/
theorem door_van (os : Os) (args : Array Value) : laidMetH Tryd.prog laidVan ((World.doorLaid Tryd.prog 57 os).forCall (fun _ _ => 0) ⟨#[], args, []⟩).memory :=
  laidMetH_of_parts3 (fuel := 8) (met_by_bits 8 257 (by kernel_rfl)) (by kernel_rfl) (by kernel_rfl)
/-- The start: the door's own heap, the arguments 0 and 0. -/
noncomputable abbrev startVan (os : Os) : World := (World.doorLaid Tryd.checked.prog 57 os).forCall (fun _ _ => 0) ⟨#[], #[.int .u8 0, .int .u8 0], []⟩
theorem shaped_van (os : Os) : (startVan os).Shaped Tryd.checked.prog := World.shaped_of_RefB (by kernel_rfl) (by kernel_rfl)
theorem sized_van (os : Os) (H : Type) (enc : TypeId × Value → H) : Rows.fnVandermondeSpec.sizedB enc Tryd.checked.prog Tryd.f5 false (startVan os).memory #[.int .u8 0, .int .u8 0] 8 = true := by kernel_rfl

set_option maxRecDepth 100000 in
theorem van_lifted (os : Os) (started : os.Started) (H : Type) (enc : TypeId × Value → H) :
    ReturnsInHanded {} Tryd.checked os 5 .any (fun w args => (Rows.fnVandermondeSpec.pre enc Tryd.prog Tryd.f5 [] false w args ∧ laidMetH Tryd.prog laidVan w) ∧ sizedMet enc Tryd.prog Tryd.f5 (OpenSpec.ofChange Rows.fnVandermondeSpec) false w args)
      (Rows.fnVandermondeSpec.post enc Tryd.prog Tryd.f5 false true false false) := by
  refine returnsInHanded_of_change_and (C := Tryd.checked) (X := fun w _ => laidMetH Tryd.prog laidVan w) (fun _ _ _ hh h => h.of_heap hh) own started (by kernel_rfl) Tryd.func5
    (ChangeSpec.witness_shaped (enc := enc) (C := Tryd.checked) (os := os) (X := fun w _ => laidMetH Tryd.prog laidVan w) false (World.doorLaid Tryd.prog 57 os) #[.int .u8 0, .int .u8 0] 8 rfl (shaped_van os) (by kernel_rfl) (pre_of_sized (sized_van os H enc)) (sized_van os H enc) (door_van os _)) ?_
  intro W base args ds gs before hval0 hW _ _ hL _
  have hval : ∀ (j : Nat) t v, Tryd.f5.params[j]? = some t → args[j]? = some v → Value.okWide Tryd.prog W .any base t v := hval0
  have hW' := hW
  obtain ⟨p, q, hA0, hV0, rfl, hfz, hnd⟩ := hW
  have hA : DataW.TrodAll enc Tryd.prog W 0 (fun _ => true) true Tryd.f5.params.toList args.toList ds p := hA0
  have hV : DataW.TrodVars enc Tryd.prog W (fun _ => true) ["loop.example/pub-g03243/pub/reedsolomon.errInvalidRowSize", "loop.example/pub-g03243/pub/reedsolomon.errInvalidColSize", "loop.example/pub-g03243/pub/reedsolomon.logTable", "loop.example/pub-g03243/pub/reedsolomon.expTable"] gs q := hV0
  rw [Tryd.params5] at hA hval
  obtain ⟨v0, v1, d0, d1, p0, p1, rfl, rfl, rfl, h0, h1⟩ := trodAll_two hA
  obtain ⟨a, rfl, rfl, rfl, wa⟩ := open_int Tryd.underlying5 (hval 0 5 v0 rfl rfl) h0
  obtain ⟨n, rfl, rfl, rfl, wn⟩ := open_int Tryd.underlying5 (hval 1 5 v1 rfl rfl) h1
  rw [MakeChecks.laidMetH_plain _ _ _ (by kernel_rfl)] at hL
  have ht : Tabs W := tabs_of_laid hL
  have ba := bounds_u8 wa
  have bn := bounds_u8 wn
  obtain ⟨a, rfl⟩ := Int.eq_ofNat_of_zero_le ba.1
  obtain ⟨n, rfl⟩ := Int.eq_ofNat_of_zero_le bn.1
  refine (fnVandermonde_calls a n (by omega) (by omega) W ht).mono fun e W' ⟨he, hb⟩ => ?_
  subst he
  have vs := vars_stay laidOut hb (by
    intro m hm g t hg hty
    simp only [List.mem_cons, List.not_mem_nil, or_false] at hm
    rcases hm with rfl | rfl | rfl | rfl
    · obtain rfl := Option.some.inj (vgRow.symm.trans hg)
      obtain rfl := Option.some.inj (vtRow.symm.trans hty)
      exact ⟨by kernel_rfl, of_decide_eq_true (by kernel_rfl)⟩
    · obtain rfl := Option.some.inj (vgCol.symm.trans hg)
      obtain rfl := Option.some.inj (vtCol.symm.trans hty)
      exact ⟨by kernel_rfl, of_decide_eq_true (by kernel_rfl)⟩
    · obtain rfl := Option.some.inj (gLog.symm.trans hg)
      obtain rfl := Option.some.inj (tLog.symm.trans hty)
      exact ⟨by kernel_rfl, of_decide_eq_true (by kernel_rfl)⟩
    · obtain rfl := Option.some.inj (gExp.symm.trans hg)
      obtain rfl := Option.some.inj (tExp.symm.trans hty)
      exact ⟨by kernel_rfl, of_decide_eq_true (by kernel_rfl)⟩) hV
  obtain ⟨g1, g2, g3, g4, rfl⟩ := vars_four hV
  exact ⟨_, rfl, _, _, _, [], _, q, hW', trodAll_mk1 (shut_bool Tryd.underlying4 _), trodAll_mk2 (shut_int Tryd.underlying5 wa) (shut_int Tryd.underlying5 wn), vs, hb.frame _, fun h => by cases h⟩

theorem fnVandermonde_row : Rows.FnVandermondeSaid :=
  OpenClaim.holds_of_wide 5 Tryd.f5 rfl rfl rfl rfl rfl rfl rfl ⟨rfl, rfl, rfl, rfl, rfl⟩ rfl rfl rfl rfl rfl (by kernel_rfl) Tryd.func5 (by kernel_rfl)
    (of_decide_eq_true (by kernel_rfl)) (by unfold Func.isWrapper; first | (rw [if_pos (by decide +kernel)]; kernel_rfl) | (rw [if_neg (by decide +kernel)]; exact ⟨rfl, rfl⟩))
    (fun os started H enc _ => van_lifted os started H enc)

end Go.Proofs.YthigdbokhghbjaaDoor.Mat
namespace Go.Proofs.YthigdbokhghbjaaDoor
open Go

/-- THE TIED CARD of laws.FnVandermonde. -/
theorem fnVandermonde_holds : Rows.FnVandermondeCardSaid :=
  Claim7.holds_tied_plain_at .later [] [.data, .data, .sentinel, .sentinel] true (true, "d075027a936d0e85acf15b511f7318eda71dc139e3f9a9f3eb8b8cb9f5e40ee2") false
    Mat.fnVandermonde_row (fun _ h => by cases h) (by kernel_rfl) (fun _ h => by cases h) fnVandermonde_row_tie rfl ⟨rfl, rfl⟩ (by kernel_rfl) rfl
    (fun f fn hf hfn => by
      obtain rfl : f = 5 := Option.some.inj ((show Tryd.prog.funcNamed "loop.example/pub-g03243/laws.FnVandermonde" = some 5 by kernel_rfl).symm.trans hf) |>.symm
      obtain rfl : fn = Tryd.f5 := (Option.some.inj (Tryd.func5.symm.trans hfn)).symm
      exact ⟨by kernel_rfl, fun j t ht => by
        rw [Tryd.params5] at ht
        have hm : t ∈ [5, 5] := by simpa using Array.mem_of_getElem? ht
        have hall : ([5, 5].all fun u => !Tryd.prog.wantsStandIn u) = true := by kernel_rfl
        exact (show Tryd.prog.wantsStandIn t = false by simpa using List.all_eq_true.1 hall t hm)⟩)
    (by kernel_rfl)
#print axioms fnVandermonde_holds
end Go.Proofs.YthigdbokhghbjaaDoor
