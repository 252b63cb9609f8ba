/-
  What the rows' proofs share: the two tables and the two sentinels as the row's condition gives them, and the named variables read again behind a call that leaves all that was there as it was.
-/
import Derived.Test.YthigdbokhghbjaaDoorPow
import Derived.ProofKit
import Derived.LaidMore
import Derived.OpenShut
import Derived.Stop.Joined
import Derived.Stop.LaidErr
import Derived.Lib.LaidTab
import Derived.WalkSmall
import Derived.LaidOnce
namespace Go.Proofs.YthigdbokhghbjaaDoor.Gf
open Go.ChangeShapes Go.WideShapes Go.ChangeAt Go.RowKit

theorem own : ownKnob Tryd.prog.godebug = none := by kernel_rfl
theorem laidOut : laidOutB Tryd.prog = true := by kernel_rfl
theorem gLog : Tryd.prog.globalNamed "loop.example/pub-g03243/pub/reedsolomon.logTable" = some 0 := by kernel_rfl
theorem gExp : Tryd.prog.globalNamed "loop.example/pub-g03243/pub/reedsolomon.expTable" = some 1 := by kernel_rfl
theorem tLog : (Tryd.prog.globals[0]?).map (·.type) = some 49 := by kernel_rfl
theorem tExp : (Tryd.prog.globals[1]?).map (·.type) = some 49 := by kernel_rfl
theorem cells49 : Tryd.prog.cellsOf 49 = 256 := by kernel_rfl
theorem cells5 : Tryd.prog.cellsOf 5 = 1 := by kernel_rfl

/-- The named variables read behind the call as they read before it. -/
theorem vars_stay {H : Type} {enc : TypeId × Value → H} {P : Program} (hl : laidOutB P = true) {W W' : World} (hb : Below W.heap.size W W') : ∀ {ns : List String} {gs : List (DataW H)} {q : List MemPlace},
    (∀ n ∈ ns, ∀ g t, P.globalNamed n = some g → (P.globals[g]?).map (·.type) = some t → P.readableRec t = true ∧ t < P.types.size) →
    DataW.TrodVars enc P W (fun _ => true) ns gs q → DataW.TrodVars enc P W' (fun b => decide (b < W.heap.size)) ns gs q
  | [], gs, q, _, h => by
    obtain ⟨rfl, rfl⟩ := trodVars_none h
    rfl
  | n :: ns, [], _, _, h => by simp [DataW.TrodVars] at h
  | n :: ns, d :: gs, q, hn, h => by
    have hlt := DataW.TrodVars.lt h
    obtain ⟨g, t, cs, fuel, p, q', h1, h2, h3, h4, hs, e⟩ := h
    obtain ⟨hr, ht⟩ := hn n (List.mem_cons_self) g t h1 h2
    have h4' : DataW.Trod enc P W 0 (fun _ => true) true t (.agg cs) d p := ⟨fuel, h4⟩
    have hlt' : ∀ x ∈ p, x.block < W.heap.size := fun x hx => hlt x (by rw [e]; simp [hx])
    obtain ⟨f', h5⟩ := Below.trod hl hr ht h4' hb hlt'
    have hv : W'.var? P n = some cs := by
      unfold World.var? at h3 ⊢
      rw [h1] at h3 ⊢
      simp only [Option.bind_some] at h3 ⊢
      have hg : g < W.heap.size := by
        rcases Nat.lt_or_ge g W.heap.size with h' | h'
        · exact h'
        · simp [Array.getElem?_eq_none h'] at h3
      rw [hb.block g hg]
      exact h3
    exact ⟨g, t, cs, f', p, q', h1, h2, hv, h5, vars_stay hl hb (fun m hm => hn m (List.mem_cons_of_mem _ hm)) hs, e⟩

/-- The condition by one run of the reader, 'no place twice' by a set of bits. -/
theorem met_by_bits {P : Program} {w : World} {l : List (String × DataW Unit)} (fuel M : Nat) (h : (DataW.laidRun P w fuel (l.map (·.1))).map (fun x => (x.1, nodupBits M x.2 0 && laidRowsB P w x.2)) = some (l, true)) : laidMet P l w := by
  cases hx : DataW.laidRun P w fuel (l.map (·.1)) with
  | none => simp [hx] at h
  | some x =>
    obtain ⟨l', ps⟩ := x
    simp only [hx, Option.map_some, Option.some.injEq, Prod.mk.injEq, Bool.and_eq_true] at h
    obtain ⟨rfl, hn, hr⟩ := h
    exact laidMet_of_run fuel hx (decide_eq_true (nodupBits_sound hn).1) hr

/-- Where nothing is asked of the arguments, the start that has its sizes has the reading, too: one closed fact for both. -/
theorem pre_of_sized {H : Type} {enc : TypeId × Value → H} {P : Program} {f : Func} {s : ChangeSpec} {apart : Bool} {w : World} {args : Array Value} {fuel : Nat} (h : s.sizedB enc P f apart w args fuel = true) : s.preB enc P f [] apart w args fuel = true := by
  unfold ChangeSpec.sizedB at h
  rw [Bool.and_eq_true] at h
  obtain ⟨_, h⟩ := h
  unfold ChangeSpec.preB
  split at h
  · rename_i x hx
    rw [hx]
    rfl
  · cases h

/-- The two tables, out of the condition: they stand first on the list. -/
theorem tabs_of_laid {rest : List (String × DataW Unit)} {W : World}
    (h : laidMet Tryd.prog (("loop.example/pub-g03243/pub/reedsolomon.logTable", Rows.laid_loop_example_pub_g03243_pub_reedsolomon_logTable) :: ("loop.example/pub-g03243/pub/reedsolomon.expTable", Rows.laid_loop_example_pub_g03243_pub_reedsolomon_expTable) :: rest) W) : Tabs W := by
  rw [log_datum, exp_datum] at h
  have h1 := Lib.tabIs_of_head gLog tLog Tryd.underlying49 Tryd.underlying5 cells5 cells49 h
  have h2 := Lib.tabIs_of_head gExp tExp Tryd.underlying49 Tryd.underlying5 cells5 cells49 h.tail
  refine ⟨fun i hi => ?_, fun i hi => ?_⟩
  · have c := h1.cell gLog i (by unfold zs; rw [List.length_map, log_len]; exact hi)
    rw [c]
    unfold zs
    rw [List.getD_eq_getElem?_getD, List.getElem?_map, List.getD_eq_getElem?_getD]
    cases logT[i]? <;> rfl
  · have c := h2.cell gExp i (by unfold zs; rw [List.length_map, exp_len]; exact hi)
    rw [c]
    unfold zs
    rw [List.getD_eq_getElem?_getD, List.getElem?_map, List.getD_eq_getElem?_getD]
    cases expT[i]? <;> rfl

end Go.Proofs.YthigdbokhghbjaaDoor.Gf
