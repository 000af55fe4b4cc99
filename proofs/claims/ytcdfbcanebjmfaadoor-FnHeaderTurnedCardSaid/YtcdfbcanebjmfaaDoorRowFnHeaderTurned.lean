/- The row of the law FnHeaderTurned, out of its walk (Walk.topTurned): the frame that reads the arguments and reads them again. -/
import Derived.Test.YtcdfbcanebjmfaaDoorCards
import Derived.Test.YtcdfbcanebjmfaaDoorTie
import Derived.Test.YtcdfbcanebjmfaaDoorLaidH
import Derived.SevenTiedAt
import Derived.Handed
import Derived.JoinedOf
import Derived.Test.YtcdfbcanebjmfaaDoorLawHt
import Derived.WalkKit
import Derived.ProofKit
import Derived.OpenShut
import Derived.ShutString
import Derived.ChangeOld
import Derived.Below
import Derived.SizedLaws
import Derived.Test.YtcdfbcanebjmfaaDoorWSized
namespace Go.Proofs.YtcdfbcanebjmfaaDoor.fnHeaderTurned
open Go.ChangeShapes Go.WideShapes Go.ChangeAt Go.RowKit Go.Proofs.YtcdfbcanebjmfaaDoorW Go.Proofs.YtcdfbcanebjmfaaDoorW.PrintWords
open Go.ChangeMaps (open_string shut_string)
set_option linter.unusedVariables false
theorem own : ownKnob Tryd.prog.godebug = none := by kernel_rfl
theorem laidOut : laidOutB Tryd.prog = true := by kernel_rfl
def IsRow (k : IntKind) (w : World) (a : Option Addr) (len cap : Nat) (zs : List Int) : Prop :=
  (a = none ∧ len = 0 ∧ cap = 0 ∧ zs = []) ∨
  ∃ x, a = some x ∧ len ≤ cap ∧ cap ≤ maxLen ∧ zs.length = cap ∧ (∀ i, i < zs.length → w.cell? (x.add i) = some (.int k (zs.getD i 0))) ∧ ∀ n ∈ zs, (Lit.int k n).wf = true
set_option maxRecDepth 100000 in
theorem lifted (os : Os) (started : os.Started) (H : Type) (enc : TypeId × Value → H) :
    ReturnsInHanded {} Tryd.checked os 4 .any (fun w args => (Rows.fnHeaderTurnedSpec.pre enc Tryd.prog Tryd.f4 [] false w args ∧ laidMet Tryd.prog Walk.theLaid w) ∧ sizedMet enc Tryd.prog Tryd.f4 (OpenSpec.ofChange Rows.fnHeaderTurnedSpec) false w args) (Rows.fnHeaderTurnedSpec.post enc Tryd.prog Tryd.f4 false true false false) := by
  refine returnsInHanded_of_change_and (C := Tryd.checked) (X := fun w _ => laidMet Tryd.prog Walk.theLaid w) (fun _ _ _ hh h => h.of_heap hh) own started (by kernel_rfl) Tryd.func4
    (ChangeSpec.witness_at (enc := enc) (C := Tryd.checked) (os := os) (X := fun w _ => laidMet Tryd.prog Walk.theLaid w) false (Walk.laidWorld os) #[.int .u32 0, .int .u16 0, .int .u64 0, .int .u16 0] 8 rfl (by kernel_rfl) (by kernel_rfl) (by kernel_rfl) (by kernel_rfl) (by kernel_rfl) (Walk.laidWorld_met os _)) ?_
  intro W base args ds gs before hval0 hW hcnd hsz0 hL _
  have hsz : (DataW.weightsEach Tryd.prog (Tryd.f4.params.toList ++ Rows.fnHeaderTurnedSpec.plain.varTypes Tryd.prog) (ds ++ gs)).all (· ≤ reachBytes) = true := hsz0
  have hval : ∀ (j : Nat) t v, Tryd.f4.params[j]? = some t → args[j]? = some v → Value.okWide Tryd.prog W .any base t v := hval0
  have hW' := hW
  obtain ⟨p, q, hA0, hV, rfl, hfz, hnd⟩ := hW
  have hA : DataW.TrodAll enc Tryd.prog W 0 (fun _ => true) true Tryd.f4.params.toList args.toList ds p := hA0
  rw [Tryd.params4] at hA hval hsz
  obtain ⟨v0, vs0, d0, ds0, p0, q0, hargs, rfl, rfl, h0, r0⟩ := trodAll_cons hA
  obtain ⟨v1, vs1, d1, ds1, p1, q1, rfl, rfl, rfl, h1, r1⟩ := trodAll_cons r0
  obtain ⟨v2, vs2, d2, ds2, p2, q2, rfl, rfl, rfl, h2, r2⟩ := trodAll_cons r1
  obtain ⟨v3, vs3, d3, ds3, p3, q3, rfl, rfl, rfl, h3, r3⟩ := trodAll_cons r2
  obtain ⟨rfl, rfl, rfl⟩ := trodAll_nil r3
  obtain rfl : args = #[v0, v1, v2, v3] := by cases args; simp_all
  obtain ⟨ea, eb, es, hvar, hG, hes, hS⟩ := Walk.glob_of_laid hL
  have hV1 : DataW.TrodVars enc Tryd.prog W (fun _ => true) [Walk.nSync] gs q := hV
  obtain ⟨rfl, rfl⟩ := hV1.unique (vars_read1 enc Walk.gSync Walk.tSync Tryd.underlying50 hvar trivial _)
  clear hV1
  obtain ⟨a0, rfl, rfl, rfl, w0⟩ := open_int Tryd.underlying22 (hval 0 22 v0 rfl rfl) h0
  obtain ⟨a1, rfl, rfl, rfl, w1⟩ := open_int Tryd.underlying23 (hval 1 23 v1 rfl rfl) h1
  obtain ⟨a2, rfl, rfl, rfl, w2⟩ := open_int Tryd.underlying24 (hval 2 24 v2 rfl rfl) h2
  obtain ⟨a3, rfl, rfl, rfl, w3⟩ := open_int Tryd.underlying23 (hval 3 23 v3 rfl rfl) h3
  clear hA0 hval0 hsz0 hsz
  refine (Walk.topTurned W a0 a1 a2 a3 w0 w1 w2 w3 ea eb es hG hes hS).mono fun e W' ⟨he, bel⟩ => ?_
  subst he
  exact ⟨_, rfl, _, _, _, [], _, _, hW', trodAll_mk1 (shut_bool Tryd.underlying4 _), (trodAll_cons_mk (shut_int Tryd.underlying22 w0) (trodAll_cons_mk (shut_int Tryd.underlying23 w1) (trodAll_cons_mk (shut_int Tryd.underlying24 w2) (trodAll_cons_mk (shut_int Tryd.underlying23 w3) trodAll_mk0)))), (vars_read1 enc Walk.gSync Walk.tSync Tryd.underlying50 (Walk.var_below hvar bel) trivial _), bel.frame _, fun h => by cases h⟩
theorem over : Rows.fnHeaderTurnedRow.holds Tryd.pinned (OpenSpec.ofChange Rows.fnHeaderTurnedSpec) :=
  OpenClaim.holds_of_wide 4 Tryd.f4 rfl rfl rfl rfl rfl rfl rfl ⟨rfl, rfl, rfl, rfl, rfl⟩ rfl rfl rfl rfl rfl (by kernel_rfl) Tryd.func4 (by kernel_rfl)
    (of_decide_eq_true (by kernel_rfl)) (by unfold Func.isWrapper; first | (rw [if_pos (by decide +kernel)]; kernel_rfl) | (rw [if_neg (by decide +kernel)]; exact ⟨rfl, rfl⟩))
    (fun os started H enc _ => lifted os started H enc)
theorem proved : Rows.FnHeaderTurnedSaid := over
#print axioms proved
end Go.Proofs.YtcdfbcanebjmfaaDoor.fnHeaderTurned
namespace Go.Proofs.YtcdfbcanebjmfaaDoor
/-- The tied card. -/
theorem fnHeaderTurned_holds : Rows.FnHeaderTurnedCardSaid :=
  Claim7.holds_tied_plain_at .later [] [.sentinel, .sentinel, .sentinel, .sentinel] true (true, "bdaf1e2caffc8cfdcac97ac0c59d226dad2fd572e336c3037f4afdd9f5003e55") true
    fnHeaderTurned.proved (fun _ h => by cases h) (by kernel_rfl) (fun _ h => by cases h) fnHeaderTurned_row_tie rfl ⟨rfl, rfl⟩ (by kernel_rfl) rfl
    (fun f fn hf hfn => by
      obtain rfl : f = 4 := Option.some.inj ((show Tryd.prog.funcNamed "loop.example/pub-g03434/laws.FnHeaderTurned" = some 4 by kernel_rfl).symm.trans hf) |>.symm
      obtain rfl : fn = Tryd.f4 := (Option.some.inj (Tryd.func4.symm.trans hfn)).symm
      exact ⟨by kernel_rfl, fun j t ht => by
        rw [Tryd.params4] at ht
        have hm : t ∈ [22, 23, 24, 23] := by simpa using Array.mem_of_getElem? ht
        have hall : ([22, 23, 24, 23].all fun u => !Tryd.prog.wantsStandIn u) = true := by kernel_rfl
        exact (show Tryd.prog.wantsStandIn t = false by simpa using List.all_eq_true.1 hall t hm)⟩)
    (by kernel_rfl)
#print axioms fnHeaderTurned_holds
end Go.Proofs.YtcdfbcanebjmfaaDoor
