/- Proved: laws.FnCastZero returns true for all arguments, and its arguments read behind the call as before. Conditions: the listed package-level variables read as the row lists them (tied to the program text by the card); no bound on the arguments. -/
import Derived.Test.YtnggkkdcddpjlaaGreatDoorCards
import Derived.Test.YtnggkkdcddpjlaaGreatDoorLa
import Derived.Test.YtnggkkdcddpjlaaGreatDoorLb
import Derived.Test.YtnggkkdcddpjlaaGreatDoorTie
import Derived.WalkKit
import Derived.ProofKit
import Derived.Lay
import Derived.MakeChecks
namespace Go.Proofs.YtnggkkdcddpjlaaGreatDoor
set_option linter.unusedVariables false
set_option linter.unusedSimpArgs false
open Go.ChangeShapes Go.WideShapes Go.RowKit
set_option maxRecDepth 100000 in
theorem liftedZero (os : Os) (started : os.Started) (H : Type) (enc : TypeId × Value → H) :
    ReturnsInHanded {} Tryz.checked os 4 .any (fun w args => (Rows.fnCastZeroSpec.pre enc Tryz.prog Tryz.f4 [] false w args ∧ laidMetH Tryz.prog Rows.fnCastZeroRow.laid w) ∧ sizedMet enc Tryz.prog Tryz.f4 (OpenSpec.ofChange Rows.fnCastZeroSpec) false w args)
      (Rows.fnCastZeroSpec.post enc Tryz.prog Tryz.f4 false true false false) := by
  refine returnsInHanded_of_change_and (C := Tryz.checked) (X := fun w _ => laidMetH Tryz.prog Rows.fnCastZeroRow.laid w) (fun _ _ _ hh h => h.of_heap hh) own started (by kernel_rfl) Tryz.func4
    (ChangeSpec.witness_shaped (enc := enc) (C := Tryz.checked) (os := os) (X := fun w _ => laidMetH Tryz.prog Rows.fnCastZeroRow.laid w) false (World.laidAll Tryz.prog os Rows.fnCastZeroRow.laid) #[.int .i64 0, zeroArg] 8 (World.laidAll_os _ _ _)
      (World.shaped_of_ZipB (by kernel_rfl) (by kernel_rfl)) (by kernel_rfl) (by kernel_rfl) (by kernel_rfl)
      (by rw [MakeChecks.laidMetH_plain _ _ _ (by kernel_rfl)]; exact laidMet_laidAll _ (by kernel_rfl) (by kernel_rfl))) ?_
  intro W base args ds gs before hval0 hW _ _ hL _
  have hval : ∀ (j : Nat) t v, Tryz.f4.params[j]? = some t → args[j]? = some v → Value.okWide Tryz.prog W .any base t v := hval0
  have hW' := hW
  obtain ⟨p, q, hA0, hV, rfl, _, _⟩ := hW
  have hA : DataW.TrodAll enc Tryz.prog W 0 (fun _ => true) true Tryz.f4.params.toList args.toList ds p := hA0
  rw [Tryz.params4] at hA hval
  obtain ⟨v1, vs1, d1, ds1, p1, q1, hargs, rfl, rfl, h1, r1⟩ := trodAll_cons hA
  obtain ⟨v0, vs0, d0, ds0, p0, q0, rfl, rfl, rfl, h0, r0⟩ := trodAll_cons r1
  obtain ⟨rfl, rfl, rfl⟩ := trodAll_nil r0
  obtain rfl : args = #[v1, v0] := by cases args; simp_all
  obtain ⟨rfl, rfl⟩ := trodVars_none hV
  simp only [List.append_nil] at hW'
  obtain ⟨k, I, U, F, S, pL, pE, nL, nE, cL, cE, rfl, hI0, hI1, hU0, hU1, hF1⟩ := arg27 (hval 1 27 v0 rfl rfl) h0
  obtain ⟨kd, rfl, rfl, rfl, wk⟩ := open_int Tryz.underlying3 (hval 0 3 v1 rfl rfl) h1
  simp only [List.nil_append, List.append_nil] at hW'
  obtain ⟨hT, h2⟩ := tabs_of_laid hL
  have hlt : ∀ x ∈ p0, x.block < W.heap.size := hW'.lt
  refine (law_zero kd k I U F S pL pE nL nE cL cE hI0 hI1 hU0 hU1 hF1 W hT h2).mono fun e W' ⟨he, hb⟩ => ?_
  subst he
  exact ⟨_, rfl, _, _, _, [], p0, [], hW', trodAll_mk1 (shut_bool Tryz.underlying4 _), ⟨[], p0, shut_int Tryz.underlying3 wk, ⟨p0, [], again27 h0 hlt (fun x hx => by simpa using hlt x hx) hb, rfl, by simp⟩, by simp⟩, rfl, hb.frame _, fun h => by cases h⟩
theorem saidZero : Rows.FnCastZeroSaid :=
  OpenClaim.holds_of_wide 4 Tryz.f4 rfl rfl rfl rfl rfl rfl rfl ⟨rfl, rfl, rfl, rfl, rfl⟩ rfl rfl rfl rfl rfl (by kernel_rfl) Tryz.func4 (by kernel_rfl)
    (of_decide_eq_true (by kernel_rfl)) (by unfold Func.isWrapper; first | (rw [if_pos (by decide +kernel)]; kernel_rfl) | (rw [if_neg (by decide +kernel)]; exact ⟨rfl, rfl⟩))
    (fun os started H enc _ => liftedZero os started H enc)
theorem zeroStand (f : FuncId) (fn : Func) (hf : Tryz.pinned.checked.prog.funcNamed "pub-ensign/laws.FnCastZero" = some f) (hfn : Tryz.pinned.checked.prog.funcs[f]? = some fn) :
    true = Tryz.pinned.checked.prog.looks [] ∧ ∀ (j : Nat) t, fn.params[j]? = some t → Tryz.pinned.checked.prog.wantsStandIn t = false := by
  obtain rfl : f = 4 := Option.some.inj ((show Tryz.prog.funcNamed "pub-ensign/laws.FnCastZero" = some 4 by kernel_rfl).symm.trans hf) |>.symm
  obtain rfl : fn = Tryz.f4 := (Option.some.inj (Tryz.func4.symm.trans hfn)).symm
  refine ⟨by kernel_rfl, fun j t ht => ?_⟩
  rw [Tryz.params4] at ht
  have hm : t = 3 ∨ t = 27 := by simpa using Array.mem_of_getElem? ht
  rcases hm with rfl | rfl
  · exact (show Tryz.prog.wantsStandIn 3 = false by kernel_rfl)
  · exact (show Tryz.prog.wantsStandIn 27 = false by kernel_rfl)
/-- THE CARD. -/
theorem cardZero : Rows.FnCastZeroCardSaid :=
  Claim7.holds_tied_plain_at .later [] _ _ _ _ saidZero (fun _ h => by cases h) (by kernel_rfl) (fun _ h => by cases h) fnCastZero_row_tie rfl ⟨rfl, rfl⟩ (by kernel_rfl) rfl zeroStand (by kernel_rfl)
end Go.Proofs.YtnggkkdcddpjlaaGreatDoor
