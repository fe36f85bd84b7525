/- FnNext: for every input the law returns true; its conditions: the listed package-level variables read as the program's text lays them (the card ties that). -/
import Derived.Test.YtmaffdhcmdhjfaaGreatDoorNK
import Derived.Test.YtmaffdhcmdhjfaaGreatDoorNX
set_option linter.unusedSimpArgs false
set_option linter.unusedVariables false
namespace Go.Proofs.YtmaffdhcmdhjfaaGreatDoor.FnNext
open Go.ChangeShapes Go.WideShapes Go.ChangeAt Go.RowKit
set_option linter.unusedVariables false
theorem door_met (os : Os) (args : Array Value) : laidMetH Tryz.prog laid8 ((World.doorLaid Tryz.prog 119 os).forCall (fun _ _ => 0) ⟨#[], args, []⟩).memory :=
 laidMetH_of_parts3 (fuel := 8) (laidMet_of_run' 8 (by kernel_rfl) (by kernel_rfl)) (by kernel_rfl) (by kernel_rfl)
set_option maxRecDepth 1000000 in
theorem lifted (os : Os) (started : os.Started) (H : Type) (enc : TypeId × Value → H) :
 ReturnsInHanded {} Tryz.checked os 6 .any (fun w args => (Rows.fnNextSpec.pre enc Tryz.prog Tryz.f6 [] false w args ∧ laidMetH Tryz.prog laid8 w) ∧ sizedMet enc Tryz.prog Tryz.f6 (OpenSpec.ofChange Rows.fnNextSpec) false w args)
  (Rows.fnNextSpec.post enc Tryz.prog Tryz.f6 false true false false) := by
 refine returnsInHanded_of_change_and (C := Tryz.checked) (X := fun w _ => laidMetH Tryz.prog laid8 w) (fun _ _ _ hh h => h.of_heap hh) own started (by kernel_rfl) Tryz.func6
  (ChangeSpec.witness_shaped (enc := enc) (C := Tryz.checked) (os := os) (X := fun w _ => laidMetH Tryz.prog laid8 w) false (World.doorLaid Tryz.prog 119 os) #[.agg #[.int .i64 0, .int .i64 0, .int .i64 0, .int .i64 0, .int .i64 0, .slice none 0 0, .int .i64 0, .int .i64 0, .int .i64 0, .int .i64 0, .int .i64 0, .slice none 0 0, .int .i64 0, .int .i64 0, .int .i64 0, .int .i64 0, .int .i64 0, .slice none 0 0, .int .i64 0, .int .i64 0, .int .i64 0, .int .i64 0, .int .i64 0, .slice none 0 0, .int .i64 0, .int .i64 0, .int .i64 0, .int .i64 0, .int .i64 0, .slice none 0 0, .int .i64 0, .int .i64 0, .int .i64 0, .int .i64 0, .int .i64 0, .slice none 0 0, .int .i64 0, .int .i64 0, .int .i64 0, .int .i64 0, .int .i64 0, .slice none 0 0, .bool false], .int .i64 0, .int .i64 0] 16 rfl (World.shaped_of_RefB (by kernel_rfl) (by kernel_rfl)) (by kernel_rfl) (by kernel_rfl) (by kernel_rfl) (door_met os _)) ?_
 intro W base args ds gs0 before hval0 hW _ _ hL _
 have hval : ∀ (j : Nat) t v, Tryz.f6.params[j]? = some t → args[j]? = some v → Value.okWide Tryz.prog W .any base t v := hval0
 have hW' := hW
 obtain ⟨p, q, hA0, hV0, rfl, hfz, hnd⟩ := hW
 have hA : DataW.TrodAll enc Tryz.prog W 0 (fun _ => true) true Tryz.f6.params.toList args.toList ds p := hA0
 rw [Tryz.params6] at hA hval
 obtain ⟨v0, vs0, d0, ds0, p0, q0, hargs, rfl, rfl, h0, r0⟩ := trodAll_cons hA
 obtain ⟨v1, vs1, d1, ds1, p1, q1, rfl, rfl, rfl, h1, r1⟩ := trodAll_cons r0
 obtain ⟨v2, vs2, d2, ds2, p2, q2, rfl, rfl, rfl, h2, r2⟩ := trodAll_cons r1
 obtain ⟨rfl, rfl, rfl⟩ := trodAll_nil r2
 obtain rfl : args = #[v0, v1, v2] := by cases args; simp_all
 obtain ⟨c, rfl, hcin, hcit⟩ := open_cron (hval 0 27 v0 rfl rfl) h0
 obtain ⟨n, rfl, rfl, rfl, w1⟩ := open_int Tryz.underlying3 (hval 1 3 v1 rfl rfl) h1
 obtain ⟨prev, rfl, rfl, rfl, w2⟩ := open_int Tryz.underlying2 (hval 2 2 v2 rfl rfl) h2
 have hg : gs0.length = 3 := vars_len _ _ _ hV0
 have hE : EnvN W := ⟨(env_of8 hL).1, (env_of8 hL).2⟩
 refine (law_next c hcin n prev W hcit hE).mono fun e W' ⟨he, hb⟩ => ?_
 subst he
 refine ⟨_, rfl, law_post hW' hb (by kernel_rfl) (by kernel_rfl) (by kernel_rfl) ?_⟩
 match gs0, hg with
 | [g1, g2, g3], _ => rfl
theorem over : Rows.FnNextSaid :=
 OpenClaim.holds_of_wide 6 Tryz.f6 rfl rfl rfl rfl rfl rfl rfl ⟨rfl, rfl, rfl, rfl, rfl⟩ rfl rfl rfl rfl rfl (by kernel_rfl) Tryz.func6 (by kernel_rfl)
  (of_decide_eq_true (by kernel_rfl)) (by unfold Func.isWrapper; first | (rw [if_pos (by decide +kernel)]; kernel_rfl) | (rw [if_neg (by decide +kernel)]; exact ⟨rfl, rfl⟩))
  (fun os started H enc _ => lifted os started H enc)
theorem card : Rows.FnNextCardSaid :=
 Claim7.holds_tied_plain_at .later [] [.data, .data, .data, .sentinel, .sentinel, .sentinel, .sentinel, .sentinel] true (true, "ab0e5451898ba7af3fddb4ece5cff62e140668e4d854a8b8f5ee08cd0b170de1") true
  over (fun _ h => by cases h) (by kernel_rfl) (fun _ h => by cases h) fnNext_row_tie rfl ⟨rfl, rfl⟩ (by kernel_rfl) rfl
  (fun f fn hf hfn => by
    obtain rfl : f = 6 := Option.some.inj ((show Tryz.prog.funcNamed "loop.example/pub-g03356/laws.FnNext" = some 6 by kernel_rfl).symm.trans hf) |>.symm
    obtain rfl : fn = Tryz.f6 := (Option.some.inj (Tryz.func6.symm.trans hfn)).symm
    exact ⟨by kernel_rfl, fun j t ht => by
     rw [Tryz.params6] at ht
     have hm : t ∈ [27, 3, 2] := by simpa using Array.mem_of_getElem? ht
     have hall : ([27, 3, 2].all fun u => !Tryz.prog.wantsStandIn u) = true := by kernel_rfl
     exact (show Tryz.prog.wantsStandIn t = false by simpa using List.all_eq_true.1 hall t hm)⟩)
  (by kernel_rfl)
#print axioms card
end Go.Proofs.YtmaffdhcmdhjfaaGreatDoor.FnNext
