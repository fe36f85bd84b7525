/- laws.FnTrimmed returns true. FnTrimmed: for every input the law returns true; its conditions: the listed package-level variables read as the program's text lays them (the card ties that). -/
import Derived.Test.YtmaffdhcmdhjfaaGreatDoorNY
import Derived.Deep.RegionHeld3
import Derived.Test.YtmaffdhcmdhjfaaGreatDoorNK
set_option linter.unusedSimpArgs false
set_option linter.unusedVariables false
namespace Go.Proofs.YtmaffdhcmdhjfaaGreatDoor
open Go.RowKit Go.Lib
attribute [local go_sem ↓] execOp_loadCron
set_option maxHeartbeats 6400000 in
set_option maxRecDepth 1000000 in
theorem law_trimmed (c : CronV) (hO : CronIn c) (ga : Option Addr) (cap : Nat) (gs : List Int) (hgl : gs.length ≤ 9223372036854775807) (hgb : ∀ z ∈ gs, Joins.In64 z) (w : World) (hI : CronItems w c) (hN : NumsAt w ga gs) (hE : Env w) :
 Calls Tryz.prog 4 #[.agg c.cells, .slice ga gs.length cap] w fun e w' => e = .returned (.bool true) ∧ Ext w w' := by
 have HC : Hid (CronAt (w.alloc (.cells c.cells 27)) w.heap.size c) := cron_alloc w c
 have HX : Hid (Ext w (w.alloc (.cells c.cells 27))) := Ext.alloc _ _
 have hld := HC.out.whole
 have HI := Lib.hid hI
 have HO := Lib.hid hO
 have HNN := Lib.hid hN
 have HGB := Lib.hid hgb
 obtain ⟨n, hn⟩ : ∃ n, n = gs.length := ⟨_, rfl⟩
 have HNL := Lib.hid hn
 rw [← hn] at hgl ⊢
 clear hI hO hN hgb hn
 go_enter Tryz.func4, Tryz.ntmps4
 go_wp2_with fail
 go_at_call 12
 refine (fits_any c _).mono ?_
 rintro e w1 ⟨rfl, x1⟩
 have C1 := Lib.hid (HC.out.ext x1)
 have X1 := Lib.hid (HX.out.trans x1)
 clear x1 hld
 by_cases hbig : 2147483647 < n
 ·go_wp2_with fail
  go_ret
  exact ⟨rfl, X1.out⟩
 ·have hld := C1.out.whole
  go_wp2_with fail
  go_at_call 13
  refine (right_cron c HO.out _ (HI.out.ext X1.out) (hE.ext X1.out)).mono ?_
  rintro e w2 ⟨rfl, x2⟩
  have C2 := Lib.hid (C1.out.ext x2)
  have X2 := Lib.hid (X1.out.trans x2)
  clear x2 hld
  rcases hR : c.rightB
  ·clear hR
   go_wp2_with fail
   go_ret
   exact ⟨rfl, X2.out⟩
  ·have HR := Lib.hid (right_is hR)
   clear hR
   by_cases h20 : 20 < n
   ·go_wp2_with fail
    go_ret
    exact ⟨rfl, X2.out⟩
   ·go_wp2_with fail
    go_loopw [5] (fun i wr => ∃ j : Nat, j ≤ n ∧ i = .int .i64 j ∧ Hid (∀ z ∈ gs.take j, 0 ≤ z) ∧ wr = w2)
     (fun i _ => n - (RowKit.intOf i).toNat)
    case atStart => exact ⟨0, Nat.zero_le _, rfl, by show ∀ z ∈ _, _; simp, rfl⟩
    case round =>
     obtain ⟨j, hj, rfl, HZ, rfl⟩ := hrel
     by_cases hlt : j < n
     ·obtain ⟨z, hz⟩ : ∃ z, gs[j]? = some z := ⟨_, List.getElem?_eq_getElem (by rw [← HNL.out]; exact hlt)⟩
      obtain ⟨gb, go, rfl, hgc⟩ := HNN.out (by intro e; rw [e] at hz; simp at hz)
      have cz := X2.out.cell (hgc j z hz)
      have HZ2 : Hid (0 ≤ z → ∀ y ∈ gs.take (j + 1), 0 ≤ y) := by
       intro h0 y hy
       obtain ⟨hj2, hz2⟩ := List.getElem?_eq_some_iff.mp hz
       rw [List.take_succ_eq_append_getElem hj2] at hy
       simp only [List.mem_append, List.mem_singleton] at hy
       rcases hy with hy | rfl
       ·exact HZ.out y hy
       ·rw [hz2]; exact h0
      clear hgc hz
      by_cases hz0 : z < 0
      ·go_wp2_with fail
       go_ret
       exact ⟨rfl, X2.out⟩
      ·have hz1 : 0 ≤ z := by omega
       have HZ3 := Lib.hid (HZ2.out hz1)
       go_wp2_with fail
       go_roundw
       case rel => exact ⟨j + 1, by omega, by go_num, HZ3.out, by first | rfl | trivial⟩
       case measure => simp [RowKit.intOf]; omega
     ·have HG : Hid (GapsIn gs) := by
       have e : gs.take j = gs := List.take_of_length_le (by rw [← HNL.out]; omega)
       have hz := HZ.out
       rw [e] at hz
       exact ⟨by rw [← HNL.out]; omega, fun z hz' => ⟨hz z hz', (HGB.out z hz').2⟩⟩
      have HSP : Hid (∀ W, Ext w W → Calls Tryz.prog 20 #[.agg c.cells, .slice ga n cap] W fun e w' => e = .returned (.string (mk (spacedL gs c.text))) ∧ Ext W w') := fun W hW => by
       rw [HNL.out]
       exact spaced_cron c (cron_ok HO.out HR.out.all) ga cap gs HG.out W (HI.out.ext hW) (HNN.out.ext hW) (hE.ext hW) HR.out.len
      have hld := C2.out.whole
      clear HZ
      go_wp2_with fail
      go_at_call 20
      refine (HSP.out _ X2.out).mono ?_
      rintro e w3 ⟨rfl, x3⟩
      have C3 := Lib.hid (C2.out.ext x3)
      have X3 := Lib.hid (X2.out.trans x3)
      clear x3 hld
      obtain ⟨tx, htx⟩ : ∃ tx, tx = mk (spacedL gs c.text) := ⟨_, rfl⟩
      have hszb : tx.size ≤ 1000 := by
       have h1 := spaceGo_bd gs c.text
       have h2 := gapL_len gs (spaceGo gs c.text).2
       have h3 := HR.out.len
       rw [htx, size_mk]
       unfold spacedL
       rw [List.length_append]
       omega
      have HTX := Lib.hid htx
      rw [← htx]
      clear htx
      by_cases h120 : 120 < tx.size
      ·go_wp2_with fail
       go_ret
       exact ⟨rfl, X3.out⟩
      ·have hbt : bytes tx = spacedL gs c.text := by rw [HTX.out, bytes_mk]
       obtain ⟨fs, hf1, hf2, hf3, htr, hf4, hf5, hf6, hf7⟩ := spaced_fields HR.out gs (by rw [← hbt, bytes_length]; omega)
       have HF : Hid (∀ W, Env W → Calls Tryz.prog 15 #[.string tx] W fun e W' => (∃ v, e = .returned (.tuple #[v, .int .i64 (c.p 3).dayN, .int .i64 (c.p 5).weekN, .bool true]) ∧ IntRows W' W.heap.size v (fs.map (·.1))) ∧ Ext W W') := fun W hW => by
        refine (impl_fields tx W (by omega) hW).mono ?_
        rw [hbt, hf1]
        rintro e W' ⟨⟨fs', v, a, b, he, rfl, h3, h5, hR⟩ | ⟨he, _⟩, x⟩
        ·injection he with he
         subst he
         rw [hf5] at h3
         rw [hf6] at h5
         injection h3 with h3
         injection h5 with h5
         subst h3 h5
         exact ⟨⟨v, rfl, hR⟩, x⟩
        ·cases he
       have HV : Hid (∀ W, Env W → Calls Tryz.prog 17 #[.string tx] W fun e W' => e = .returned (.bool true) ∧ Ext W W') := fun W hW => by
        refine (impl_valid tx W (by omega) hW).mono ?_
        rw [hbt, hf2, hf3]
        rintro e W' ⟨rfl, x⟩
        exact ⟨rfl, x⟩
       obtain ⟨ct, hct⟩ : ∃ ct, ct = mk c.text := ⟨_, rfl⟩
       have HTR : Hid (∀ W, Calls Tryz.prog 21 #[.string tx] W fun e W' => e = .returned (.string ct) ∧ Ext W W') := fun W => by
        refine (impl_trimmed tx W (by omega) (by rw [hbt]; exact hf3)).mono ?_
        rw [hbt, htr, ← hct]
        rintro e W' ⟨rfl, x⟩
        exact ⟨rfl, x⟩
       have HTE : Hid (∀ W, Ext w W → Calls Tryz.prog 14 #[.agg c.cells] W fun e W' => e = .returned (.string ct) ∧ Ext W W') := fun W hW => by
        rw [hct]
        exact text_cron c (cron_ok HO.out HR.out.all) W (HI.out.ext hW) (hE.ext hW)
       have HSAME : Hid (∀ i, i < 7 → (c.p i).k < 8 → (fs.map (·.1))[i]? = (c.nums 7)[i]?) := by
        intro i hi hk
        have h1 := hf7 i hi hk
        rw [List.getElem?_map, h1]
        unfold CronV.nums
        rw [List.getElem?_map, List.getElem?_range hi]
        rfl
       have H7 : Hid ((fs.map (·.1)).length = 7) := by show _ = _; simpa using hf4
       have hds := special_cron c (fun h9 => by
        have := right_case (all_right HR.out.all 3 (by decide))
        cases this with
        | common h _ _ => omega
        | last h _ => omega
        | lastWork h _ => omega
        | before _ _ a b => exact ⟨a, b⟩
        | closest h _ => omega
        | lastOf h _ => omega
        | nth h _ => omega)
       have HDS := Lib.hid hds
       obtain ⟨dn, hdn⟩ : ∃ dn, dn = (c.p 3).dayN := ⟨_, rfl⟩
       obtain ⟨wn, hwn⟩ : ∃ wn, wn = (c.p 5).weekN := ⟨_, rfl⟩
       rw [← hdn, ← hwn] at HF HDS
       clear hbt hf1 hf2 hf3 hf4 hf5 hf6 hf7 htr hds hdn hwn hct
       have hcs : (ct.toList == ct.toList) = true := by simp
       go_wp2_with fail
       go_at_call 15
       refine (HF.out _ (hE.ext X3.out)).mono ?_
       rintro e w4 ⟨⟨v4, rfl, hR4⟩, x4⟩
       have C4 := Lib.hid (C3.out.ext x4)
       have X4 := Lib.hid (X3.out.trans x4)
       obtain ⟨a4, c4, h4⟩ := intRows_len hR4
       rw [H7.out] at h4
       subst h4
       have HR4 := Lib.hid hR4
       have hld := C4.out.whole
       clear x4 hR4
       go_wp2_with fail
       go_at_call 16
       refine (HDS.out _).mono ?_
       rintro e w5 ⟨rfl, x5⟩
       have C5 := Lib.hid (C4.out.ext x5)
       have X5 := Lib.hid (X4.out.trans x5)
       have HR5 := Lib.hid (HR4.out.ext x5)
       clear x5 hld
       go_wp2_with fail
       have hS0 : ((loadCron (.pointer (some ⟨w.heap.size, 0, none⟩))).run Tryz.prog w5.drew = .ok (.value (.agg c.cells)) w5.drew ∧ Ext w5 w5.drew) := ⟨(C5.out.ext (Ext.drew _)).whole, Ext.drew _⟩
       have HTRs : Hid (∀ W, ((loadCron (.pointer (some ⟨w.heap.size, 0, none⟩))).run Tryz.prog W = .ok (.value (.agg c.cells)) W ∧ Ext w5 W) → Calls Tryz.prog 21 #[.string tx] W fun e W' => e = .returned (.string ct) ∧ ((loadCron (.pointer (some ⟨w.heap.size, 0, none⟩))).run Tryz.prog W' = .ok (.value (.agg c.cells)) W' ∧ Ext w5 W')) := by
        intro W h
        refine (HTR.out W).mono ?_
        rintro e W' ⟨rfl, x⟩
        exact ⟨rfl, (C5.out.ext (h.2.trans x)).whole, h.2.trans x⟩
       have HTEs : Hid (∀ W, ((loadCron (.pointer (some ⟨w.heap.size, 0, none⟩))).run Tryz.prog W = .ok (.value (.agg c.cells)) W ∧ Ext w5 W) → Calls Tryz.prog 14 #[.agg c.cells] W fun e W' => e = .returned (.string ct) ∧ ((loadCron (.pointer (some ⟨w.heap.size, 0, none⟩))).run Tryz.prog W' = .ok (.value (.agg c.cells)) W' ∧ Ext w5 W')) := by
        intro W h
        refine (HTE.out W (X5.out.trans h.2)).mono ?_
        rintro e W' ⟨rfl, x⟩
        exact ⟨rfl, (C5.out.ext (h.2.trans x)).whole, h.2.trans x⟩
       have HVs : Hid (∀ W, ((loadCron (.pointer (some ⟨w.heap.size, 0, none⟩))).run Tryz.prog W = .ok (.value (.agg c.cells)) W ∧ Ext w5 W) → Calls Tryz.prog 17 #[.string tx] W fun e W' => e = .returned (.bool true) ∧ ((loadCron (.pointer (some ⟨w.heap.size, 0, none⟩))).run Tryz.prog W' = .ok (.value (.agg c.cells)) W' ∧ Ext w5 W')) := by
        intro W h
        refine (HV.out W (hE.ext (X5.out.trans h.2))).mono ?_
        rintro e W' ⟨rfl, x⟩
        exact ⟨rfl, (C5.out.ext (h.2.trans x)).whole, h.2.trans x⟩
       have HNs : Hid (∀ W, ((loadCron (.pointer (some ⟨w.heap.size, 0, none⟩))).run Tryz.prog W = .ok (.value (.agg c.cells)) W ∧ Ext w5 W) → Calls Tryz.prog 19 #[.agg c.cells] W fun e W' => ∃ v, e = .returned v ∧ IntRows W' 0 v (c.nums 7) ∧ ((loadCron (.pointer (some ⟨w.heap.size, 0, none⟩))).run Tryz.prog W' = .ok (.value (.agg c.cells)) W' ∧ Ext w5 W')) := by
        intro W h
        refine (numbers_cron c ⟨fun j hj => all_right HR.out.all j hj⟩ W (HI.out.ext (X5.out.trans h.2))).mono ?_
        rintro e W' ⟨v, rfl, hr, x⟩
        exact ⟨v, rfl, hr.mono (Nat.zero_le _), (C5.out.ext (h.2.trans x)).whole, h.2.trans x⟩
       have HSs : Hid (∀ W v, IntRows W 0 v (c.nums 7) → ((loadCron (.pointer (some ⟨w.heap.size, 0, none⟩))).run Tryz.prog W = .ok (.value (.agg c.cells)) W ∧ Ext w5 W) → Calls Tryz.prog 18 #[.agg c.cells, .slice a4 7 c4, v] W fun e W' => e = .returned (.bool true) ∧ ((loadCron (.pointer (some ⟨w.heap.size, 0, none⟩))).run Tryz.prog W' = .ok (.value (.agg c.cells)) W' ∧ Ext w5 W')) := by
        intro W v hv h
        refine (same_true c _ v _ _ (fs.map (·.1)) (c.nums 7) H7.out (by simp [CronV.nums]) HSAME.out ?_ W (HR5.out.ext h.2) hv).mono ?_
        ·intro l hl
         simp only [CronV.nums, List.mem_map, List.mem_range] at hl
         obtain ⟨i, hi, rfl⟩ := hl
         exact numsAt_len HR.out.all i hi
        ·rintro e W' ⟨rfl, x⟩
         exact ⟨rfl, (C5.out.ext (h.2.trans x)).whole, h.2.trans x⟩
       go_region_held3 (fun W => ((loadCron (.pointer (some ⟨w.heap.size, 0, none⟩))).run Tryz.prog W = .ok (.value (.agg c.cells)) W ∧ Ext w5 W)) (first | assumption)
        (first
        | (go_at_call 21
           refine (HTRs.out _ (by assumption)).mono ?_
           rintro e w6 ⟨rfl, hS1⟩)
        | (go_at_call 14
           refine (HTEs.out _ (by assumption)).mono ?_
           rintro e w6 ⟨rfl, hS1⟩)
        | (go_at_call 17
           refine (HVs.out _ (by assumption)).mono ?_
           rintro e w6 ⟨rfl, hS1⟩)
        | (go_at_call 19
           refine (HNs.out _ (by assumption)).mono ?_
           rintro e w6 ⟨v6, rfl, hR6, hS1⟩)
        | (go_at_call 18
           refine (HSs.out _ _ (by assumption) (by assumption)).mono ?_
           rintro e w6 ⟨rfl, hS1⟩))
       all_goals
        have HSE := Lib.hid hS1.2
        clear hS1
        go_wp2_with fail
        go_ret
        exact ⟨rfl, X5.out.trans HSE.out⟩
end Go.Proofs.YtmaffdhcmdhjfaaGreatDoor
namespace Go.Proofs.YtmaffdhcmdhjfaaGreatDoor.FnTrimmed
open Go.ChangeShapes Go.WideShapes Go.ChangeAt Go.RowKit
set_option linter.unusedVariables false
theorem door_met (os : Os) (args : Array Value) : laidMetH Tryz.prog laid6 ((World.doorLaid Tryz.prog 119 os).forCall (fun _ _ => 0) ⟨#[], args, []⟩).memory :=
 laidMetH_of_parts3 (fuel := 8) (laidMet_of_run' 8 (by kernel_rfl) (by kernel_rfl)) (by kernel_rfl) (by kernel_rfl)
set_option maxRecDepth 1000000 in
theorem lifted (os : Os) (started : os.Started) (H : Type) (enc : TypeId × Value → H) :
 ReturnsInHanded {} Tryz.checked os 4 .any (fun w args => (Rows.fnTrimmedSpec.pre enc Tryz.prog Tryz.f4 [] false w args ∧ laidMetH Tryz.prog laid6 w) ∧ sizedMet enc Tryz.prog Tryz.f4 (OpenSpec.ofChange Rows.fnTrimmedSpec) false w args)
  (Rows.fnTrimmedSpec.post enc Tryz.prog Tryz.f4 false true false false) := by
 refine returnsInHanded_of_change_and (C := Tryz.checked) (X := fun w _ => laidMetH Tryz.prog laid6 w) (fun _ _ _ hh h => h.of_heap hh) own started (by kernel_rfl) Tryz.func4
  (ChangeSpec.witness_shaped (enc := enc) (C := Tryz.checked) (os := os) (X := fun w _ => laidMetH Tryz.prog laid6 w) false (World.doorLaid Tryz.prog 119 os) #[.agg #[.int .i64 0, .int .i64 0, .int .i64 0, .int .i64 0, .int .i64 0, .slice none 0 0, .int .i64 0, .int .i64 0, .int .i64 0, .int .i64 0, .int .i64 0, .slice none 0 0, .int .i64 0, .int .i64 0, .int .i64 0, .int .i64 0, .int .i64 0, .slice none 0 0, .int .i64 0, .int .i64 0, .int .i64 0, .int .i64 0, .int .i64 0, .slice none 0 0, .int .i64 0, .int .i64 0, .int .i64 0, .int .i64 0, .int .i64 0, .slice none 0 0, .int .i64 0, .int .i64 0, .int .i64 0, .int .i64 0, .int .i64 0, .slice none 0 0, .int .i64 0, .int .i64 0, .int .i64 0, .int .i64 0, .int .i64 0, .slice none 0 0, .bool false], .slice none 0 0] 16 rfl (World.shaped_of_RefB (by kernel_rfl) (by kernel_rfl)) (by kernel_rfl) (by kernel_rfl) (by kernel_rfl) (door_met os _)) ?_
 intro W base args ds gs0 before hval0 hW _ _ hL _
 have hval : ∀ (j : Nat) t v, Tryz.f4.params[j]? = some t → args[j]? = some v → Value.okWide Tryz.prog W .any base t v := hval0
 have hW' := hW
 obtain ⟨p, q, hA0, hV0, rfl, hfz, hnd⟩ := hW
 have hA : DataW.TrodAll enc Tryz.prog W 0 (fun _ => true) true Tryz.f4.params.toList args.toList ds p := hA0
 rw [Tryz.params4] at hA hval
 obtain ⟨v0, vs0, d0, ds0, p0, q0, hargs, rfl, rfl, h0, r0⟩ := trodAll_cons hA
 obtain ⟨v1, vs1, d1, ds1, p1, q1, rfl, rfl, rfl, h1, r1⟩ := trodAll_cons r0
 obtain ⟨rfl, rfl, rfl⟩ := trodAll_nil r1
 obtain rfl : args = #[v0, v1] := by cases args; simp_all
 obtain ⟨c, rfl, hcin, hcit⟩ := open_cron (hval 0 27 v0 rfl rfl) h0
 obtain ⟨ga, cap, gs, rfl, hgl, hgb, hgn⟩ := open_nums (hval 1 38 v1 rfl rfl) h1
 have hg : gs0.length = 1 := vars_len _ _ _ hV0
 have hE := env_of6 hL
 refine (law_trimmed c hcin ga cap gs hgl hgb W hcit hgn hE).mono fun e W' ⟨he, hb⟩ => ?_
 subst he
 refine ⟨_, rfl, law_post hW' hb (by kernel_rfl) (by kernel_rfl) (by kernel_rfl) ?_⟩
 match gs0, hg with
 | [g1], _ => rfl
theorem over : Rows.FnTrimmedSaid :=
 OpenClaim.holds_of_wide 4 Tryz.f4 rfl rfl rfl rfl rfl rfl rfl ⟨rfl, rfl, rfl, rfl, rfl⟩ rfl rfl rfl rfl rfl (by kernel_rfl) Tryz.func4 (by kernel_rfl)
  (of_decide_eq_true (by kernel_rfl)) (by unfold Func.isWrapper; first | (rw [if_pos (by decide +kernel)]; kernel_rfl) | (rw [if_neg (by decide +kernel)]; exact ⟨rfl, rfl⟩))
  (fun os started H enc _ => lifted os started H enc)
theorem card : Rows.FnTrimmedCardSaid :=
 Claim7.holds_tied_plain_at .later [] [.data, .data, .data, .sentinel, .sentinel, .sentinel] true (true, "ab0e5451898ba7af3fddb4ece5cff62e140668e4d854a8b8f5ee08cd0b170de1") true
  over (fun _ h => by cases h) (by kernel_rfl) (fun _ h => by cases h) fnTrimmed_row_tie rfl ⟨rfl, rfl⟩ (by kernel_rfl) rfl
  (fun f fn hf hfn => by
    obtain rfl : f = 4 := Option.some.inj ((show Tryz.prog.funcNamed "loop.example/pub-g03356/laws.FnTrimmed" = some 4 by kernel_rfl).symm.trans hf) |>.symm
    obtain rfl : fn = Tryz.f4 := (Option.some.inj (Tryz.func4.symm.trans hfn)).symm
    exact ⟨by kernel_rfl, fun j t ht => by
     rw [Tryz.params4] at ht
     have hm : t ∈ [27, 38] := by simpa using Array.mem_of_getElem? ht
     have hall : ([27, 38].all fun u => !Tryz.prog.wantsStandIn u) = true := by kernel_rfl
     exact (show Tryz.prog.wantsStandIn t = false by simpa using List.all_eq_true.1 hall t hm)⟩)
  (by kernel_rfl)
#print axioms card
end Go.Proofs.YtmaffdhcmdhjfaaGreatDoor.FnTrimmed
