/- FnOnce: for every delay and every instant the law returns true; its conditions: the listed package-level variables read as the program's text lays them (the card ties that). -/
import Derived.Test.YtmaffdhcmdhjfaaDoorOnce
import Derived.Test.YtmaffdhcmdhjfaaDoorRows
import Derived.Test.YtmaffdhcmdhjfaaDoorTie
import Derived.Test.YtmaffdhcmdhjfaaDoorCards
import Derived.ProofKit
import Derived.LaidMore
import Derived.OpenShut
import Derived.Stop.Joined
import Derived.SevenTiedAt
import Derived.Lib.LaidTab
import Derived.Stop.LaidErr
namespace Go.Proofs.YtmaffdhcmdhjfaaDoor.FnOnce
open Go.ChangeShapes Go.WideShapes Go.ChangeAt Go.RowKit
set_option linter.unusedVariables false

theorem own : ownKnob Tryd.prog.godebug = none := by kernel_rfl

def laid4 : List (String × DataW Unit) := [("math/bits.deBruijn32tab", Rows.laid_math_bits_deBruijn32tab), ("math/bits.deBruijn64tab", Rows.laid_math_bits_deBruijn64tab), ("internal/strconv.uint64pow10", Rows.laid_internal_strconv_uint64pow10), ("loop.example/pub-g03356/pub/quartz.ErrTriggerExpired", Rows.laid_loop_example_pub_g03356_pub_quartz_ErrTriggerExpired)]

/-- The door's own heap meets the condition: closed facts. -/
theorem door_met (os : Os) (args : Array Value) : laidMetH Tryd.prog laid4 ((World.doorLaid Tryd.prog 43 os).forCall (fun _ _ => 0) ⟨#[], args, []⟩).memory :=
  laidMetH_of_parts3 (fuel := 8) (laidMet_of_run' 8 (by kernel_rfl) (by kernel_rfl)) (by kernel_rfl) (by kernel_rfl)

theorem size_of_var {W : World} {cs : Array Value} (h : W.var? Tryd.prog "internal/strconv.uint64pow10" = some cs) : 2 ≤ W.heap.size := by
  unfold World.var? at h
  rw [show Tryd.prog.globalNamed "internal/strconv.uint64pow10" = some 1 by kernel_rfl] at h
  simp only [Option.bind_some] at h
  by_cases hs : 2 ≤ W.heap.size
  · exact hs
  · rw [Array.getElem?_eq_none (by omega)] at h
    cases h

theorem env_of {W : World} (h : laidMetH Tryd.prog laid4 W) : Env W := by
  rw [MakeChecks.laidMetH_plain _ _ _ (by kernel_rfl)] at h
  have ht : Lib.TabIs Tryd.prog W "internal/strconv.uint64pow10" .u64 Lib.pow10Tab :=
    Lib.tabIs_of_head (g := 1) (t := 72) (e := 36) (n := 20) (rest := [("loop.example/pub-g03356/pub/quartz.ErrTriggerExpired", Rows.laid_loop_example_pub_g03356_pub_quartz_ErrTriggerExpired)]) (by kernel_rfl) (by kernel_rfl) Tryd.underlying72 Tryd.underlying36 (by kernel_rfl) (by kernel_rfl) (laidMet.tail (laidMet.tail h))
  exact ⟨ht, size_of_var ht⟩

theorem star : "*" ++ "errors.errorString" = "*errors.errorString" := by decide
theorem gErr : Tryd.prog.globalNamed "loop.example/pub-g03356/pub/quartz.ErrTriggerExpired" = some 0 := by kernel_rfl
theorem tErr : (Tryd.prog.globals[0]?).map (·.type) = some 32 := by kernel_rfl
theorem row81 (u : TypeId) (h : Tryd.prog.typeName? 3 u = some "*errors.errorString") : u = 81 :=
  typeName_ptr_named (nm := "errors.errorString") (by rw [star]; kernel_rfl) (by kernel_rfl) (by decide) u (by rw [star]; exact h)

theorem err_of {W : World} (h : laidMetH Tryd.prog laid4 W) : ∃ a : Addr, W.var? Tryd.prog "loop.example/pub-g03356/pub/quartz.ErrTriggerExpired" = some #[.iface 81 (.pointer (some a))] := by
  rw [MakeChecks.laidMetH_plain _ _ _ (by kernel_rfl)] at h
  obtain ⟨a, s, hv, _⟩ := laid_sentinel (laidMet.tail (laidMet.tail (laidMet.tail h))) gErr tErr Tryd.underlying32 row81 Tryd.underlying81 Tryd.underlying105 rfl rfl Tryd.underlying9 (by kernel_rfl) (by kernel_rfl)
  exact ⟨a, hv⟩

/-- the row's end where the call has left all that was there as it was -/
theorem post_ext {H : Type} {enc : TypeId × Value → H} {f : Func} {s : ChangeSpec} {W W' : World} {args : Array Value} {v : Value} {ds gs : List (DataW H)} {ps pa pv : List MemPlace}
    (hW : DataW.Whole enc Tryd.prog f.params.toList s.vars false W args.toList ds gs ps) (hb : Ext W W')
    (hr : ∀ (b : Nat) (sp : Nat → Bool) (hd : Bool), DataW.TrodAll enc Tryd.prog W' b sp hd f.resultTypes.toList (v.resultList f.resultTypes.size) (s.fn H (ds ++ gs)).results [])
    (ha : ∀ sp : Nat → Bool, (∀ p ∈ ps, sp p.block = true) → DataW.TrodAll enc Tryd.prog W' 0 sp true f.params.toList args.toList (s.fn H (ds ++ gs)).args pa)
    (hv : ∀ sp : Nat → Bool, (∀ p ∈ ps, sp p.block = true) → DataW.TrodVars enc Tryd.prog W' sp s.vars (s.fn H (ds ++ gs)).vars pv)
    (hp : ps = pa ++ pv)
    (ho : ∀ (j : Nat) (t : TypeId) (r : Value), f.resultTypes[j]? = some t → (v.resultList f.resultTypes.size)[j]? = some r → Value.okWide Tryd.prog W' .any 0 t r) :
    s.post enc Tryd.prog f false true false false W args v W' := by
  have hb' : Below W.heap.size W W' := hb
  have old : ∀ p ∈ ps, p.block < W.heap.size := fun p h => hW.lt p h
  have oldB : ∀ p ∈ ps, (fun b => decide (b < W.heap.size)) p.block = true := fun p h => by simpa using old p h
  refine ⟨ds, gs, ps, [], pa, pv, hW, hr _ _ _, ha _ oldB, hv _ oldB, World.keptBut_mono (fun p h => ⟨h, by rw [hp] at h; exact .inr (List.mem_append.1 h)⟩) (hb'.frame (· ∈ ps)), fun h => by cases h⟩

set_option maxRecDepth 100000 in
theorem lifted (os : Os) (started : os.Started) (H : Type) (enc : TypeId × Value → H) :
    ReturnsInHanded {} Tryd.checked os 4 .any (fun w args => (Rows.fnOnceSpec.pre enc Tryd.prog Tryd.f4 [] false w args ∧ laidMetH Tryd.prog laid4 w) ∧ sizedMet enc Tryd.prog Tryd.f4 (OpenSpec.ofChange Rows.fnOnceSpec) false w args)
      (Rows.fnOnceSpec.post enc Tryd.prog Tryd.f4 false true false false) := by
  refine returnsInHanded_of_change_and (C := Tryd.checked) (X := fun w _ => laidMetH Tryd.prog laid4 w) (fun _ _ _ hh h => h.of_heap hh) own started (by kernel_rfl) Tryd.func4
    (ChangeSpec.witness_shaped (enc := enc) (C := Tryd.checked) (os := os) (X := fun w _ => laidMetH Tryd.prog laid4 w) false (World.doorLaid Tryd.prog 43 os) #[.int .i64 0, .int .i64 0] 8 rfl (World.shaped_of_RefB (by kernel_rfl) (by kernel_rfl)) (by kernel_rfl) (by kernel_rfl) (by kernel_rfl) (door_met os _)) ?_
  intro W base args ds gs before hval0 hW _ _ hL _
  have hval : ∀ (j : Nat) t v, Tryd.f4.params[j]? = some t → args[j]? = some v → Value.okWide Tryd.prog W .any base t v := hval0
  have hW' := hW
  obtain ⟨p, q, hA0, hV0, rfl, hfz, hnd⟩ := hW
  have hA : DataW.TrodAll enc Tryd.prog W 0 (fun _ => true) true Tryd.f4.params.toList args.toList ds p := hA0
  have hV : DataW.TrodVars enc Tryd.prog W (fun _ => true) ["loop.example/pub-g03356/pub/quartz.ErrTriggerExpired"] gs q := hV0
  rw [Tryd.params4] at hA hval
  obtain ⟨v0, vs0, d0, ds0, p0, q0, hargs, rfl, rfl, h0, r0⟩ := trodAll_cons hA
  obtain ⟨v1, vs1, d1, ds1, p1, q1, rfl, rfl, rfl, h1, r1⟩ := trodAll_cons r0
  obtain ⟨rfl, rfl, rfl⟩ := trodAll_nil r1
  obtain rfl : args = #[v0, v1] := by cases args; simp_all
  obtain ⟨a0, rfl, rfl, rfl, w0⟩ := open_int Tryd.underlying2 (hval 0 2 v0 rfl rfl) h0
  obtain ⟨a1, rfl, rfl, rfl, w1⟩ := open_int Tryd.underlying2 (hval 1 2 v1 rfl rfl) h1
  obtain ⟨a, hv⟩ := err_of hL
  obtain ⟨rfl, rfl⟩ := hV.unique (vars_read1 enc gErr tErr Tryd.underlying32 hv trivial _)
  have hg : W.cell? ⟨0, 0, none⟩ = some (.iface 81 (.pointer (some a))) := by simpa using World.var?_cell gErr hv 0
  clear hA0 hV0 hval0
  simp only [List.append_nil, List.nil_append] at hW'
  refine (law_once a0 a1 W (env_of hL) a hg).mono fun e W' ⟨he, hb⟩ => ?_
  subst he
  have hE := env_of hL
  have hv' : W'.var? Tryd.prog "loop.example/pub-g03356/pub/quartz.ErrTriggerExpired" = some #[.iface 81 (.pointer (some a))] := var?_below hb gErr (by have := hE.2; omega) hv
  exact ⟨_, rfl, post_ext (pa := []) (pv := [.cell 0 0]) hW' hb (fun _ _ _ => (trodAll_cons_mk (shut_bool Tryd.underlying4 _) trodAll_mk0)) (fun sp _ => (trodAll_cons_mk (shut_int Tryd.underlying2 w0) (trodAll_cons_mk (shut_int Tryd.underlying2 w1) trodAll_mk0))) (fun sp _ => vars_read1 enc gErr tErr Tryd.underlying32 hv' trivial _) rfl
    (ok_one (by kernel_rfl) rfl (okWide_bool_mk Tryd.underlying4 _))⟩

theorem over : Rows.FnOnceSaid :=
  OpenClaim.holds_of_wide 4 Tryd.f4 rfl rfl rfl rfl rfl rfl rfl ⟨rfl, rfl, rfl, rfl, rfl⟩ rfl rfl rfl rfl rfl (by kernel_rfl) Tryd.func4 (by kernel_rfl)
    (of_decide_eq_true (by kernel_rfl)) (by unfold Func.isWrapper; first | (rw [if_pos (by decide +kernel)]; kernel_rfl) | (rw [if_neg (by decide +kernel)]; exact ⟨rfl, rfl⟩))
    (fun os started H enc _ => lifted os started H enc)

/-- THE TIED CARD. -/
theorem card : Rows.FnOnceCardSaid :=
  Claim7.holds_tied_plain_at .later [] [.data, .data, .data, .sentinel] true (true, "cb269c36569cd7ed1ef1e801b058f1a7d92223495fef4044bdd1a4e314a4275b") true
    over (fun _ h => by cases h) (by kernel_rfl) (fun _ h => by cases h) fnOnce_row_tie rfl ⟨rfl, rfl⟩ (by kernel_rfl) rfl
    (fun f fn hf hfn => by
      obtain rfl : f = 4 := Option.some.inj ((show Tryd.prog.funcNamed "loop.example/pub-g03356/laws.FnOnce" = some 4 by kernel_rfl).symm.trans hf) |>.symm
      obtain rfl : fn = Tryd.f4 := (Option.some.inj (Tryd.func4.symm.trans hfn)).symm
      exact ⟨by kernel_rfl, fun j t ht => by
        rw [Tryd.params4] at ht
        have hm : t ∈ [2, 2] := by simpa using Array.mem_of_getElem? ht
        have hall : ([2, 2].all fun u => !Tryd.prog.wantsStandIn u) = true := by kernel_rfl
        exact (show Tryd.prog.wantsStandIn t = false by simpa using List.all_eq_true.1 hall t hm)⟩)
    (by kernel_rfl)
#print axioms card
end Go.Proofs.YtmaffdhcmdhjfaaDoor.FnOnce
