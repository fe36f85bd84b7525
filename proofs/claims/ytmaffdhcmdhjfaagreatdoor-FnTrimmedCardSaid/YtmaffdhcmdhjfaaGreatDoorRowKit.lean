/- What the rows of this seat share: what the laid variables hold; the row's end where the call has left all that was there as it was. -/
import Derived.Test.YtmaffdhcmdhjfaaGreatDoorOpen
import Derived.Test.YtmaffdhcmdhjfaaGreatDoorRows
import Derived.Test.YtmaffdhcmdhjfaaGreatDoorTie
import Derived.Test.YtmaffdhcmdhjfaaGreatDoorCards
import Derived.LaidMore
import Derived.OpenVars
import Derived.Stop.Joined
import Derived.SevenTiedAt
import Derived.Lib.LaidTab
import Derived.Stop.LaidErr
namespace Go.Proofs.YtmaffdhcmdhjfaaGreatDoor
open Go.ChangeShapes Go.WideShapes Go.ChangeAt Go.RowKit
set_option linter.unusedVariables false

theorem own : ownKnob Tryz.prog.godebug = none := by kernel_rfl

theorem star : "*" ++ "errors.errorString" = "*errors.errorString" := by decide
theorem row217 (u : TypeId) (h : Tryz.prog.typeName? 3 u = some "*errors.errorString") : u = 217 :=
  typeName_ptr_named (nm := "errors.errorString") (by rw [star]; kernel_rfl) (by kernel_rfl) (by decide) u (by rw [star]; exact h)

/-- a sentinel's variable -/
theorem sent_of {W : World} {n : String} {text : List UInt8} {r : List (String × DataW Unit)} {g : Nat} (h : laidMet Tryz.prog ((n, .iface "*errors.errorString" (.ptr (.agg [.lit (.string text)]))) :: r) W)
    (hg : Tryz.prog.globalNamed n = some g) (ht : (Tryz.prog.globals[g]?).map (·.type) = some 64) : ∃ t p, W.cell? ⟨g, 0, none⟩ = some (.iface t p) := by
  obtain ⟨a, s, hv, _⟩ := laid_sentinel h hg ht Tryz.underlying64 row217 Tryz.underlying217 Tryz.underlying219 rfl rfl Tryz.underlying9 (by kernel_rfl) (by kernel_rfl)
  exact ⟨_, _, by simpa using World.var?_cell hg hv 0⟩

theorem gSyn : Tryz.prog.globalNamed "strconv.ErrSyntax" = some 6 := by kernel_rfl
theorem gRng : Tryz.prog.globalNamed "strconv.ErrRange" = some 7 := by kernel_rfl
theorem gCron : Tryz.prog.globalNamed "loop.example/pub-g03356/pub/quartz.ErrCronParse" = some 1 := by kernel_rfl
theorem gIll : Tryz.prog.globalNamed "loop.example/pub-g03356/pub/quartz.ErrIllegalArgument" = some 2 := by kernel_rfl
theorem gExp : Tryz.prog.globalNamed "loop.example/pub-g03356/pub/quartz.ErrTriggerExpired" = some 0 := by kernel_rfl
theorem tGlob (g : Nat) (h : g = 0 ∨ g = 1 ∨ g = 2 ∨ g = 6 ∨ g = 7) : (Tryz.prog.globals[g]?).map (·.type) = some 64 := by
  rcases h with rfl | rfl | rfl | rfl | rfl <;> kernel_rfl

theorem size_of_cell {W : World} {g : Nat} {v : Value} (h : W.cell? ⟨g, 0, none⟩ = some v) : g + 1 ≤ W.heap.size := by
  rcases Nat.lt_or_ge g W.heap.size with hl | hl
  · exact hl
  · simp [World.cell?, Array.getElem?_eq_none hl] at h

def laid6 : List (String × DataW Unit) := [("math/bits.deBruijn32tab", Rows.laid_math_bits_deBruijn32tab), ("math/bits.deBruijn64tab", Rows.laid_math_bits_deBruijn64tab), ("internal/strconv.uint64pow10", Rows.laid_internal_strconv_uint64pow10), ("strconv.ErrRange", Rows.laid_strconv_ErrRange), ("strconv.ErrSyntax", Rows.laid_strconv_ErrSyntax), ("loop.example/pub-g03356/pub/quartz.ErrCronParse", Rows.laid_loop_example_pub_g03356_pub_quartz_ErrCronParse)]

theorem env_of6 {W : World} (h : laidMetH Tryz.prog laid6 W) : Env W := by
  rw [MakeChecks.laidMetH_plain _ _ _ (by kernel_rfl)] at h
  have ht : Lib.TabIs Tryz.prog W "internal/strconv.uint64pow10" .u64 Lib.pow10Tab :=
    Lib.tabIs_of_head (g := 3) (t := 189) (e := 143) (n := 20) (rest := [("strconv.ErrRange", Rows.laid_strconv_ErrRange), ("strconv.ErrSyntax", Rows.laid_strconv_ErrSyntax), ("loop.example/pub-g03356/pub/quartz.ErrCronParse", Rows.laid_loop_example_pub_g03356_pub_quartz_ErrCronParse)]) (by kernel_rfl) (by kernel_rfl) Tryz.underlying189 Tryz.underlying143 (by kernel_rfl) (by kernel_rfl) (laidMet.tail (laidMet.tail h))
  have h3 := laidMet.tail (laidMet.tail (laidMet.tail h))
  obtain ⟨t7, p7, c7⟩ := sent_of h3 gRng (tGlob 7 (by omega))
  exact ⟨ht, by have := size_of_cell c7; omega, sent_of (laidMet.tail (laidMet.tail h3)) gCron (tGlob 1 (by omega)), sent_of (laidMet.tail h3) gSyn (tGlob 6 (by omega)), ⟨t7, p7, c7⟩⟩

theorem vars_len {H : Type} {enc : TypeId × Value → H} {P : Program} {W : World} {sp : Nat → Bool} (ns : List String) : ∀ (gs : List (DataW H)) (q : List MemPlace), DataW.TrodVars enc P W sp ns gs q → gs.length = ns.length := by
  induction ns with
  | nil =>
    intro gs q h
    cases gs with
    | nil => rfl
    | cons _ _ => exact h.elim
  | cons n ns ih =>
    intro gs q h
    cases gs with
    | nil => exact h.elim
    | cons d ds =>
      obtain ⟨g, t, cs, fuel, p, q', _, _, _, _, h5, _⟩ := h
      simp [ih ds q' h5]

theorem laidB : laidOutB Tryz.prog = true := by kernel_rfl

/-- arguments that came in read behind the call as they read before -/
theorem all_below {H : Type} {enc : TypeId × Value → H} {P : Program} (hl : laidOutB P = true) {W W' : World} (hb : Below W.heap.size W W') (ts : List TypeId) :
    ∀ (vs : List Value) (ds : List (DataW H)) (ps : List MemPlace), (ts.all fun t => P.readableRec t && decide (t < P.types.size)) = true → (∀ x ∈ ps, x.block < W.heap.size) →
      DataW.TrodAll enc P W 0 (fun _ => true) true ts vs ds ps → DataW.TrodAll enc P W' 0 (fun b => decide (b < W.heap.size)) true ts vs ds ps := by
  induction ts with
  | nil =>
    intro vs ds ps _ _ h
    cases vs with
    | nil => cases ds with
      | nil => exact h
      | cons _ _ => exact h.elim
    | cons _ _ => exact h.elim
  | cons t ts ih =>
    intro vs ds ps hr hx h
    cases vs with
    | nil => exact h.elim
    | cons v vs =>
      cases ds with
      | nil => exact h.elim
      | cons d ds =>
        obtain ⟨p, q, h1, h2, rfl⟩ := h
        simp only [List.all_cons, Bool.and_eq_true, decide_eq_true_eq] at hr
        exact ⟨p, q, Below.trod hl hr.1.1 hr.1.2 h1 hb (fun x hx' => hx x (by simp [hx'])), ih vs ds q hr.2 (fun x hx' => hx x (by simp [hx'])) h2, rfl⟩

set_option maxRecDepth 1000000 in
/-- the row's end: the law returned true, and what was there is as it was -/
theorem law_post {H : Type} {enc : TypeId × Value → H} {f : Func} {s : ChangeSpec} {W W' : World} {args : Array Value} {ds gs : List (DataW H)} {ps : List MemPlace}
    (hW : DataW.Whole enc Tryz.prog f.params.toList s.vars false W args.toList ds gs ps) (hb : Ext W W')
    (hts : (f.params.toList.all fun t => Tryz.prog.readableRec t && decide (t < Tryz.prog.types.size)) = true) (hvs : varsRowed Tryz.prog s.vars = true)
    (hres : f.resultTypes = #[4])
    (hspec : s.fn H (ds ++ gs) = { results := [.lit (.bool true)], args := ds, vars := gs }) :
    s.post enc Tryz.prog f false true false false W args (.bool true) W' := by
  have hW' := hW
  obtain ⟨p, q, hA, hV, hpq, _⟩ := hW
  have old : ∀ x ∈ ps, x.block < W.heap.size := fun x h => hW'.lt x h
  subst hpq
  have hA' := all_below laidB hb _ _ _ _ hts (fun x hx => old x (by simp [hx])) hA
  have hV' := Below.trodVars laidB hb hvs hV
  refine ⟨ds, gs, p ++ q, [], p, q, hW', ?_, ?_, ?_, World.keptBut_mono (fun x h => ⟨h, by simpa using h⟩) (Below.frame hb (· ∈ p ++ q)), fun h => by cases h⟩
  · rw [hspec, hres]
    exact trodAll_cons_mk (shut_bool Tryz.underlying4 _) trodAll_mk0
  · rw [hspec]; exact hA'
  · rw [hspec]; exact hV'
end Go.Proofs.YtmaffdhcmdhjfaaGreatDoor
