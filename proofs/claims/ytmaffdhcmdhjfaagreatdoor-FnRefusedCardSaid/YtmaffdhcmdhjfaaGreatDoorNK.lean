/- An expression that came in, opened: its cells, its lists' items. What the rows of this seat share: what the laid variables hold; the row's end where the call has left all that was there as it was. What the rows with more laid variables share. -/
import Derived.Test.YtmaffdhcmdhjfaaGreatDoorNG
import Derived.ProofKit
import Derived.OpenShut
import Derived.Deep.Slices
import Derived.Test.YtmaffdhcmdhjfaaGreatDoorRows
import Derived.Test.YtmaffdhcmdhjfaaGreatDoorTie
import Derived.Test.YtmaffdhcmdhjfaaGreatDoorCards
import Derived.LaidMore
import Derived.OpenVars
import Derived.Stop.Joined
import Derived.SevenTiedAt
import Derived.Lib.LaidTab
import Derived.Stop.LaidErr
set_option linter.unusedSimpArgs false
set_option linter.unusedVariables false
namespace Go.Proofs.YtmaffdhcmdhjfaaGreatDoor
open Go.RowKit Go.Lib Go.ChangeShapes Go.WideShapes Go.Deep
section
variable {H : Type} {enc : TypeId × Value → H} {W : World} {base : Nat} {sp : Nat → Bool} {held : Bool}
instance : Inhabited Atom := ⟨⟨0, 0, 0, 0, 0, .slice none 0 0⟩⟩
instance : Inhabited PartV := ⟨⟨0, 0, 0, 0, 0, none, 0, []⟩⟩
theorem c3 : Tryz.prog.cellsOf 3 = 1 := by kernel_rfl
theorem c22 : Tryz.prog.cellsOf 22 = 1 := by kernel_rfl
theorem c24 : Tryz.prog.cellsOf 24 = 6 := by kernel_rfl
theorem c25 : Tryz.prog.cellsOf 25 = 42 := by kernel_rfl
theorem c4 : Tryz.prog.cellsOf 4 = 1 := by kernel_rfl
theorem c27 : Tryz.prog.cellsOf 27 = 43 := by kernel_rfl
theorem in64_of_wf {n : Int} (h : (Lit.int .i64 n).wf = true) : Joins.In64 n := Joins.in64_of_wf h
set_option maxRecDepth 1000000 in
theorem six_open {fuel : Nat} {cs : List Value} {x : DataW H × List MemPlace} (h : DataW.trod enc Tryz.prog W base sp held fuel 24 cs = some x) :
 ∃ (k a b s n : Int) (it : Value) (m : Nat) (y : DataW H × List MemPlace), cs = [.int .i64 k, .int .i64 a, .int .i64 b, .int .i64 s, .int .i64 n, it] ∧ Joins.In64 k ∧ Joins.In64 a ∧ Joins.In64 b ∧ Joins.In64 s ∧ Joins.In64 n ∧
  DataW.trod enc Tryz.prog W base sp held m 22 [it] = some y := by
 obtain ⟨xs, n, _, rfl, hl, hlen, hf⟩ := DataW.trod_struct Tryz.underlying24 h
 rw [c24] at hl
 match cs, hl with
 | [v0, v1, v2, v3, v4, v5], _ =>
   match xs, hlen with
   | [y0, y1, y2, y3, y4, y5], _ =>
     have h0 := hf 0 _ rfl
     have h1 := hf 1 _ rfl
     have h2 := hf 2 _ rfl
     have h3 := hf 3 _ rfl
     have h4 := hf 4 _ rfl
     have h5 := hf 5 _ rfl
     simp [c3, c22] at h0 h1 h2 h3 h4 h5
     obtain ⟨z0, e0, _, w0⟩ := DataW.trod_int Tryz.underlying3 h0
     obtain ⟨z1, e1, _, w1⟩ := DataW.trod_int Tryz.underlying3 h1
     obtain ⟨z2, e2, _, w2⟩ := DataW.trod_int Tryz.underlying3 h2
     obtain ⟨z3, e3, _, w3⟩ := DataW.trod_int Tryz.underlying3 h3
     obtain ⟨z4, e4, _, w4⟩ := DataW.trod_int Tryz.underlying3 h4
     simp at e0 e1 e2 e3 e4
     subst e0 e1 e2 e3 e4
     exact ⟨z0, z1, z2, z3, z4, v5, n, y5, rfl, in64_of_wf w0, in64_of_wf w1, in64_of_wf w2, in64_of_wf w3, in64_of_wf w4, h5⟩
theorem add_add (a : Addr) (i j : Nat) : (a.add i).add j = a.add (i + j) := by
 unfold Addr.add
 by_cases hi : i = 0
 ·subst hi; simp
 ·by_cases hj : j = 0
  ·subst hj; simp
  ·rw [if_neg hi, if_neg hj, if_neg (by omega)]
   simp [Nat.add_assoc]
theorem spot_none {w : World} {a : Addr} {v : Value} (h : w.cell? a = some v) : a.spot = none := by
 unfold World.cell? at h
 split at h
 ·split at h
  ·cases h
  ·rename_i hs; simpa using hs
 ·cases h
theorem part_open {fuel : Nat} {cs : List Value} {x : DataW H × List MemPlace} (h : DataW.trod enc Tryz.prog W base sp held fuel 24 cs = some x) :
 ∃ p : PartV, cs = p.cells ∧ PartIn p ∧ ItemsAt W p.ia p.items := by
 obtain ⟨k, a, b, s, n, it, m, y, rfl, hk, ha, hb, hs, hn, hit⟩ := six_open h
 rcases open_slice Tryz.underlying22 hit with ⟨e, _⟩ | ⟨ad, len, cap, mm, m', D, Pl, e, _, hle, hcap, hmm, _, hel⟩
 ·simp at e
  subst e
  exact ⟨⟨k, a, b, s, n, none, 0, []⟩, rfl, ⟨ha, hb, hs, by simp, by simp⟩, fun hne => absurd rfl hne⟩
 ·simp at e
  subst e
  have hlm : len ≤ mm := by rw [hmm]; split <;> omega
  have key : ∀ i, i < len → ∃ x : Atom, W.cells? base (ad.add (i * 6)) 6 = some [.int .i64 x.k, .int .i64 x.a, .int .i64 x.b, .int .i64 x.s, .int .i64 x.n, x.it] ∧ Joins.In64 x.a ∧ Joins.In64 x.b ∧ Joins.In64 x.s := by
   intro i hi
   obtain ⟨cs', h1, h2⟩ := hel i (by omega)
   rw [c24] at h1
   obtain ⟨k', a', b', s', n', it', _, _, rfl, _, ha', hb', hs', _, _⟩ := six_open h2
   exact ⟨⟨k', a', b', s', n', it'⟩, h1, ha', hb', hs'⟩
  obtain ⟨F, hF⟩ := choose_lt key
  have hlen : ((List.range len).map F).length = len := by simp
  refine ⟨⟨k, a, b, s, n, some ad, cap, (List.range len).map F⟩, by simp [PartV.cells], ⟨ha, hb, hs, ?_, ?_⟩, ?_⟩
  ·simp only [hlen]; unfold maxLen at hcap; omega
  ·intro x hx
   simp only [List.mem_map, List.mem_range] at hx
   obtain ⟨i, hi, rfl⟩ := hx
   exact (hF i hi).2
  ·intro hne
   have hpos : 0 < len := by
    rcases Nat.eq_zero_or_pos len with h0 | h0
    ·subst h0; exact absurd rfl hne
    ·exact h0
   have hz := World.cells?_some (hF 0 hpos).1
   have hc0 := hz.2.2 0 (by omega)
   have hsp : ad.spot = none := by
    have e : (ad.add (0 * 6)).add 0 = ad := by simp [Addr.add]
    rw [e] at hc0
    exact spot_none hc0
   obtain ⟨bl, of, spt⟩ := ad
   simp only at hsp
   subst hsp
   refine ⟨bl, of, rfl, fun j x hj => ?_⟩
   have hjl : j < len := by
    have := (List.getElem?_eq_some_iff.mp hj).1
    simpa using this
   have ex : x = F j := by
    rw [List.getElem?_map, List.getElem?_range hjl] at hj
    simpa using hj.symm
   subst ex
   have hcs := (World.cells?_some (hF j hjl).1).2.2
   have ea : ∀ f, ((⟨bl, of, none⟩ : Addr).add (j * 6)).add f = ⟨bl, of + j * 6 + f, none⟩ := by
    intro f
    rw [add_add]
    unfold Addr.add
    by_cases h0 : j * 6 + f = 0
    ·rw [if_pos h0]
     have e1 : of + j * 6 + f = of := by omega
     rw [e1]
    ·rw [if_neg h0]
     have e1 : of + (j * 6 + f) = of + j * 6 + f := by omega
     simp only [e1]
   have g := fun f hf => (congrArg W.cell? (ea f)).symm.trans (hcs f hf)
   exact ⟨g 0 (by omega), g 1 (by omega), g 2 (by omega), g 3 (by omega), g 4 (by omega), g 5 (by omega)⟩
theorem chunk (L : List Value) (i : Nat) : L.drop (i * 6) = (L.drop (i * 6)).take 6 ++ L.drop ((i + 1) * 6) := by
 have : L.drop ((i + 1) * 6) = (L.drop (i * 6)).drop 6 := by rw [List.drop_drop]; congr 1; omega
 rw [this, List.take_append_drop]
set_option maxRecDepth 1000000 in
theorem open_cron {r : Reach} {b0 : Nat} {v : Value} {d : DataW H} {p : List MemPlace} (hv : Value.okWide Tryz.prog W r b0 27 v) (h : DataW.Trod enc Tryz.prog W base sp held 27 v d p) :
 ∃ c : CronV, v = .agg c.cells ∧ CronIn c ∧ CronItems W c := by
 obtain ⟨cs, rfl, hsz⟩ := okWide_struct Tryz.underlying27 hv
 obtain ⟨fuel, hf⟩ := h
 have hcs : (Value.agg cs).cells.toList = cs.toList := rfl
 rw [hcs] at hf
 rw [c27] at hsz
 obtain ⟨y0, y1, n, _, hl, h0, h1⟩ := trod_struct2 Tryz.underlying27 hf
 simp only [c25, c4, List.drop_zero] at h0 h1
 obtain ⟨xs, m, _, _, _, hxl, hx⟩ := DataW.trod_array Tryz.underlying25 h0
 rw [c24] at hx
 obtain ⟨bb, hb, _⟩ := DataW.trod_bool Tryz.underlying4 h1
 have key : ∀ i, i < 7 → ∃ P : PartV, (cs.toList.drop (i * 6)).take 6 = P.cells ∧ PartIn P ∧ ItemsAt W P.ia P.items := by
  intro i hi
  have hi' := hx i hi
  rw [List.getElem?_eq_getElem (by omega)] at hi'
  obtain ⟨P, e, h1, h2⟩ := part_open hi'
  refine ⟨P, ?_, h1, h2⟩
  rw [← e, List.drop_take, List.take_take]
  congr 1
  omega
 obtain ⟨F, hF⟩ := choose_lt key
 refine ⟨⟨F, bb⟩, ?_, ⟨fun j hj => (hF j hj).2.1⟩, fun j hj => (hF j hj).2.2⟩
 congr 1
 apply Array.ext'
 show cs.toList = _
 have e42 : cs.toList.drop 42 = [.bool bb] := by
  rw [← hb, List.take_of_length_le]
  simp [hsz]
 have hL : cs.toList = cs.toList.drop (0 * 6) := by simp
 rw [hL, chunk, chunk cs.toList 1, chunk cs.toList 2, chunk cs.toList 3, chunk cs.toList 4, chunk cs.toList 5, chunk cs.toList 6]
 rw [(hF 0 (by omega)).1, (hF 1 (by omega)).1, (hF 2 (by omega)).1, (hF 3 (by omega)).1, (hF 4 (by omega)).1, (hF 5 (by omega)).1, (hF 6 (by omega)).1]
 rw [show (6 + 1) * 6 = 42 from rfl, e42]
 rfl
end
end Go.Proofs.YtmaffdhcmdhjfaaGreatDoor
namespace Go.Proofs.YtmaffdhcmdhjfaaGreatDoor
open Go.ChangeShapes Go.WideShapes Go.ChangeAt Go.RowKit
set_option linter.unusedVariables false
theorem own : ownKnob Tryz.prog.godebug = none := by kernel_rfl
theorem star : "*" ++ "errors.errorString" = "*errors.errorString" := by decide
theorem row217 (u : TypeId) (h : Tryz.prog.typeName? 3 u = some "*errors.errorString") : u = 217 :=
 typeName_ptr_named (nm := "errors.errorString") (by rw [star]; kernel_rfl) (by kernel_rfl) (by decide) u (by rw [star]; exact h)
theorem sent_of {W : World} {n : String} {text : List UInt8} {r : List (String × DataW Unit)} {g : Nat} (h : laidMet Tryz.prog ((n, .iface "*errors.errorString" (.ptr (.agg [.lit (.string text)]))) :: r) W)
 (hg : Tryz.prog.globalNamed n = some g) (ht : (Tryz.prog.globals[g]?).map (·.type) = some 64) : ∃ t p, W.cell? ⟨g, 0, none⟩ = some (.iface t p) := by
 obtain ⟨a, s, hv, _⟩ := laid_sentinel h hg ht Tryz.underlying64 row217 Tryz.underlying217 Tryz.underlying219 rfl rfl Tryz.underlying9 (by kernel_rfl) (by kernel_rfl)
 exact ⟨_, _, by simpa using World.var?_cell hg hv 0⟩
theorem gSyn : Tryz.prog.globalNamed "strconv.ErrSyntax" = some 6 := by kernel_rfl
theorem gRng : Tryz.prog.globalNamed "strconv.ErrRange" = some 7 := by kernel_rfl
theorem gCron : Tryz.prog.globalNamed "loop.example/pub-g03356/pub/quartz.ErrCronParse" = some 1 := by kernel_rfl
theorem gIll : Tryz.prog.globalNamed "loop.example/pub-g03356/pub/quartz.ErrIllegalArgument" = some 2 := by kernel_rfl
theorem gExp : Tryz.prog.globalNamed "loop.example/pub-g03356/pub/quartz.ErrTriggerExpired" = some 0 := by kernel_rfl
theorem tGlob (g : Nat) (h : g = 0 ∨ g = 1 ∨ g = 2 ∨ g = 6 ∨ g = 7) : (Tryz.prog.globals[g]?).map (·.type) = some 64 := by
 rcases h with rfl | rfl | rfl | rfl | rfl <;> kernel_rfl
theorem size_of_cell {W : World} {g : Nat} {v : Value} (h : W.cell? ⟨g, 0, none⟩ = some v) : g + 1 ≤ W.heap.size := by
 rcases Nat.lt_or_ge g W.heap.size with hl | hl
 ·exact hl
 ·simp [World.cell?, Array.getElem?_eq_none hl] at h
def laid6 : List (String × DataW Unit) := [("math/bits.deBruijn32tab", Rows.laid_math_bits_deBruijn32tab), ("math/bits.deBruijn64tab", Rows.laid_math_bits_deBruijn64tab), ("internal/strconv.uint64pow10", Rows.laid_internal_strconv_uint64pow10), ("strconv.ErrRange", Rows.laid_strconv_ErrRange), ("strconv.ErrSyntax", Rows.laid_strconv_ErrSyntax), ("loop.example/pub-g03356/pub/quartz.ErrCronParse", Rows.laid_loop_example_pub_g03356_pub_quartz_ErrCronParse)]
theorem env_of6 {W : World} (h : laidMetH Tryz.prog laid6 W) : Env W := by
 rw [MakeChecks.laidMetH_plain _ _ _ (by kernel_rfl)] at h
 have ht : Lib.TabIs Tryz.prog W "internal/strconv.uint64pow10" .u64 Lib.pow10Tab :=
  Lib.tabIs_of_head (g := 3) (t := 189) (e := 143) (n := 20) (rest := [("strconv.ErrRange", Rows.laid_strconv_ErrRange), ("strconv.ErrSyntax", Rows.laid_strconv_ErrSyntax), ("loop.example/pub-g03356/pub/quartz.ErrCronParse", Rows.laid_loop_example_pub_g03356_pub_quartz_ErrCronParse)]) (by kernel_rfl) (by kernel_rfl) Tryz.underlying189 Tryz.underlying143 (by kernel_rfl) (by kernel_rfl) (laidMet.tail (laidMet.tail h))
 have h3 := laidMet.tail (laidMet.tail (laidMet.tail h))
 obtain ⟨t7, p7, c7⟩ := sent_of h3 gRng (tGlob 7 (by omega))
 exact ⟨ht, by have := size_of_cell c7; omega, sent_of (laidMet.tail (laidMet.tail h3)) gCron (tGlob 1 (by omega)), sent_of (laidMet.tail h3) gSyn (tGlob 6 (by omega)), ⟨t7, p7, c7⟩⟩
theorem vars_len {H : Type} {enc : TypeId × Value → H} {P : Program} {W : World} {sp : Nat → Bool} (ns : List String) : ∀ (gs : List (DataW H)) (q : List MemPlace), DataW.TrodVars enc P W sp ns gs q → gs.length = ns.length := by
 induction ns with
 | nil =>
   intro gs q h
   cases gs with
   | nil => rfl
   | cons _ _ => exact h.elim
 | cons n ns ih =>
   intro gs q h
   cases gs with
   | nil => exact h.elim
   | cons d ds =>
     obtain ⟨g, t, cs, fuel, p, q', _, _, _, _, h5, _⟩ := h
     simp [ih ds q' h5]
theorem laidB : laidOutB Tryz.prog = true := by kernel_rfl
theorem all_below {H : Type} {enc : TypeId × Value → H} {P : Program} (hl : laidOutB P = true) {W W' : World} (hb : Below W.heap.size W W') (ts : List TypeId) :
 ∀ (vs : List Value) (ds : List (DataW H)) (ps : List MemPlace), (ts.all fun t => P.readableRec t && decide (t < P.types.size)) = true → (∀ x ∈ ps, x.block < W.heap.size) →
  DataW.TrodAll enc P W 0 (fun _ => true) true ts vs ds ps → DataW.TrodAll enc P W' 0 (fun b => decide (b < W.heap.size)) true ts vs ds ps := by
 induction ts with
 | nil =>
   intro vs ds ps _ _ h
   cases vs with
   | nil => cases ds with
     | nil => exact h
     | cons _ _ => exact h.elim
   | cons _ _ => exact h.elim
 | cons t ts ih =>
   intro vs ds ps hr hx h
   cases vs with
   | nil => exact h.elim
   | cons v vs =>
     cases ds with
     | nil => exact h.elim
     | cons d ds =>
       obtain ⟨p, q, h1, h2, rfl⟩ := h
       simp only [List.all_cons, Bool.and_eq_true, decide_eq_true_eq] at hr
       exact ⟨p, q, Below.trod hl hr.1.1 hr.1.2 h1 hb (fun x hx' => hx x (by simp [hx'])), ih vs ds q hr.2 (fun x hx' => hx x (by simp [hx'])) h2, rfl⟩
set_option maxRecDepth 1000000 in
theorem law_post {H : Type} {enc : TypeId × Value → H} {f : Func} {s : ChangeSpec} {W W' : World} {args : Array Value} {ds gs : List (DataW H)} {ps : List MemPlace}
 (hW : DataW.Whole enc Tryz.prog f.params.toList s.vars false W args.toList ds gs ps) (hb : Ext W W')
 (hts : (f.params.toList.all fun t => Tryz.prog.readableRec t && decide (t < Tryz.prog.types.size)) = true) (hvs : varsRowed Tryz.prog s.vars = true)
 (hres : f.resultTypes = #[4])
 (hspec : s.fn H (ds ++ gs) = { results := [.lit (.bool true)], args := ds, vars := gs }) :
 s.post enc Tryz.prog f false true false false W args (.bool true) W' := by
 have hW' := hW
 obtain ⟨p, q, hA, hV, hpq, _⟩ := hW
 have old : ∀ x ∈ ps, x.block < W.heap.size := fun x h => hW'.lt x h
 subst hpq
 have hA' := all_below laidB hb _ _ _ _ hts (fun x hx => old x (by simp [hx])) hA
 have hV' := Below.trodVars laidB hb hvs hV
 refine ⟨ds, gs, p ++ q, [], p, q, hW', ?_, ?_, ?_, World.keptBut_mono (fun x h => ⟨h, by simpa using h⟩) (Below.frame hb (· ∈ p ++ q)), fun h => by cases h⟩
 ·rw [hspec, hres]
  exact trodAll_cons_mk (shut_bool Tryz.underlying4 _) trodAll_mk0
 ·rw [hspec]; exact hA'
 ·rw [hspec]; exact hV'
end Go.Proofs.YtmaffdhcmdhjfaaGreatDoor
namespace Go.Proofs.YtmaffdhcmdhjfaaGreatDoor
open Go.ChangeShapes Go.WideShapes Go.ChangeAt Go.RowKit
def laid7 : List (String × DataW Unit) := [("math/bits.deBruijn32tab", Rows.laid_math_bits_deBruijn32tab), ("math/bits.deBruijn64tab", Rows.laid_math_bits_deBruijn64tab), ("internal/strconv.uint64pow10", Rows.laid_internal_strconv_uint64pow10), ("strconv.ErrRange", Rows.laid_strconv_ErrRange), ("strconv.ErrSyntax", Rows.laid_strconv_ErrSyntax), ("loop.example/pub-g03356/pub/quartz.ErrIllegalArgument", Rows.laid_loop_example_pub_g03356_pub_quartz_ErrIllegalArgument), ("loop.example/pub-g03356/pub/quartz.ErrCronParse", Rows.laid_loop_example_pub_g03356_pub_quartz_ErrCronParse)]
def laid8 : List (String × DataW Unit) := [("math/bits.deBruijn32tab", Rows.laid_math_bits_deBruijn32tab), ("math/bits.deBruijn64tab", Rows.laid_math_bits_deBruijn64tab), ("internal/strconv.uint64pow10", Rows.laid_internal_strconv_uint64pow10), ("strconv.ErrRange", Rows.laid_strconv_ErrRange), ("strconv.ErrSyntax", Rows.laid_strconv_ErrSyntax), ("loop.example/pub-g03356/pub/quartz.ErrIllegalArgument", Rows.laid_loop_example_pub_g03356_pub_quartz_ErrIllegalArgument), ("loop.example/pub-g03356/pub/quartz.ErrCronParse", Rows.laid_loop_example_pub_g03356_pub_quartz_ErrCronParse), ("loop.example/pub-g03356/pub/quartz.ErrTriggerExpired", Rows.laid_loop_example_pub_g03356_pub_quartz_ErrTriggerExpired)]
theorem env_of7 {W : World} (h : laidMetH Tryz.prog laid7 W) : Env W := by
 rw [MakeChecks.laidMetH_plain _ _ _ (by kernel_rfl)] at h
 have ht : Lib.TabIs Tryz.prog W "internal/strconv.uint64pow10" .u64 Lib.pow10Tab :=
  Lib.tabIs_of_head (g := 3) (t := 189) (e := 143) (n := 20) (rest := [("strconv.ErrRange", Rows.laid_strconv_ErrRange), ("strconv.ErrSyntax", Rows.laid_strconv_ErrSyntax), ("loop.example/pub-g03356/pub/quartz.ErrIllegalArgument", Rows.laid_loop_example_pub_g03356_pub_quartz_ErrIllegalArgument), ("loop.example/pub-g03356/pub/quartz.ErrCronParse", Rows.laid_loop_example_pub_g03356_pub_quartz_ErrCronParse)]) (by kernel_rfl) (by kernel_rfl) Tryz.underlying189 Tryz.underlying143 (by kernel_rfl) (by kernel_rfl) (laidMet.tail (laidMet.tail h))
 have h3 := laidMet.tail (laidMet.tail (laidMet.tail h))
 obtain ⟨t7, p7, c7⟩ := sent_of h3 gRng (tGlob 7 (by omega))
 exact ⟨ht, by have := size_of_cell c7; omega, sent_of (laidMet.tail (laidMet.tail (laidMet.tail h3))) gCron (tGlob 1 (by omega)), sent_of (laidMet.tail h3) gSyn (tGlob 6 (by omega)), ⟨t7, p7, c7⟩⟩
theorem env_of8 {W : World} (h : laidMetH Tryz.prog laid8 W) : Env W ∧ ∃ t p, W.cell? ⟨0, 0, none⟩ = some (.iface t p) := by
 rw [MakeChecks.laidMetH_plain _ _ _ (by kernel_rfl)] at h
 have ht : Lib.TabIs Tryz.prog W "internal/strconv.uint64pow10" .u64 Lib.pow10Tab :=
  Lib.tabIs_of_head (g := 3) (t := 189) (e := 143) (n := 20) (rest := [("strconv.ErrRange", Rows.laid_strconv_ErrRange), ("strconv.ErrSyntax", Rows.laid_strconv_ErrSyntax), ("loop.example/pub-g03356/pub/quartz.ErrIllegalArgument", Rows.laid_loop_example_pub_g03356_pub_quartz_ErrIllegalArgument), ("loop.example/pub-g03356/pub/quartz.ErrCronParse", Rows.laid_loop_example_pub_g03356_pub_quartz_ErrCronParse), ("loop.example/pub-g03356/pub/quartz.ErrTriggerExpired", Rows.laid_loop_example_pub_g03356_pub_quartz_ErrTriggerExpired)]) (by kernel_rfl) (by kernel_rfl) Tryz.underlying189 Tryz.underlying143 (by kernel_rfl) (by kernel_rfl) (laidMet.tail (laidMet.tail h))
 have h3 := laidMet.tail (laidMet.tail (laidMet.tail h))
 obtain ⟨t7, p7, c7⟩ := sent_of h3 gRng (tGlob 7 (by omega))
 exact ⟨⟨ht, by have := size_of_cell c7; omega, sent_of (laidMet.tail (laidMet.tail (laidMet.tail h3))) gCron (tGlob 1 (by omega)), sent_of (laidMet.tail h3) gSyn (tGlob 6 (by omega)), ⟨t7, p7, c7⟩⟩,
  sent_of (laidMet.tail (laidMet.tail (laidMet.tail (laidMet.tail h3)))) gExp (tGlob 0 (by omega))⟩
end Go.Proofs.YtmaffdhcmdhjfaaGreatDoor
