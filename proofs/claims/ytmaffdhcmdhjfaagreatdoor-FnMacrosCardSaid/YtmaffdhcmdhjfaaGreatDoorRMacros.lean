/- spec.Macro: what the words stand for. laws.FnMacros returns true. FnMacros: for every input the law returns true; its conditions: the listed package-level variables read as the program's text lays them (the card ties that). -/
import Derived.Test.YtmaffdhcmdhjfaaGreatDoorNX
import Derived.Test.YtmaffdhcmdhjfaaGreatDoorNK
set_option linter.unusedSimpArgs false
set_option linter.unusedVariables false
namespace Go.Proofs.YtmaffdhcmdhjfaaGreatDoor
open Go.RowKit Go.Lib
attribute [local go_sem ↓] execOp_loadCron
def pNone : PartV := ⟨0, 0, 0, 0, 0, none, 0, []⟩
def pZero : PartV := ⟨2, 0, 0, 0, 0, none, 0, []⟩
def pOne : PartV := ⟨2, 1, 0, 0, 0, none, 0, []⟩
def withP (c : CronV) (j : Nat) (p : PartV) : CronV := ⟨fun i => if i = j then p else c.p i, c.six⟩
def cNone : CronV := ⟨fun _ => pNone, false⟩
def cSix : CronV := ⟨fun _ => pNone, true⟩
def cMid : CronV := withP (withP (withP cSix 0 pZero) 1 pZero) 2 pZero
def macV (n : Int) : CronV :=
 if n = 0 then withP (withP cMid 3 pOne) 4 pOne else if n = 1 then withP cMid 3 pOne else if n = 2 then withP cMid 5 pOne else if n = 3 then cMid else if n = 4 then withP cMid 2 pNone else cNone
def macS (n : Int) : List UInt8 :=
 if n = 0 then [64, 121, 101, 97, 114, 108, 121] else if n = 1 then [64, 109, 111, 110, 116, 104, 108, 121] else if n = 2 then [64, 119, 101, 101, 107, 108, 121] else if n = 3 then [64, 100, 97, 105, 108, 121] else if n = 4 then [64, 104, 111, 117, 114, 108, 121] else []
def macB (n : Int) : Bool := decide (0 ≤ n) && decide (n ≤ 4)
def putPart (p v : Value) : Sem Next := do Instr.storeAt 24 p v; pure .skip
theorem execOp_putPart (ρ : Operand → Value) (dst : Option Tmp) (x y : Operand) (ty : TypeId) (pos : String) (after : Array Edge) (guard : Option (Nat × Bool)) :
 execOp ρ { dst, op := .store 24 x y, type := ty, pos, after, guard } = putPart (ρ x) (ρ y) := rfl
def putCron (p v : Value) : Sem Next := do Instr.storeAt 27 p v; pure .skip
theorem execOp_putCron (ρ : Operand → Value) (dst : Option Tmp) (x y : Operand) (ty : TypeId) (pos : String) (after : Array Edge) (guard : Option (Nat × Bool)) :
 execOp ρ { dst, op := .store 27 x y, type := ty, pos, after, guard } = putCron (ρ x) (ρ y) := rfl
def takePart (v : Value) : Sem Next := do pure (.value (← Instr.loadAt 24 v))
theorem execOp_takePart (ρ : Operand → Value) (dst : Option Tmp) (x : Operand) (ty : TypeId) (pos : String) (after : Array Edge) (guard : Option (Nat × Bool)) :
 execOp ρ { dst, op := .load 24 x, type := ty, pos, after, guard } = takePart (ρ x) := rfl
theorem info27 : (Tryz.prog.info? 27).map (·.size) = some 43 := by kernel_rfl
theorem info24 : (Tryz.prog.info? 24).map (·.size) = some 6 := by kernel_rfl
theorem cells_below {B b : Nat} {a : World} (hb : B ≤ b) : ∀ (vs : List Value) (o : Nat) (w : World), RowKit.Below B a w → RowKit.Below B a (w.setCells b o vs)
 | [], _, _, h => h
 | v :: vs, o, w, h => cells_below hb vs (o + 1) _ (Below.setCell h (p := ⟨b, o, none⟩) hb v)
theorem cells_other {B k : Nat} (hk : k ≠ B) : ∀ (vs : List Value) (o : Nat) (w : World), (w.setCells B o vs).heap[k]? = w.heap[k]?
 | [], _, _ => rfl
 | v :: vs, o, w => by
   show ((w.setCell ⟨B, o, none⟩ v).setCells B (o + 1) vs).heap[k]? = _
   rw [cells_other hk vs (o + 1) (w.setCell ⟨B, o, none⟩ v)]
   exact Below.heap_setCell w ⟨B, o, none⟩ v k hk
theorem cells_size (B : Nat) : ∀ (vs : List Value) (o : Nat) (w : World), (w.setCells B o vs).heap.size = w.heap.size
 | [], _, _ => rfl
 | v :: vs, o, w => by
   show ((w.setCell ⟨B, o, none⟩ v).setCells B (o + 1) vs).heap.size = _
   rw [cells_size B vs (o + 1) (w.setCell ⟨B, o, none⟩ v)]
   simp
def PartBk (W : World) (B : Nat) (p : PartV) : Prop := W.heap[B]? = some (.cells p.cells.toArray 24 (0, 0))
theorem PartBk.take {W : World} {B : Nat} {p : PartV} (h : PartBk W B p) : (takePart (.pointer (some ⟨B, 0, none⟩))).run Tryz.prog W = .ok (.value (.agg p.cells.toArray)) W := by
 unfold takePart
 have := run_loadVar_row (P := Tryz.prog) W B 24 24 p.cells.toArray (0, 0) _ h Tryz.underlying24 rfl info24
 simp only [Instr.loadAt, Instr.sureAddr, Sem.run_bind, Sem.run_pure, Result.andThen_ok, this]
theorem PartBk.ext {W W' : World} {B : Nat} {p : PartV} (h : PartBk W B p) (x : Ext W W') : PartBk W' B p := by
 unfold PartBk at h ⊢
 rw [Below.block x B (block_lt h)]; exact h
theorem PartBk.cells {W : World} {B B' : Nat} {p : PartV} (h : PartBk W B p) (hne : B ≠ B') (o : Nat) (vs : List Value) : PartBk (W.setCells B' o vs) B p := by
 unfold PartBk at h ⊢
 rw [cells_other hne]; exact h
def setMany (cs : Array Value) : Nat → List Value → Array Value
 | _, [] => cs
 | o, v :: vs => setMany (cs.setIfInBounds o v) (o + 1) vs
theorem block_setCells {B : Nat} {t : TypeId} {fr : Nat × Nat} : ∀ (vs : List Value) (o : Nat) (w : World) (cs : Array Value), w.heap[B]? = some (.cells cs t fr) → (w.setCells B o vs).heap[B]? = some (.cells (setMany cs o vs) t fr)
 | [], _, _, _, h => h
 | v :: vs, o, w, cs, h => block_setCells vs (o + 1) (w.setCell ⟨B, o, none⟩ v) _ (Joins.block_setCell h _)
theorem put_new (W W' : World) (p : PartV) (hW : W' = (W.alloc (.cells #[.int .i64 0, .int .i64 0, .int .i64 0, .int .i64 0, .int .i64 0, .slice none 0 0] 24)).setCells W.heap.size 0 p.cells) :
 (putPart (.pointer (some ⟨W.heap.size, 0, none⟩)) (.agg p.cells.toArray)).run Tryz.prog (W.alloc (.cells #[.int .i64 0, .int .i64 0, .int .i64 0, .int .i64 0, .int .i64 0, .slice none 0 0] 24)) = .ok .skip W' ∧ PartBk W' W.heap.size p ∧ Ext W W' ∧ W'.heap.size = W.heap.size + 1 := by
 have hb := heap_alloc_new W (.cells #[.int .i64 0, .int .i64 0, .int .i64 0, .int .i64 0, .int .i64 0, .slice none 0 0] 24)
 refine ⟨?_, ?_, ?_, ?_⟩
 ·unfold putPart
  have := run_storeAt_mid (P := Tryz.prog) (W.alloc (.cells #[.int .i64 0, .int .i64 0, .int .i64 0, .int .i64 0, .int .i64 0, .slice none 0 0] 24)) W.heap.size 0 24 p.cells.toArray ?_ info24 (by simp [PartV.cells, Value.oneCell'])
  ·simp only [Sem.run_bind, Sem.run_pure, this, Result.andThen_ok, hW]
  ·intro i hi
   have hi6 : i < 6 := hi
   exact ⟨by rw [Joins.cell_of_block hb, Array.getElem?_eq_getElem (by show 0 + i < 6; omega)]; rfl, Joins.unfrozen_of_block hb _⟩
 ·unfold PartBk
  rw [hW, block_setCells _ _ _ _ hb]
  rfl
 ·rw [hW]; exact cells_below (Nat.le_refl _) _ _ _ (Ext.alloc _ _)
 ·rw [hW, cells_size]; simp
theorem put_newC (W W' : World) (hW : W' = (W.alloc (.cells cNone.cells 27)).setCells W.heap.size 0 cSix.cells.toList) :
 (putCron (.pointer (some ⟨W.heap.size, 0, none⟩)) (.agg cSix.cells)).run Tryz.prog (W.alloc (.cells cNone.cells 27)) = .ok .skip W' ∧ W'.heap[W.heap.size]? = some (.cells cSix.cells 27 (0, 0)) ∧ Ext W W' ∧ W'.heap.size = W.heap.size + 1 := by
 have hb := heap_alloc_new W (.cells cNone.cells 27)
 refine ⟨?_, ?_, ?_, ?_⟩
 ·unfold putCron
  have := run_storeAt_mid (P := Tryz.prog) (W.alloc (.cells cNone.cells 27)) W.heap.size 0 27 cSix.cells ?_ u27 (by kernel_rfl)
  ·simp only [Sem.run_bind, Sem.run_pure, this, Result.andThen_ok, hW]
  ·intro i hi
   have hi6 : i < 43 := hi
   exact ⟨by rw [Joins.cell_of_block hb, Array.getElem?_eq_getElem (by rw [CronV.size]; omega)]; rfl, Joins.unfrozen_of_block hb _⟩
 ·have e : setMany cNone.cells 0 cSix.cells.toList = cSix.cells := by kernel_rfl
  rw [hW, block_setCells _ _ _ _ hb, e]
 ·rw [hW]; exact cells_below (Nat.le_refl _) _ _ _ (Ext.alloc _ _)
 ·rw [hW, cells_size]; simp
theorem put_part {W W' : World} {B : Nat} {c : CronV} (h : W.heap[B]? = some (.cells c.cells 27 (0, 0))) (j o : Nat) (ho : o + 6 ≤ 43) (p : PartV)
 (hc : setMany c.cells o p.cells = (withP c j p).cells) (hW : W' = W.setCells B o p.cells) :
 (putPart (.pointer (some ⟨B, o, none⟩)) (.agg p.cells.toArray)).run Tryz.prog W = .ok .skip W' ∧ W'.heap[B]? = some (.cells (withP c j p).cells 27 (0, 0)) := by
 refine ⟨?_, ?_⟩
 ·unfold putPart
  have := run_storeAt_mid (P := Tryz.prog) W B o 24 p.cells.toArray ?_ info24 (by simp [PartV.cells, Value.oneCell'])
  ·simp only [Sem.run_bind, Sem.run_pure, this, Result.andThen_ok, hW]
  ·intro i hi
   have hi6 : i < 6 := hi
   exact ⟨by rw [Joins.cell_of_block h, Array.getElem?_eq_getElem (by rw [CronV.size]; omega)]; rfl, Joins.unfrozen_of_block h _⟩
 ·rw [hW, block_setCells _ _ _ _ h, hc]
theorem put_cron {W W' : World} {B : Nat} {d : CronV} (h : W.heap[B]? = some (.cells d.cells 27 (0, 0))) (c : CronV) (h1 : c.cells.all (·.oneCell') = true)
 (hc : setMany d.cells 0 c.cells.toList = c.cells) (hW : W' = W.setCells B 0 c.cells.toList) :
 (putCron (.pointer (some ⟨B, 0, none⟩)) (.agg c.cells)).run Tryz.prog W = .ok .skip W' ∧ W'.heap[B]? = some (.cells c.cells 27 (0, 0)) := by
 refine ⟨?_, ?_⟩
 ·unfold putCron
  have := run_storeAt_mid (P := Tryz.prog) W B 0 27 c.cells ?_ u27 h1
  ·simp only [Sem.run_bind, Sem.run_pure, this, Result.andThen_ok, hW]
  ·intro i hi
   have hi6 : i < 43 := hi
   exact ⟨by rw [Joins.cell_of_block h, Array.getElem?_eq_getElem (by rw [CronV.size]; omega)]; rfl, Joins.unfrozen_of_block h _⟩
 ·rw [hW, block_setCells _ _ _ _ h, hc]
theorem put_next {w W : World} {B : Nat} {c : CronV} (h : W.heap[B]? = some (.cells c.cells 27 (0, 0))) (hB : w.heap.size ≤ B) (j o : Nat) (ho : o + 6 ≤ 43) (p : PartV) (hc : setMany c.cells o p.cells = (withP c j p).cells) :
 ∃ W', (putPart (.pointer (some ⟨B, o, none⟩)) (.agg p.cells.toArray)).run Tryz.prog W = .ok .skip W' ∧ W'.heap[B]? = some (.cells (withP c j p).cells 27 (0, 0)) ∧ (∀ b q, b ≠ B → PartBk W b q → PartBk W' b q) ∧ (Ext w W → Ext w W') ∧
  (∀ (b : Nat) d, b ≠ B → W.heap[b]? = some (.cells d 27 (0, 0)) → W'.heap[b]? = some (.cells d 27 (0, 0))) := by
 obtain ⟨s, r⟩ := put_part h j o ho p hc rfl
 exact ⟨_, s, r, fun b q hb k => k.cells hb _ _, fun x => cells_below hB _ _ _ x, fun b d hb k => by rw [cells_other hb]; exact k⟩
theorem mac_end {w W : World} {b B : Nat} (c : CronV) (R2 : W.heap[b]? = some (.cells cNone.cells 27 (0, 0))) (RR : W.heap[B]? = some (.cells c.cells 27 (0, 0))) (h1 : c.cells.all (·.oneCell') = true) (hc : setMany cNone.cells 0 c.cells.toList = c.cells) (x : Ext w W) (hb : w.heap.size ≤ b) :
 ∃ WF, (putCron (.pointer (some ⟨b, 0, none⟩)) (.agg c.cells)).run Tryz.prog W = .ok .skip WF ∧ Hid (Ext w WF) ∧ Hid ((loadVar 27 ⟨b, 0, none⟩).run Tryz.prog WF = .ok (.agg c.cells) WF) ∧ (loadCron (.pointer (some ⟨B, 0, none⟩))).run Tryz.prog W = .ok (.value (.agg c.cells)) W := by
 obtain ⟨sF, RF⟩ := put_cron (d := cNone) R2 c h1 hc rfl
 refine ⟨_, sF, cells_below hb _ _ _ x, run_loadVar_row _ b 27 27 c.cells (0, 0) _ RF Tryz.underlying27 rfl info27, ?_⟩
 have h27 := run_loadVar_row (P := Tryz.prog) W B 27 27 c.cells (0, 0) _ RR Tryz.underlying27 rfl info27
 unfold loadCron
 simp only [Instr.loadAt, Instr.sureAddr, Sem.run_bind, Sem.run_pure, Result.andThen_ok, h27]
theorem results_mac {tmps : Array Value} {w : World} {B : Nat} {v v3 v4 : Value} (hp : tmps.getD 2 undef = .pointer (some ⟨B, 0, none⟩)) (h3 : tmps.getD 3 undef = v3) (h4 : tmps.getD 4 undef = v4)
 (hl : (loadVar 27 ⟨B, 0, none⟩).run Tryz.prog w = .ok v w) : (results Tryz.f32 tmps).run Tryz.prog w = .ok (.tuple #[v, v3, v4]) w := by
 have hp' : tmps[2]?.getD undef = .pointer (some ⟨B, 0, none⟩) := by simpa using hp
 have h3' : tmps[3]?.getD undef = v3 := by simpa using h3
 have h4' : tmps[4]?.getD undef = v4 := by simpa using h4
 simp [results, Tryz.results32, hp', h3', h4', asAddr, hl]
attribute [local go_sem ↓] execOp_putPart execOp_putCron execOp_takePart
set_option maxHeartbeats 12800000 in
set_option maxRecDepth 1000000 in
theorem macro_any (n : Int) (w : World) :
 Calls Tryz.prog 32 #[.int .i64 n] w fun e w' => e = .returned (.tuple #[.agg (macV n).cells, .string (mk (macS n)), .bool (macB n)]) ∧ Ext w w' := by
 go_enter Tryz.func32, Tryz.ntmps32
 go_upto_region 1 with fail
 obtain ⟨W0, hW0⟩ : ∃ W, W = w.alloc (.cells cNone.cells 27) := ⟨_, rfl⟩
 have R0 : W0.heap[w.heap.size]? = some (.cells cNone.cells 27 (0, 0)) := by rw [hW0]; exact heap_alloc_new _ _
 have X0 : Ext w W0 := by rw [hW0]; exact Ext.alloc _ _
 have S0 : Hid (W0.heap.size = w.heap.size + 1) := by show _ = _; rw [hW0]; simp
 change Code.wp _ _ _ _ (w.alloc (.cells cNone.cells 27))
 rw [← hW0]
 clear hW0
 obtain ⟨W5, h5⟩ : ∃ W, W = (W0.alloc (.cells #[.int .i64 0, .int .i64 0, .int .i64 0, .int .i64 0, .int .i64 0, .slice none 0 0] 24)).setCells W0.heap.size 0 pZero.cells := ⟨_, rfl⟩
 obtain ⟨s5, P5, X5, s5'⟩ := put_new W0 W5 pZero h5
 have S5 := Lib.hid s5'
 have t5 : (putPart (.pointer (some ⟨W0.heap.size, 0, none⟩)) (.agg #[.int .i64 2, .int .i64 0, .int .i64 0, .int .i64 0, .int .i64 0, .slice none 0 0])).run Tryz.prog (W0.alloc (.cells #[.int .i64 0, .int .i64 0, .int .i64 0, .int .i64 0, .int .i64 0, .slice none 0 0] 24)) = .ok .skip W5 := s5
 obtain ⟨W6, h6⟩ : ∃ W, W = (W5.alloc (.cells #[.int .i64 0, .int .i64 0, .int .i64 0, .int .i64 0, .int .i64 0, .slice none 0 0] 24)).setCells W5.heap.size 0 pOne.cells := ⟨_, rfl⟩
 obtain ⟨s6, P6, X6, s6'⟩ := put_new W5 W6 pOne h6
 have S6 := Lib.hid s6'
 have t6 : (putPart (.pointer (some ⟨W5.heap.size, 0, none⟩)) (.agg #[.int .i64 2, .int .i64 1, .int .i64 0, .int .i64 0, .int .i64 0, .slice none 0 0])).run Tryz.prog (W5.alloc (.cells #[.int .i64 0, .int .i64 0, .int .i64 0, .int .i64 0, .int .i64 0, .slice none 0 0] 24)) = .ok .skip W6 := s6
 obtain ⟨W7, h7⟩ : ∃ W, W = (W6.alloc (.cells cNone.cells 27)).setCells W6.heap.size 0 cSix.cells.toList := ⟨_, rfl⟩
 obtain ⟨s7, R7, X7, s7'⟩ := put_newC W6 W7 h7
 have t7 : (putCron (.pointer (some ⟨W6.heap.size, 0, none⟩)) (.agg #[.int .i64 0, .int .i64 0, .int .i64 0, .int .i64 0, .int .i64 0, .slice none 0 0, .int .i64 0, .int .i64 0, .int .i64 0, .int .i64 0, .int .i64 0, .slice none 0 0, .int .i64 0, .int .i64 0, .int .i64 0, .int .i64 0, .int .i64 0, .slice none 0 0, .int .i64 0, .int .i64 0, .int .i64 0, .int .i64 0, .int .i64 0, .slice none 0 0, .int .i64 0, .int .i64 0, .int .i64 0, .int .i64 0, .int .i64 0, .slice none 0 0, .int .i64 0, .int .i64 0, .int .i64 0, .int .i64 0, .int .i64 0, .slice none 0 0, .int .i64 0, .int .i64 0, .int .i64 0, .int .i64 0, .int .i64 0, .slice none 0 0, .bool true])).run Tryz.prog (W6.alloc (.cells #[.int .i64 0, .int .i64 0, .int .i64 0, .int .i64 0, .int .i64 0, .slice none 0 0, .int .i64 0, .int .i64 0, .int .i64 0, .int .i64 0, .int .i64 0, .slice none 0 0, .int .i64 0, .int .i64 0, .int .i64 0, .int .i64 0, .int .i64 0, .slice none 0 0, .int .i64 0, .int .i64 0, .int .i64 0, .int .i64 0, .int .i64 0, .slice none 0 0, .int .i64 0, .int .i64 0, .int .i64 0, .int .i64 0, .int .i64 0, .slice none 0 0, .int .i64 0, .int .i64 0, .int .i64 0, .int .i64 0, .int .i64 0, .slice none 0 0, .int .i64 0, .int .i64 0, .int .i64 0, .int .i64 0, .int .i64 0, .slice none 0 0, .bool false] 27)) = .ok .skip W7 := s7
 have n56 : W0.heap.size ≠ W6.heap.size := by have := S0.out; have := S5.out; have := S6.out; omega
 have n66 : W5.heap.size ≠ W6.heap.size := by have := S0.out; have := S5.out; have := S6.out; omega
 have n26 : w.heap.size ≠ W6.heap.size := by have := S0.out; have := S5.out; have := S6.out; omega
 have N56 := Lib.hid n56
 have N66 := Lib.hid n66
 have N26 := Lib.hid n26
 have HB : Hid (w.heap.size ≤ W6.heap.size) := by show _ ≤ _; have := S0.out; have := S5.out; have := S6.out; omega
 have X7' : Ext w W7 := ((X0.trans X5).trans X6).trans X7
 have R27 : W7.heap[w.heap.size]? = some (.cells cNone.cells 27 (0, 0)) := (Below.block ((X5.trans X6).trans X7) _ (block_lt R0)).trans R0
 have P57 : PartBk W7 W0.heap.size pZero := P5.ext (X6.trans X7)
 have P67 : PartBk W7 W5.heap.size pOne := P6.ext X7
 clear h5 h6 h7 s5 s6 s7 s5' s6' s7' n56 n66 n26 R0 X0 P5 P6 X5 X6 X7
 go_upto_region 4 with fail
 obtain ⟨Wd, hWd⟩ : ∃ W, W = W7.drew := ⟨_, rfl⟩
 have Xd : Ext w Wd := by rw [hWd]; exact X7'.trans (Ext.drew _)
 have Rd : Wd.heap[W6.heap.size]? = some (.cells cSix.cells 27 (0, 0)) := by rw [hWd]; exact R7
 have R2d : Wd.heap[w.heap.size]? = some (.cells cNone.cells 27 (0, 0)) := by rw [hWd]; exact R27
 have P5d : PartBk Wd W0.heap.size pZero := by rw [hWd]; exact P57
 have P6d : PartBk Wd W5.heap.size pOne := by rw [hWd]; exact P67
 clear t5 t6 t7 X7' R7 R27 P57 P67
 obtain ⟨WA, sWA, RWA, YWA, ZWA, QWA⟩ := put_next (w := w) (c := cSix) Rd HB.out 0 0 (by omega) pZero (by kernel_rfl)
 have uWA : (putPart (.pointer (some ⟨W6.heap.size, 0, none⟩)) (.agg #[.int .i64 2, .int .i64 0, .int .i64 0, .int .i64 0, .int .i64 0, .slice none 0 0])).run Tryz.prog Wd = .ok .skip WA := sWA
 clear sWA
 obtain ⟨WB, sWB, RWB, YWB, ZWB, QWB⟩ := put_next (w := w) (c := withP cSix 0 pZero) RWA HB.out 1 6 (by omega) pZero (by kernel_rfl)
 have uWB : (putPart (.pointer (some ⟨W6.heap.size, 6, none⟩)) (.agg #[.int .i64 2, .int .i64 0, .int .i64 0, .int .i64 0, .int .i64 0, .slice none 0 0])).run Tryz.prog WA = .ok .skip WB := sWB
 clear sWB
 obtain ⟨WC, sWC, RWC, YWC, ZWC, QWC⟩ := put_next (w := w) (c := withP (withP cSix 0 pZero) 1 pZero) RWB HB.out 2 12 (by omega) pZero (by kernel_rfl)
 have uWC : (putPart (.pointer (some ⟨W6.heap.size, 12, none⟩)) (.agg #[.int .i64 2, .int .i64 0, .int .i64 0, .int .i64 0, .int .i64 0, .slice none 0 0])).run Tryz.prog WB = .ok .skip WC := sWC
 clear sWC
 have P5A := YWA _ _ N56.out P5d
 have P5B := YWB _ _ N56.out P5A
 have P6C : Hid (PartBk WC W5.heap.size pOne) := YWC _ _ N66.out (YWB _ _ N66.out (YWA _ _ N66.out P6d))
 have R2C : Hid (WC.heap[w.heap.size]? = some (.cells cNone.cells 27 (0, 0))) := QWC _ _ N26.out (QWB _ _ N26.out (QWA _ _ N26.out R2d))
 have XC : Hid (Ext w WC) := ZWC (ZWB (ZWA Xd))
 have RC : Hid (WC.heap[W6.heap.size]? = some (.cells cMid.cells 27 (0, 0))) := RWC
 have k1 : (takePart (.pointer (some ⟨W0.heap.size, 0, none⟩))).run Tryz.prog Wd = .ok (.value (.agg #[.int .i64 2, .int .i64 0, .int .i64 0, .int .i64 0, .int .i64 0, .slice none 0 0])) Wd := (P5d).take
 have k2 : (takePart (.pointer (some ⟨W0.heap.size, 0, none⟩))).run Tryz.prog WA = .ok (.value (.agg #[.int .i64 2, .int .i64 0, .int .i64 0, .int .i64 0, .int .i64 0, .slice none 0 0])) WA := (P5A).take
 have k3 : (takePart (.pointer (some ⟨W0.heap.size, 0, none⟩))).run Tryz.prog WB = .ok (.value (.agg #[.int .i64 2, .int .i64 0, .int .i64 0, .int .i64 0, .int .i64 0, .slice none 0 0])) WB := (P5B).take
 clear Xd Rd R2d P5d P6d RWA RWB RWC YWA YWB YWC ZWA ZWB ZWC QWA QWB QWC P5A P5B
 rw [hWd] at uWA k1
 clear hWd
 go_cut [18] (fun _ W => W = WC)
 case first =>
  go_region
  all_goals (
   go_wp2_with fail
   go_meet
   rfl)
 case rest =>
  subst hcut
  clear uWA uWB uWC k1 k2 k3
  have R2 := R2C.out
  have XX := XC.out
  have RM := RC.out
  have PM := P6C.out
  have N26' := N26.out
  have N66' := N66.out
  clear R2C XC RC P6C
  by_cases hn : 0 ≤ n ∧ n ≤ 4
  ·rcases (show n = 0 ∨ n = 1 ∨ n = 2 ∨ n = 3 ∨ n = 4 by omega) with rfl | rfl | rfl | rfl | rfl
   all_goals clear hn
   ·obtain ⟨Wd, hWd⟩ : ∃ W, W = wc.drew := ⟨_, rfl⟩
    have Xd : Ext w Wd := by rw [hWd]; exact XX.trans (Ext.drew _)
    have Rd : Wd.heap[W6.heap.size]? = some (.cells cMid.cells 27 (0, 0)) := by rw [hWd]; exact RM
    have R2d : Wd.heap[w.heap.size]? = some (.cells cNone.cells 27 (0, 0)) := by rw [hWd]; exact R2
    have P6d : PartBk Wd W5.heap.size pOne := by rw [hWd]; exact PM
    clear R2 XX RM PM
    obtain ⟨WD, sWD, RWD, YWD, ZWD, QWD⟩ := put_next (w := w) (c := cMid) Rd HB.out 3 18 (by omega) pOne (by kernel_rfl)
    have uWD : (putPart (.pointer (some ⟨W6.heap.size, 18, none⟩)) (.agg #[.int .i64 2, .int .i64 1, .int .i64 0, .int .i64 0, .int .i64 0, .slice none 0 0])).run Tryz.prog Wd = .ok .skip WD := sWD
    clear sWD
    obtain ⟨WE, sWE, RWE, YWE, ZWE, QWE⟩ := put_next (w := w) (c := withP cMid 3 pOne) RWD HB.out 4 24 (by omega) pOne (by kernel_rfl)
    have uWE : (putPart (.pointer (some ⟨W6.heap.size, 24, none⟩)) (.agg #[.int .i64 2, .int .i64 1, .int .i64 0, .int .i64 0, .int .i64 0, .slice none 0 0])).run Tryz.prog WD = .ok .skip WE := sWE
    clear sWE
    have P6D := YWD _ _ N66' P6d
    have k1 : (takePart (.pointer (some ⟨W5.heap.size, 0, none⟩))).run Tryz.prog Wd = .ok (.value (.agg #[.int .i64 2, .int .i64 1, .int .i64 0, .int .i64 0, .int .i64 0, .slice none 0 0])) Wd := (P6d).take
    have k2 : (takePart (.pointer (some ⟨W5.heap.size, 0, none⟩))).run Tryz.prog WD = .ok (.value (.agg #[.int .i64 2, .int .i64 1, .int .i64 0, .int .i64 0, .int .i64 0, .slice none 0 0])) WD := (P6D).take
    have R2 : Hid (WE.heap[w.heap.size]? = some (.cells cNone.cells 27 (0, 0))) := QWE _ _ N26' (QWD _ _ N26' R2d)
    have XX : Hid (Ext w WE) := ZWE (ZWD Xd)
    have RR : Hid (WE.heap[W6.heap.size]? = some (.cells (macV 0).cells 27 (0, 0))) := RWE
    clear Xd Rd R2d P6d RWD RWE YWD YWE ZWD ZWE QWD QWE P6D N26' N66'
    rw [hWd] at uWD k1
    clear hWd
    go_upto_region 7 with fail
    go_cut [25] (fun _ W => W = WE)
    case first =>
     go_region
     all_goals (
      go_wp2_with fail
      go_meet
      rfl)
    case rest =>
     subst hcut
     clear uWD uWE k1 k2
     replace R2 := R2.out
     replace XX := XX.out
     replace RR := RR.out
     obtain ⟨WF, sF, XF, hcF, hl⟩ := mac_end (macV 0) R2 RR (by kernel_rfl) (by kernel_rfl) XX (Nat.le_refl _)
     generalize hmv : (macV 0).cells = mv at *
     have HMV := Lib.hid hmv
     clear XX R2 RR hmv
     go_wp2_with fail
     have hcf := hcF.out
     refine bodyPost_ret (v := .tuple #[.agg mv, .string (mk (macS 0)), .bool true]) (results_mac rfl rfl rfl hcf) rfl ⟨by rw [← HMV.out]; rfl, XF.out⟩
   ·obtain ⟨WD, sWD, RWD, YWD, ZWD, QWD⟩ := put_next (w := w) (c := cMid) RM HB.out 3 18 (by omega) pOne (by kernel_rfl)
    have uWD : (putPart (.pointer (some ⟨W6.heap.size, 18, none⟩)) (.agg #[.int .i64 2, .int .i64 1, .int .i64 0, .int .i64 0, .int .i64 0, .slice none 0 0])).run Tryz.prog wc = .ok .skip WD := sWD
    clear sWD
    have kq : (takePart (.pointer (some ⟨W5.heap.size, 0, none⟩))).run Tryz.prog wc = .ok (.value (.agg #[.int .i64 2, .int .i64 1, .int .i64 0, .int .i64 0, .int .i64 0, .slice none 0 0])) wc := (PM).take
    have R2D := QWD _ _ N26' R2
    have XD := ZWD XX
    have RR : WD.heap[W6.heap.size]? = some (.cells (macV 1).cells 27 (0, 0)) := RWD
    clear RWD R2 XX RM PM N26' N66' YWD QWD ZWD
    have R2 := R2D
    have XX := XD
    clear R2D XD
    obtain ⟨WF, sF, XF, hcF, hl⟩ := mac_end (macV 1) R2 RR (by kernel_rfl) (by kernel_rfl) XX (Nat.le_refl _)
    generalize hmv : (macV 1).cells = mv at *
    have HMV := Lib.hid hmv
    clear XX R2 RR hmv
    go_wp2_with fail
    have hcf := hcF.out
    refine bodyPost_ret (v := .tuple #[.agg mv, .string (mk (macS 1)), .bool true]) (results_mac rfl rfl rfl hcf) rfl ⟨by rw [← HMV.out]; rfl, XF.out⟩
   ·obtain ⟨WD, sWD, RWD, YWD, ZWD, QWD⟩ := put_next (w := w) (c := cMid) RM HB.out 5 30 (by omega) pOne (by kernel_rfl)
    have uWD : (putPart (.pointer (some ⟨W6.heap.size, 30, none⟩)) (.agg #[.int .i64 2, .int .i64 1, .int .i64 0, .int .i64 0, .int .i64 0, .slice none 0 0])).run Tryz.prog wc = .ok .skip WD := sWD
    clear sWD
    have kq : (takePart (.pointer (some ⟨W5.heap.size, 0, none⟩))).run Tryz.prog wc = .ok (.value (.agg #[.int .i64 2, .int .i64 1, .int .i64 0, .int .i64 0, .int .i64 0, .slice none 0 0])) wc := (PM).take
    have R2D := QWD _ _ N26' R2
    have XD := ZWD XX
    have RR : WD.heap[W6.heap.size]? = some (.cells (macV 2).cells 27 (0, 0)) := RWD
    clear RWD R2 XX RM PM N26' N66' YWD QWD ZWD
    have R2 := R2D
    have XX := XD
    clear R2D XD
    obtain ⟨WF, sF, XF, hcF, hl⟩ := mac_end (macV 2) R2 RR (by kernel_rfl) (by kernel_rfl) XX (Nat.le_refl _)
    generalize hmv : (macV 2).cells = mv at *
    have HMV := Lib.hid hmv
    clear XX R2 RR hmv
    go_wp2_with fail
    have hcf := hcF.out
    refine bodyPost_ret (v := .tuple #[.agg mv, .string (mk (macS 2)), .bool true]) (results_mac rfl rfl rfl hcf) rfl ⟨by rw [← HMV.out]; rfl, XF.out⟩
   ·have RR : wc.heap[W6.heap.size]? = some (.cells (macV 3).cells 27 (0, 0)) := RM
    clear RM PM N26' N66'
    obtain ⟨WF, sF, XF, hcF, hl⟩ := mac_end (macV 3) R2 RR (by kernel_rfl) (by kernel_rfl) XX (Nat.le_refl _)
    generalize hmv : (macV 3).cells = mv at *
    have HMV := Lib.hid hmv
    clear XX R2 RR hmv
    go_wp2_with fail
    have hcf := hcF.out
    refine bodyPost_ret (v := .tuple #[.agg mv, .string (mk (macS 3)), .bool true]) (results_mac rfl rfl rfl hcf) rfl ⟨by rw [← HMV.out]; rfl, XF.out⟩
   ·obtain ⟨WD, sWD, RWD, YWD, ZWD, QWD⟩ := put_next (w := w) (c := cMid) RM HB.out 2 12 (by omega) pNone (by kernel_rfl)
    have uWD : (putPart (.pointer (some ⟨W6.heap.size, 12, none⟩)) (.agg #[.int .i64 0, .int .i64 0, .int .i64 0, .int .i64 0, .int .i64 0, .slice none 0 0])).run Tryz.prog wc = .ok .skip WD := sWD
    clear sWD
    have R2D := QWD _ _ N26' R2
    have XD := ZWD XX
    have RR : WD.heap[W6.heap.size]? = some (.cells (macV 4).cells 27 (0, 0)) := RWD
    clear RWD R2 XX RM PM N26' N66' YWD QWD ZWD
    have R2 := R2D
    have XX := XD
    clear R2D XD
    obtain ⟨WF, sF, XF, hcF, hl⟩ := mac_end (macV 4) R2 RR (by kernel_rfl) (by kernel_rfl) XX (Nat.le_refl _)
    generalize hmv : (macV 4).cells = mv at *
    have HMV := Lib.hid hmv
    clear XX R2 RR hmv
    go_wp2_with fail
    have hcf := hcF.out
    refine bodyPost_ret (v := .tuple #[.agg mv, .string (mk (macS 4)), .bool true]) (results_mac rfl rfl rfl hcf) rfl ⟨by rw [← HMV.out]; rfl, XF.out⟩
  ·have b0 : (n == 0) = false := by simp; omega
   have b1 : (n == 1) = false := by simp; omega
   have b2 : (n == 2) = false := by simp; omega
   have b3 : (n == 3) = false := by simp; omega
   have b4 : (n == 4) = false := by simp; omega
   have e1 : macV n = cNone := by
    unfold macV; rw [if_neg (by omega), if_neg (by omega), if_neg (by omega), if_neg (by omega), if_neg (by omega)]
   have e2 : macS n = [] := by
    unfold macS; rw [if_neg (by omega), if_neg (by omega), if_neg (by omega), if_neg (by omega), if_neg (by omega)]
   have e3 : macB n = false := by unfold macB; simp; omega
   have E := Lib.hid (And.intro e1 (And.intro e2 e3))
   obtain ⟨WF, sF, XF, hcF, _⟩ := mac_end (B := w.heap.size) cNone R2 R2 (by kernel_rfl) (by kernel_rfl) XX (Nat.le_refl _)
   have sG : (putCron (.pointer (some ⟨w.heap.size, 0, none⟩)) (.agg #[.int .i64 0, .int .i64 0, .int .i64 0, .int .i64 0, .int .i64 0, .slice none 0 0, .int .i64 0, .int .i64 0, .int .i64 0, .int .i64 0, .int .i64 0, .slice none 0 0, .int .i64 0, .int .i64 0, .int .i64 0, .int .i64 0, .int .i64 0, .slice none 0 0, .int .i64 0, .int .i64 0, .int .i64 0, .int .i64 0, .int .i64 0, .slice none 0 0, .int .i64 0, .int .i64 0, .int .i64 0, .int .i64 0, .int .i64 0, .slice none 0 0, .int .i64 0, .int .i64 0, .int .i64 0, .int .i64 0, .int .i64 0, .slice none 0 0, .int .i64 0, .int .i64 0, .int .i64 0, .int .i64 0, .int .i64 0, .slice none 0 0, .bool false])).run Tryz.prog wc = .ok .skip WF := sF
   generalize hmv : cNone.cells = mv at *
   have HMV := Lib.hid hmv
   clear XX R2 RM PM N26' N66' hmv sF hn e1 e2 e3
   go_wp2_with fail
   have hcf := hcF.out
   refine bodyPost_ret (v := .tuple #[.agg mv, .string (mk []), .bool false]) (results_mac rfl rfl rfl hcf) rfl ⟨by rw [E.out.1, E.out.2.1, E.out.2.2, ← HMV.out], XF.out⟩
end Go.Proofs.YtmaffdhcmdhjfaaGreatDoor
namespace Go.Proofs.YtmaffdhcmdhjfaaGreatDoor
open Go.RowKit Go.Lib
attribute [local go_sem ↓] execOp_loadCron execOp_putCron
theorem mac_cases {n : Int} (h : macB n = true) : n = 0 ∨ n = 1 ∨ n = 2 ∨ n = 3 ∨ n = 4 := by
 unfold macB at h; simp at h; omega
theorem mac_text {n : Int} (h : macB n = true) : implO (macS n) = some (macV n).fieldsL ∧ exprO (macS n) = some (macV n).fieldsL ∧ isTextB (macS n) = true ∧ (macS n).length ≤ 10 := by
 rcases mac_cases h with rfl | rfl | rfl | rfl | rfl
 all_goals exact ⟨by kernel_rfl, by kernel_rfl, by kernel_rfl, by decide⟩
theorem mac_missed {n : Int} (h : macB n = true) (sec : Int) : (macV n).missedB sec = false := by
 unfold CronV.missedB
 generalize (Cal.civil (sec / 86400)).1 = y
 generalize (Cal.civil (sec / 86400)).2.1 = m
 generalize (Cal.civil (sec / 86400)).2.2 = d
 rcases mac_cases h with rfl | rfl | rfl | rfl | rfl
 all_goals rfl
def Bare (q : PartV) : Prop := q.items = [] ∧ PartIn q
theorem with_in {c : CronV} {j : Nat} {p : PartV} (hc : ∀ i, Bare (c.p i)) (hp : Bare p) : ∀ i, Bare ((withP c j p).p i) := by
 intro i
 show Bare (if i = j then p else c.p i)
 split
 ·exact hp
 ·exact hc i
theorem mac_in {n : Int} (h : macB n = true) : CronIn (macV n) ∧ ∀ W, CronItems W (macV n) := by
 have key : ∀ j, Bare ((macV n).p j) := by
  have b0 : Bare pNone := ⟨rfl, by decide, by decide, by decide, by decide, fun x hx => by simp [pNone] at hx⟩
  have b1 : Bare pZero := ⟨rfl, by decide, by decide, by decide, by decide, fun x hx => by simp [pZero] at hx⟩
  have b2 : Bare pOne := ⟨rfl, by decide, by decide, by decide, by decide, fun x hx => by simp [pOne] at hx⟩
  have s : ∀ i, Bare (cSix.p i) := fun _ => b0
  have m : ∀ i, Bare (cMid.p i) := with_in (with_in (with_in s b1) b1) b1
  rcases mac_cases h with rfl | rfl | rfl | rfl | rfl
  ·exact with_in (with_in m b2) b2
  ·exact with_in m b2
  ·exact with_in m b2
  ·exact m
  ·exact with_in m b0
 exact ⟨⟨fun j _ => (key j).2⟩, fun W j _ hne => absurd (key j).1 hne⟩
theorem mac_set {n : Int} (h : macB n = true) : (macV n).cells.all (·.oneCell') = true ∧ setMany cNone.cells 0 (macV n).cells.toList = (macV n).cells := by
 rcases mac_cases h with rfl | rfl | rfl | rfl | rfl
 all_goals exact ⟨by kernel_rfl, by kernel_rfl⟩
set_option maxHeartbeats 6400000 in
set_option maxRecDepth 1000000 in
theorem law_macros (k n prev : Int) (w : World) (hE : EnvN w) :
 Calls Tryz.prog 9 #[.int .i64 k, .int .i64 n, .int .i64 prev] w fun e w' => e = .returned (.bool true) ∧ Ext w w' := by
 have HE := Lib.hid hE
 clear hE
 go_enter Tryz.func9, Tryz.ntmps9
 go_wp2_with fail
 go_at_call 32
 refine (macro_any k _).mono ?_
 rintro e w1 ⟨rfl, x1⟩
 have X1 := Lib.hid x1
 clear x1
 rcases hk : macB k
 ·have hp : ∃ W2, (putCron (.pointer (some ⟨w1.heap.size, 0, none⟩)) (.agg (macV k).cells)).run Tryz.prog (w1.alloc (.cells cNone.cells 27)) = .ok .skip W2 ∧ Ext w1 W2 := by
   have e1 : macV k = cNone := by
    have hb : ¬ (0 ≤ k ∧ k ≤ 4) := by
     intro hx
     unfold macB at hk
     simp [hx] at hk
    unfold macV; rw [if_neg (by omega), if_neg (by omega), if_neg (by omega), if_neg (by omega), if_neg (by omega)]
   rw [e1]
   obtain ⟨W2, h2⟩ : ∃ W, W = (w1.alloc (.cells cNone.cells 27)).setCells w1.heap.size 0 cNone.cells.toList := ⟨_, rfl⟩
   obtain ⟨s2, _⟩ := put_cron (d := cNone) (heap_alloc_new w1 (.cells cNone.cells 27)) cNone (by kernel_rfl) (by kernel_rfl) h2
   exact ⟨W2, s2, by rw [h2]; exact cells_below (Nat.le_refl _) _ _ _ (Ext.alloc _ _)⟩
  obtain ⟨W2, s2, x2⟩ := hp
  have X2 := Lib.hid (X1.out.trans x2)
  have s3 : (putCron (.pointer (some ⟨w1.heap.size, 0, none⟩)) (.agg (macV k).cells)).run Tryz.prog (w1.alloc (.cells #[.int .i64 0, .int .i64 0, .int .i64 0, .int .i64 0, .int .i64 0, .slice none 0 0, .int .i64 0, .int .i64 0, .int .i64 0, .int .i64 0, .int .i64 0, .slice none 0 0, .int .i64 0, .int .i64 0, .int .i64 0, .int .i64 0, .int .i64 0, .slice none 0 0, .int .i64 0, .int .i64 0, .int .i64 0, .int .i64 0, .int .i64 0, .slice none 0 0, .int .i64 0, .int .i64 0, .int .i64 0, .int .i64 0, .int .i64 0, .slice none 0 0, .int .i64 0, .int .i64 0, .int .i64 0, .int .i64 0, .int .i64 0, .slice none 0 0, .int .i64 0, .int .i64 0, .int .i64 0, .int .i64 0, .int .i64 0, .slice none 0 0, .bool false] 27)) = .ok .skip W2 := s2
  generalize (macV k).cells = mv at *
  generalize mk (macS k) = tx at *
  clear hk x2 s2
  go_wp2_with fail
  go_ret
  exact ⟨rfl, X2.out⟩
 ·obtain ⟨h1, hc⟩ := mac_set hk
  obtain ⟨hO, hI⟩ := mac_in hk
  obtain ⟨f1, f2, f3, f4⟩ := mac_text hk
  have hmiss := mac_missed hk (secAt n prev)
  obtain ⟨W2, h2⟩ : ∃ W, W = (w1.alloc (.cells cNone.cells 27)).setCells w1.heap.size 0 (macV k).cells.toList := ⟨_, rfl⟩
  obtain ⟨s2, R2⟩ := put_cron (d := cNone) (heap_alloc_new w1 (.cells cNone.cells 27)) (macV k) h1 hc h2
  have x2 : Ext w1 W2 := by rw [h2]; exact cells_below (Nat.le_refl _) _ _ _ (Ext.alloc _ _)
  have s3 : (putCron (.pointer (some ⟨w1.heap.size, 0, none⟩)) (.agg (macV k).cells)).run Tryz.prog (w1.alloc (.cells #[.int .i64 0, .int .i64 0, .int .i64 0, .int .i64 0, .int .i64 0, .slice none 0 0, .int .i64 0, .int .i64 0, .int .i64 0, .int .i64 0, .int .i64 0, .slice none 0 0, .int .i64 0, .int .i64 0, .int .i64 0, .int .i64 0, .int .i64 0, .slice none 0 0, .int .i64 0, .int .i64 0, .int .i64 0, .int .i64 0, .int .i64 0, .slice none 0 0, .int .i64 0, .int .i64 0, .int .i64 0, .int .i64 0, .int .i64 0, .slice none 0 0, .int .i64 0, .int .i64 0, .int .i64 0, .int .i64 0, .int .i64 0, .slice none 0 0, .int .i64 0, .int .i64 0, .int .i64 0, .int .i64 0, .int .i64 0, .slice none 0 0, .bool false] 27)) = .ok .skip W2 := s2
  have X2 := Lib.hid (X1.out.trans x2)
  have HLD : Hid (∀ W, Ext W2 W → ((loadCron (.pointer (some ⟨w1.heap.size, 0, none⟩))).run Tryz.prog W = .ok (.value (.agg (macV k).cells)) W)) := fun W x => by
   have R3 := (Below.block x _ (block_lt R2)).trans R2
   have h27 := run_loadVar_row (P := Tryz.prog) W w1.heap.size 27 27 (macV k).cells (0, 0) _ R3 Tryz.underlying27 rfl info27
   unfold loadCron
   simp only [Instr.loadAt, Instr.sureAddr, Sem.run_bind, Sem.run_pure, Result.andThen_ok, h27]
  have HAK : Hid (∀ W, Ext w W → Calls Tryz.prog 22 #[.agg (macV k).cells, .int .i64 n, .int .i64 prev] W fun e w' => e = .returned (.bool (askedB (macV k) n prev)) ∧ Ext W w') := fun W x => asked_any (macV k) hO n prev W (hI W) (HE.out.ext x).env
  have hld := HLD.out _ (Ext.refl _)
  clear hk h1 hc h2 s2 R2 x2
  have htl : askedB (macV k) n prev = true → AskedIs (macV k) n prev := asked_is
  have HV : Hid (∀ W, Ext w W → Calls Tryz.prog 17 #[.string (mk (macS k))] W fun e w' => e = .returned (.bool true) ∧ Ext W w') := fun W x => by
   have := impl_valid (mk (macS k)) W (by rw [size_mk]; omega) (HE.out.ext x).env
   rw [bytes_mk, f3, f2] at this
   exact this
  have HNT : Hid (askedB (macV k) n prev = true → ∀ W, Ext w W → Calls Tryz.prog 28 #[.string (mk (macS k)), .int .i64 n, .int .i64 prev] W fun e w' => e = .returned (.tuple #[.int .i64 (nextC (macV k).cfgM n prev).1, .int .i64 (nextC (macV k).cfgM n prev).2]) ∧ Ext W w') := fun ha W x => by
   have hA := htl ha
   have ht := taken_law hA.right
   rw [hA.taken] at ht
   exact impl_Next (mk (macS k)) n prev (macV k).fieldsL W (by rw [size_mk]; omega) hA.n0 hA.n1 (by rw [bytes_mk]; exact f1) ht (cfgM_ok hA.asks) (HE.out.ext x)
  have HIN : Hid (askedB (macV k) n prev = true → ∀ W, Ext w W → Calls Tryz.prog 26 #[.agg (macV k).cells, .int .i64 n, .int .i64 prev] W fun e w' => InstPost (macV k) n prev e ∧ Ext W w') := fun ha W x => by
   have hA := htl ha
   exact sp_nextinstant (macV k) hA.right n prev hA.n0 hA.n1 hA.p0 hA.p1 W (hI W)
  have HLAW : Hid (askedB (macV k) n prev = true → ∀ t, NextPost (macV k) (secAt n prev) t true → nextC (macV k).cfgM n prev = ((t - n * 60) * 1000000000, 0)) := fun ha =>
   (next_law (htl ha).asks (htl ha).range hmiss).1
  clear hO hI f1 f2 f3 f4 hmiss htl
  generalize nextC (macV k).cfgM n prev = NX at *
  generalize hmc : macV k = mc at *
  generalize mk (macS k) = tx at *
  go_wp2_with fail
  go_at_call 22
  refine (HAK.out _ X2.out).mono ?_
  rintro e w3 ⟨rfl, x3⟩
  have X3 := Lib.hid (X2.out.trans x3)
  have Y3 := Lib.hid x3
  clear x3 hld s3
  rcases ha : askedB mc n prev
  ·go_wp2_with fail
   go_ret
   exact ⟨rfl, X3.out⟩
  ·have hIN := HIN.out ha
   have hNT := HNT.out ha
   have hLW := HLAW.out ha
   have HIN2 := Lib.hid hIN
   have HNT2 := Lib.hid hNT
   have HLW2 := Lib.hid hLW
   clear ha hIN hNT hLW HIN HNT HLAW HAK
   have hld := HLD.out _ Y3.out
   go_wp2_with fail
   go_at_call 26
   refine (HIN2.out _ X3.out).mono ?_
   rintro e w4 ⟨⟨t, hp, rfl⟩ | ⟨hp, rfl⟩, x4⟩
   ·have X4 := Lib.hid (X3.out.trans x4)
    have HNX := Lib.hid (HLW2.out t hp)
    clear x4 hp hld
    generalize (t - n * 60) * 1000000000 = Q at *
    go_wp2_with fail
    go_at_call 28
    refine (HNT2.out _ X4.out).mono ?_
    rintro e w5 ⟨rfl, x5⟩
    have X5 := Lib.hid (X4.out.trans x5)
    clear x5
    rw [HNX.out]
    go_wp2_with fail
    go_at_call 17
    refine (HV.out _ X5.out).mono ?_
    rintro e w6 ⟨rfl, x6⟩
    have X6 := Lib.hid (X5.out.trans x6)
    clear x6
    go_wp2_with fail
    go_ret
    exact ⟨by first | rfl | simp, X6.out⟩
   ·have X4 := Lib.hid (X3.out.trans x4)
    clear x4 hp hld
    go_wp2_with fail
    go_at_call 28
    refine (HNT2.out _ X4.out).mono ?_
    rintro e w5 ⟨rfl, x5⟩
    have X5 := Lib.hid (X4.out.trans x5)
    clear x5
    go_wp2_with fail
    go_ret
    exact ⟨rfl, X5.out⟩
end Go.Proofs.YtmaffdhcmdhjfaaGreatDoor
namespace Go.Proofs.YtmaffdhcmdhjfaaGreatDoor.FnMacros
open Go.ChangeShapes Go.WideShapes Go.ChangeAt Go.RowKit
set_option linter.unusedVariables false
theorem door_met (os : Os) (args : Array Value) : laidMetH Tryz.prog laid8 ((World.doorLaid Tryz.prog 119 os).forCall (fun _ _ => 0) ⟨#[], args, []⟩).memory :=
 laidMetH_of_parts3 (fuel := 8) (laidMet_of_run' 8 (by kernel_rfl) (by kernel_rfl)) (by kernel_rfl) (by kernel_rfl)
set_option maxRecDepth 1000000 in
theorem lifted (os : Os) (started : os.Started) (H : Type) (enc : TypeId × Value → H) :
 ReturnsInHanded {} Tryz.checked os 9 .any (fun w args => (Rows.fnMacrosSpec.pre enc Tryz.prog Tryz.f9 [] false w args ∧ laidMetH Tryz.prog laid8 w) ∧ sizedMet enc Tryz.prog Tryz.f9 (OpenSpec.ofChange Rows.fnMacrosSpec) false w args)
  (Rows.fnMacrosSpec.post enc Tryz.prog Tryz.f9 false true false false) := by
 refine returnsInHanded_of_change_and (C := Tryz.checked) (X := fun w _ => laidMetH Tryz.prog laid8 w) (fun _ _ _ hh h => h.of_heap hh) own started (by kernel_rfl) Tryz.func9
  (ChangeSpec.witness_shaped (enc := enc) (C := Tryz.checked) (os := os) (X := fun w _ => laidMetH Tryz.prog laid8 w) false (World.doorLaid Tryz.prog 119 os) #[.int .i64 0, .int .i64 0, .int .i64 0] 16 rfl (World.shaped_of_RefB (by kernel_rfl) (by kernel_rfl)) (by kernel_rfl) (by kernel_rfl) (by kernel_rfl) (door_met os _)) ?_
 intro W base args ds gs0 before hval0 hW _ _ hL _
 have hval : ∀ (j : Nat) t v, Tryz.f9.params[j]? = some t → args[j]? = some v → Value.okWide Tryz.prog W .any base t v := hval0
 have hW' := hW
 obtain ⟨p, q, hA0, hV0, rfl, hfz, hnd⟩ := hW
 have hA : DataW.TrodAll enc Tryz.prog W 0 (fun _ => true) true Tryz.f9.params.toList args.toList ds p := hA0
 rw [Tryz.params9] at hA hval
 obtain ⟨v0, vs0, d0, ds0, p0, q0, hargs, rfl, rfl, h0, r0⟩ := trodAll_cons hA
 obtain ⟨v1, vs1, d1, ds1, p1, q1, rfl, rfl, rfl, h1, r1⟩ := trodAll_cons r0
 obtain ⟨v2, vs2, d2, ds2, p2, q2, rfl, rfl, rfl, h2, r2⟩ := trodAll_cons r1
 obtain ⟨rfl, rfl, rfl⟩ := trodAll_nil r2
 obtain rfl : args = #[v0, v1, v2] := by cases args; simp_all
 obtain ⟨k, rfl, rfl, rfl, w0⟩ := open_int Tryz.underlying3 (hval 0 3 v0 rfl rfl) h0
 obtain ⟨n, rfl, rfl, rfl, w1⟩ := open_int Tryz.underlying3 (hval 1 3 v1 rfl rfl) h1
 obtain ⟨prev, rfl, rfl, rfl, w2⟩ := open_int Tryz.underlying2 (hval 2 2 v2 rfl rfl) h2
 have hg : gs0.length = 3 := vars_len _ _ _ hV0
 have hE : EnvN W := ⟨(env_of8 hL).1, (env_of8 hL).2⟩
 refine (law_macros k n prev W hE).mono fun e W' ⟨he, hb⟩ => ?_
 subst he
 refine ⟨_, rfl, law_post hW' hb (by kernel_rfl) (by kernel_rfl) (by kernel_rfl) ?_⟩
 match gs0, hg with
 | [g1, g2, g3], _ => rfl
theorem over : Rows.FnMacrosSaid :=
 OpenClaim.holds_of_wide 9 Tryz.f9 rfl rfl rfl rfl rfl rfl rfl ⟨rfl, rfl, rfl, rfl, rfl⟩ rfl rfl rfl rfl rfl (by kernel_rfl) Tryz.func9 (by kernel_rfl)
  (of_decide_eq_true (by kernel_rfl)) (by unfold Func.isWrapper; first | (rw [if_pos (by decide +kernel)]; kernel_rfl) | (rw [if_neg (by decide +kernel)]; exact ⟨rfl, rfl⟩))
  (fun os started H enc _ => lifted os started H enc)
theorem card : Rows.FnMacrosCardSaid :=
 Claim7.holds_tied_plain_at .later [] [.data, .data, .data, .sentinel, .sentinel, .sentinel, .sentinel, .sentinel] true (true, "ab0e5451898ba7af3fddb4ece5cff62e140668e4d854a8b8f5ee08cd0b170de1") true
  over (fun _ h => by cases h) (by kernel_rfl) (fun _ h => by cases h) fnMacros_row_tie rfl ⟨rfl, rfl⟩ (by kernel_rfl) rfl
  (fun f fn hf hfn => by
    obtain rfl : f = 9 := Option.some.inj ((show Tryz.prog.funcNamed "loop.example/pub-g03356/laws.FnMacros" = some 9 by kernel_rfl).symm.trans hf) |>.symm
    obtain rfl : fn = Tryz.f9 := (Option.some.inj (Tryz.func9.symm.trans hfn)).symm
    exact ⟨by kernel_rfl, fun j t ht => by
     rw [Tryz.params9] at ht
     have hm : t ∈ [3, 3, 2] := by simpa using Array.mem_of_getElem? ht
     have hall : ([3, 3, 2].all fun u => !Tryz.prog.wantsStandIn u) = true := by kernel_rfl
     exact (show Tryz.prog.wantsStandIn t = false by simpa using List.all_eq_true.1 hall t hm)⟩)
  (by kernel_rfl)
#print axioms card
end Go.Proofs.YtmaffdhcmdhjfaaGreatDoor.FnMacros
