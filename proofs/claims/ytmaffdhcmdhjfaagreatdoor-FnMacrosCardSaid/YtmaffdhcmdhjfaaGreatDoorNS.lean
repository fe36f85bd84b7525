/- The machine of package csm in memory: seven blocks. The machine's making: ZZCivil, NewCommonNode, NewMonthDayNode, NewWeekDayNode, NewCronStateMachine. The machine's making: NewMonthDayNode, NewWeekDayNode. The machine, plain: forward keeps a state sane. The machine, plain: forward keeps a state sane, and its times. The machine, plain: forward keeps the times within their bounds. The machine's making: newCSMFromFields. -/
import Derived.Test.YtmaffdhcmdhjfaaGreatDoorNR
import Derived.StillTailTactics
set_option linter.unusedSimpArgs false
set_option linter.unusedVariables false
namespace Go.Proofs.YtmaffdhcmdhjfaaGreatDoor
open Go.RowKit Go.Lib
structure MQ (P : MacIs) (c : Csm.Cfg) (W0 : World) (st : Csm.St) (W : World) : Prop where
 x : Ext W0 W
 s : W.heap[P.s]? = some (.cells #[.int .i64 st.s, .int .i64 0, .int .i64 59, .slice P.lS.a c.S.length P.lS.c] 173 (0, 0))
 mi : W.heap[P.mi]? = some (.cells #[.int .i64 st.mi, .int .i64 0, .int .i64 59, .slice P.lMi.a c.Mi.length P.lMi.c] 173 (0, 0))
 h : W.heap[P.h]? = some (.cells #[.int .i64 st.h, .int .i64 0, .int .i64 59, .slice P.lH.a c.H.length P.lH.c] 173 (0, 0))
 m : W.heap[P.p.M]? = some (.cells #[.int .i64 st.m, .int .i64 1, .int .i64 12, .slice P.lM.a P.lM.l.length P.lM.c] 173 (0, 0))
 y : W.heap[P.p.Y]? = some (.cells #[.int .i64 st.y, .int .i64 0, .int .i64 999999, .slice P.lY.a P.lY.l.length P.lY.c] 173 (0, 0))
 d : W.heap[P.p.B]? = some (.cells #[.int .i64 st.d, .int .i64 1, .int .i64 31, .slice P.p.aD P.p.D.length P.p.cD, .slice P.p.aW P.p.W.length P.p.cW, .int .i64 P.p.n, .iface 146 (.pointer (some ⟨P.p.M, 0, none⟩)), .iface 146 (.pointer (some ⟨P.p.Y, 0, none⟩))] 177 (0, 0))
 b : W.heap[P.B]? = some (.cells #[.iface 146 (.pointer (some ⟨P.s, 0, none⟩)), .iface 146 (.pointer (some ⟨P.mi, 0, none⟩)), .iface 146 (.pointer (some ⟨P.h, 0, none⟩)), .pointer (some ⟨P.p.B, 0, none⟩), .iface 146 (.pointer (some ⟨P.p.M, 0, none⟩)), .iface 146 (.pointer (some ⟨P.p.Y, 0, none⟩))] 179 (0, 0))
structure MOk (P : MacIs) (c : Csm.Cfg) (W0 : World) : Prop where
 gs : W0.heap.size ≤ P.s
 gmi : W0.heap.size ≤ P.mi
 gh : W0.heap.size ≤ P.h
 gm : W0.heap.size ≤ P.p.M
 gy : W0.heap.size ≤ P.p.Y
 gd : W0.heap.size ≤ P.p.B
 gb : W0.heap.size ≤ P.B
 nsmi : P.s ≠ P.mi
 nsh : P.s ≠ P.h
 nsm : P.s ≠ P.p.M
 nsy : P.s ≠ P.p.Y
 nsd : P.s ≠ P.p.B
 nsb : P.s ≠ P.B
 nmih : P.mi ≠ P.h
 nmim : P.mi ≠ P.p.M
 nmiy : P.mi ≠ P.p.Y
 nmid : P.mi ≠ P.p.B
 nmib : P.mi ≠ P.B
 nhm : P.h ≠ P.p.M
 nhy : P.h ≠ P.p.Y
 nhd : P.h ≠ P.p.B
 nhb : P.h ≠ P.B
 nmy : P.p.M ≠ P.p.Y
 nmd : P.p.M ≠ P.p.B
 nmb : P.p.M ≠ P.B
 nyd : P.p.Y ≠ P.p.B
 nyb : P.p.Y ≠ P.B
 ndb : P.p.B ≠ P.B
 lS : ListAt W0 P.lS.a c.S
 lMi : ListAt W0 P.lMi.a c.Mi
 lH : ListAt W0 P.lH.a c.H
 lM : ListAt W0 P.lM.a P.lM.l
 lY : ListAt W0 P.lY.a P.lY.l
 lD : ListAt W0 P.p.aD P.p.D
 lW : ListAt W0 P.p.aW P.p.W
 len : c.S.length ≤ 100000000 ∧ c.Mi.length ≤ 100000000 ∧ c.H.length ≤ 100000000 ∧ P.lM.l.length ≤ 100000000 ∧ P.lY.l.length ≤ 100000000 ∧ P.p.D.length ≤ 100000000 ∧ P.p.W.length ≤ 100000000
 lk : Link P.p P.lM.l P.lY.l c
 good : Csm.Good c
theorem MQ.ext {P : MacIs} {c : Csm.Cfg} {W0 : World} {st : Csm.St} {W W' : World} (h : MQ P c W0 st W) (x : Ext W W') : MQ P c W0 st W' :=
 ⟨h.x.trans x, (Below.block x _ (block_lt h.s)).trans h.s, (Below.block x _ (block_lt h.mi)).trans h.mi, (Below.block x _ (block_lt h.h)).trans h.h, (Below.block x _ (block_lt h.m)).trans h.m, (Below.block x _ (block_lt h.y)).trans h.y, (Below.block x _ (block_lt h.d)).trans h.d, (Below.block x _ (block_lt h.b)).trans h.b⟩
theorem MQ.set_s {P : MacIs} {c : Csm.Cfg} {W0 : World} (o : MOk P c W0) {st : Csm.St} {W : World} (h : MQ P c W0 st W) (v : Int) : MQ P c W0 { st with s := v } (W.setCell ⟨P.s, 0, none⟩ (.int .i64 v)) :=
 ⟨h.x.set o.gs 0 _, by rw [Joins.block_setCell h.s]; rfl, by rw [Below.heap_setCell W _ _ _ ((o.nsmi).symm)]; exact h.mi, by rw [Below.heap_setCell W _ _ _ ((o.nsh).symm)]; exact h.h, by rw [Below.heap_setCell W _ _ _ ((o.nsm).symm)]; exact h.m, by rw [Below.heap_setCell W _ _ _ ((o.nsy).symm)]; exact h.y, by rw [Below.heap_setCell W _ _ _ ((o.nsd).symm)]; exact h.d, by rw [Below.heap_setCell W _ _ _ ((o.nsb).symm)]; exact h.b⟩
theorem MQ.set_mi {P : MacIs} {c : Csm.Cfg} {W0 : World} (o : MOk P c W0) {st : Csm.St} {W : World} (h : MQ P c W0 st W) (v : Int) : MQ P c W0 { st with mi := v } (W.setCell ⟨P.mi, 0, none⟩ (.int .i64 v)) :=
 ⟨h.x.set o.gmi 0 _, by rw [Below.heap_setCell W _ _ _ (o.nsmi)]; exact h.s, by rw [Joins.block_setCell h.mi]; rfl, by rw [Below.heap_setCell W _ _ _ ((o.nmih).symm)]; exact h.h, by rw [Below.heap_setCell W _ _ _ ((o.nmim).symm)]; exact h.m, by rw [Below.heap_setCell W _ _ _ ((o.nmiy).symm)]; exact h.y, by rw [Below.heap_setCell W _ _ _ ((o.nmid).symm)]; exact h.d, by rw [Below.heap_setCell W _ _ _ ((o.nmib).symm)]; exact h.b⟩
theorem MQ.set_h {P : MacIs} {c : Csm.Cfg} {W0 : World} (o : MOk P c W0) {st : Csm.St} {W : World} (h : MQ P c W0 st W) (v : Int) : MQ P c W0 { st with h := v } (W.setCell ⟨P.h, 0, none⟩ (.int .i64 v)) :=
 ⟨h.x.set o.gh 0 _, by rw [Below.heap_setCell W _ _ _ (o.nsh)]; exact h.s, by rw [Below.heap_setCell W _ _ _ (o.nmih)]; exact h.mi, by rw [Joins.block_setCell h.h]; rfl, by rw [Below.heap_setCell W _ _ _ ((o.nhm).symm)]; exact h.m, by rw [Below.heap_setCell W _ _ _ ((o.nhy).symm)]; exact h.y, by rw [Below.heap_setCell W _ _ _ ((o.nhd).symm)]; exact h.d, by rw [Below.heap_setCell W _ _ _ ((o.nhb).symm)]; exact h.b⟩
theorem MQ.set_m {P : MacIs} {c : Csm.Cfg} {W0 : World} (o : MOk P c W0) {st : Csm.St} {W : World} (h : MQ P c W0 st W) (v : Int) : MQ P c W0 { st with m := v } (W.setCell ⟨P.p.M, 0, none⟩ (.int .i64 v)) :=
 ⟨h.x.set o.gm 0 _, by rw [Below.heap_setCell W _ _ _ (o.nsm)]; exact h.s, by rw [Below.heap_setCell W _ _ _ (o.nmim)]; exact h.mi, by rw [Below.heap_setCell W _ _ _ (o.nhm)]; exact h.h, by rw [Joins.block_setCell h.m]; rfl, by rw [Below.heap_setCell W _ _ _ ((o.nmy).symm)]; exact h.y, by rw [Below.heap_setCell W _ _ _ ((o.nmd).symm)]; exact h.d, by rw [Below.heap_setCell W _ _ _ ((o.nmb).symm)]; exact h.b⟩
theorem MQ.set_y {P : MacIs} {c : Csm.Cfg} {W0 : World} (o : MOk P c W0) {st : Csm.St} {W : World} (h : MQ P c W0 st W) (v : Int) : MQ P c W0 { st with y := v } (W.setCell ⟨P.p.Y, 0, none⟩ (.int .i64 v)) :=
 ⟨h.x.set o.gy 0 _, by rw [Below.heap_setCell W _ _ _ (o.nsy)]; exact h.s, by rw [Below.heap_setCell W _ _ _ (o.nmiy)]; exact h.mi, by rw [Below.heap_setCell W _ _ _ (o.nhy)]; exact h.h, by rw [Below.heap_setCell W _ _ _ (o.nmy)]; exact h.m, by rw [Joins.block_setCell h.y]; rfl, by rw [Below.heap_setCell W _ _ _ ((o.nyd).symm)]; exact h.d, by rw [Below.heap_setCell W _ _ _ ((o.nyb).symm)]; exact h.b⟩
theorem MQ.set_d {P : MacIs} {c : Csm.Cfg} {W0 : World} (o : MOk P c W0) {st : Csm.St} {W : World} (h : MQ P c W0 st W) (v : Int) : MQ P c W0 { st with d := v } (W.setCell ⟨P.p.B, 0, none⟩ (.int .i64 v)) :=
 ⟨h.x.set o.gd 0 _, by rw [Below.heap_setCell W _ _ _ (o.nsd)]; exact h.s, by rw [Below.heap_setCell W _ _ _ (o.nmid)]; exact h.mi, by rw [Below.heap_setCell W _ _ _ (o.nhd)]; exact h.h, by rw [Below.heap_setCell W _ _ _ (o.nmd)]; exact h.m, by rw [Below.heap_setCell W _ _ _ (o.nyd)]; exact h.y, by rw [Joins.block_setCell h.d]; rfl, by rw [Below.heap_setCell W _ _ _ ((o.ndb).symm)]; exact h.b⟩
theorem mac_s {P : MacIs} {c : Csm.Cfg} {W0 : World} (o : MOk P c W0) : MacS P c (MQ P c W0) := by
 obtain ⟨l1, l2, l3, l4, l5, l6, l7⟩ := o.len
 refine ⟨fun st W h => ⟨Joins.cell_of_block h.b 0, Joins.cell_of_block h.b 1, Joins.cell_of_block h.b 2, Joins.cell_of_block h.b 3, Joins.cell_of_block h.b 4, Joins.cell_of_block h.b 5⟩, fun st W W' h x => h.ext x, fun hh mi s => ?_, fun st => ?_, fun st => ?_, fun st => ?_, o.lk, o.good⟩
 ·refine ⟨fun y m d W h => ⟨Joins.cell_of_block h.d 4, Joins.cell_of_block h.d 5, Joins.cell_of_block h.d 6, Joins.cell_of_block h.d 7, Joins.cell_of_block h.d 0, Joins.cell_of_block h.m 0, Joins.cell_of_block h.y 0, Joins.cell_of_block h.d 3, o.lD.ext h.x, o.lW.ext h.x, Joins.unfrozen_of_block h.d 0⟩, fun y m d W W' h x => h.ext x, fun y m => ?_, fun y d => ?_, fun m d => ?_, l7⟩
  ·exact ⟨fun v W h => ⟨Joins.cell_of_block h.d 0, Joins.cell_of_block h.d 1, Joins.cell_of_block h.d 2, Joins.cell_of_block h.d 3, Joins.unfrozen_of_block h.d 0, o.lD.ext h.x⟩, fun v W W' h x => h.ext x, fun v v' W h => h.set_d o v', l6⟩
  ·exact ⟨fun v W h => ⟨Joins.cell_of_block h.m 0, Joins.cell_of_block h.m 1, Joins.cell_of_block h.m 2, Joins.cell_of_block h.m 3, Joins.unfrozen_of_block h.m 0, o.lM.ext h.x⟩, fun v W W' h x => h.ext x, fun v v' W h => h.set_m o v', l4⟩
  ·exact ⟨fun v W h => ⟨Joins.cell_of_block h.y 0, Joins.cell_of_block h.y 1, Joins.cell_of_block h.y 2, Joins.cell_of_block h.y 3, Joins.unfrozen_of_block h.y 0, o.lY.ext h.x⟩, fun v W W' h x => h.ext x, fun v v' W h => h.set_y o v', l5⟩
 ·exact ⟨fun v W h => ⟨Joins.cell_of_block h.s 0, Joins.cell_of_block h.s 1, Joins.cell_of_block h.s 2, Joins.cell_of_block h.s 3, Joins.unfrozen_of_block h.s 0, o.lS.ext h.x⟩, fun v W W' h x => h.ext x, fun v v' W h => h.set_s o v', l1⟩
 ·exact ⟨fun v W h => ⟨Joins.cell_of_block h.mi 0, Joins.cell_of_block h.mi 1, Joins.cell_of_block h.mi 2, Joins.cell_of_block h.mi 3, Joins.unfrozen_of_block h.mi 0, o.lMi.ext h.x⟩, fun v W W' h x => h.ext x, fun v v' W h => h.set_mi o v', l2⟩
 ·exact ⟨fun v W h => ⟨Joins.cell_of_block h.h 0, Joins.cell_of_block h.h 1, Joins.cell_of_block h.h 2, Joins.cell_of_block h.h 3, Joins.unfrozen_of_block h.h 0, o.lH.ext h.x⟩, fun v W W' h x => h.ext x, fun v v' W h => h.set_h o v', l3⟩
end Go.Proofs.YtmaffdhcmdhjfaaGreatDoor
namespace Go.Proofs.YtmaffdhcmdhjfaaGreatDoor
open Go.RowKit Go.Lib
set_option maxHeartbeats 1600000 in
set_option maxRecDepth 1000000 in
theorem zz_civil (a : Int) (a0 : 0 ≤ a) (a1 : a ≤ 100000000000) (w : World) :
 Calls Tryz.prog 107 #[.int .i64 a] w fun e w' => e = .returned (.tuple #[.int .i64 (Cal.civil (a / 86400)).1, .int .i64 (Cal.civil (a / 86400)).2.1, .int .i64 (Cal.civil (a / 86400)).2.2, .int .i64 (a % 86400 / 3600), .int .i64 (a % 86400 / 60 % 60), .int .i64 (a % 86400 % 60)]) ∧ Ext w w' := by
 have HC : Hid (∀ W, Calls Tryz.prog 140 #[.agg #[.int .i64 (a / 86400)]] W fun e w' => e = .returned (.tuple #[.int .i64 (Cal.civil (a / 86400)).1, .int .i64 (Cal.civil (a / 86400)).2.1, .int .i64 (Cal.civil (a / 86400)).2.2]) ∧ Ext W w') := fun W => civil_any (a / 86400) (by omega) (by omega) W
 have HF : Hid (∀ W, Calls Tryz.prog 139 #[.int .i64 a, .int .i64 86400] W fun e w' => e = .returned (.int .i64 (a / 86400)) ∧ W = w') := fun W => zz_floor a 86400 (by omega) (by omega) (by omega) (by omega) W
 generalize hcv : Cal.civil (a / 86400) = cv at *
 obtain ⟨cy, cm, cd⟩ := cv
 simp only at HC
 obtain ⟨q, hq⟩ : ∃ q, q = a / 86400 := ⟨_, rfl⟩
 obtain ⟨r, hr⟩ : ∃ r, r = a % 86400 := ⟨_, rfl⟩
 have hrq : a - q * 86400 = r := by omega
 have hrb : 0 ≤ r ∧ r ≤ 86399 := by omega
 have hqb : 0 ≤ q ∧ q ≤ 2000000 := by omega
 rw [← hq] at HC HF
 rw [← hr]
 obtain ⟨r0, r1⟩ := hrb
 obtain ⟨q0, q1⟩ := hqb
 obtain ⟨m1, hm1⟩ : ∃ m1, m1 = r / 60 := ⟨_, rfl⟩
 have hm1b : 0 ≤ m1 ∧ m1 ≤ 1440 := by omega
 obtain ⟨u1, hu1⟩ : ∃ u1, u1 = r / 3600 := ⟨_, rfl⟩
 obtain ⟨u2, hu2⟩ : ∃ u2, u2 = m1 % 60 := ⟨_, rfl⟩
 obtain ⟨u3, hu3⟩ : ∃ u3, u3 = r % 60 := ⟨_, rfl⟩
 have hu1b : 0 ≤ u1 ∧ u1 ≤ 24 := by omega
 have hu2b : 0 ≤ u2 ∧ u2 ≤ 60 := by omega
 have hu3b : 0 ≤ u3 ∧ u3 ≤ 60 := by omega
 obtain ⟨b1, b2⟩ := hu1b
 obtain ⟨b3, b4⟩ := hu2b
 obtain ⟨b5, b6⟩ := hu3b
 have t1 : r.tdiv 3600 = u1 := by rw [hu1]; exact Int.tdiv_eq_ediv_of_nonneg r0
 have t2 : r.tdiv 60 = m1 := by rw [hm1]; exact Int.tdiv_eq_ediv_of_nonneg r0
 have t3 : m1.tmod 60 = u2 := by rw [hu2]; exact Int.tmod_eq_emod_of_nonneg (by omega)
 have t4 : r.tmod 60 = u3 := by rw [hu3]; exact Int.tmod_eq_emod_of_nonneg r0
 rw [← hm1, ← hu1, ← hu2, ← hu3]
 have T := Lib.hid (And.intro t1 (And.intro t2 (And.intro t3 (And.intro t4 hrq))))
 clear hcv hq hr hrq hm1 t1 t2 t3 t4 hu1 hu2 hu3
 go_enter Tryz.func107, Tryz.ntmps107
 go_wp2_with fail
 go_at_call 139
 refine (HF.out _).mono ?_
 rintro e w1 ⟨rfl, rfl⟩
 go_wp2_with fail
 go_at_call 140
 refine (HC.out _).mono ?_
 rintro e w2 ⟨rfl, x2⟩
 obtain ⟨t1, t2, t3, t4, t5⟩ := T.out
 have X2 := Lib.hid x2
 clear x2
 go_wp2_with fail
 exact bodyPost_ret (v := .tuple #[.int .i64 cy, .int .i64 cm, .int .i64 cd, .int .i64 u1, .int .i64 u2, .int .i64 u3]) (by simp [results, Tryz.results107, go_sem]) rfl ⟨rfl, X2.out⟩
set_option maxHeartbeats 1600000 in
set_option maxRecDepth 1000000 in
theorem new_common (v lo hi : Int) (a : Option Addr) (n cap : Nat) (w : World) :
 Calls Tryz.prog 108 #[.int .i64 v, .int .i64 lo, .int .i64 hi, .slice a n cap] w fun e w' => e = .returned (.pointer (some ⟨w.heap.size, 0, none⟩)) ∧ w.alloc (.cells #[.int .i64 v, .int .i64 lo, .int .i64 hi, .slice a n cap] 173) = w' := by
 go_enter Tryz.func108, Tryz.ntmps108
 go_wp2_with fail
 go_ret
 exact ⟨rfl, rfl⟩
set_option maxHeartbeats 1600000 in
set_option maxRecDepth 1000000 in
theorem new_machine (s mi h d m y : Addr) (w : World) :
 Calls Tryz.prog 111 #[.iface 146 (.pointer (some s)), .iface 146 (.pointer (some mi)), .iface 146 (.pointer (some h)), .pointer (some d), .iface 146 (.pointer (some m)), .iface 146 (.pointer (some y))] w fun e w' => e = .returned (.pointer (some ⟨w.heap.size, 0, none⟩)) ∧
  w.alloc (.cells #[.iface 146 (.pointer (some s)), .iface 146 (.pointer (some mi)), .iface 146 (.pointer (some h)), .pointer (some d), .iface 146 (.pointer (some m)), .iface 146 (.pointer (some y))] 179) = w' := by
 go_enter Tryz.func111, Tryz.ntmps111
 go_wp2_with fail
 go_ret
 exact ⟨rfl, rfl⟩
end Go.Proofs.YtmaffdhcmdhjfaaGreatDoor
namespace Go.Proofs.YtmaffdhcmdhjfaaGreatDoor
open Go.RowKit Go.Lib
set_option maxHeartbeats 1600000 in
set_option maxRecDepth 1000000 in
theorem new_month (v lo hi n : Int) (a : Option Addr) (len cap : Nat) (m y : Addr) (w : World) :
 Calls Tryz.prog 110 #[.int .i64 v, .int .i64 lo, .int .i64 hi, .int .i64 n, .slice a len cap, .iface 146 (.pointer (some m)), .iface 146 (.pointer (some y))] w fun e w' =>
  ∃ w1, Ext w w1 ∧ ∃ g c, e = .returned (.pointer (some ⟨w1.heap.size, 0, none⟩)) ∧
   w1.alloc (.cells #[.int .i64 v, .int .i64 lo, .int .i64 hi, .slice a len cap, .slice (some ⟨g, 0, none⟩) 0 c, .int .i64 n, .iface 146 (.pointer (some m)), .iface 146 (.pointer (some y))] 177) = w' := by
 obtain ⟨i0, hi0, hz0, hz1, hz2⟩ := info_parts Tryz.info3
 go_enter Tryz.func110, Tryz.ntmps110
 go_wp2_with (first
  | (at_make; refine wpList_make_own _ rfl _ _ 38 rfl w.heap.size 3 i0 (.int .i64 0) 1 Tryz.underlying38 hi0 hz0 hz1 .i64 .i64 (0 : Int) 0 rfl rfl rfl ?c1 ?c2 ?c3 ?_)
  | fail)
 case c1 => rw [hz2]; omega
 case c2 => unfold maxLen; omega
 case c3 => omega
 intro w1 own1 gr1
 have hx1 : Ext w w1 := Below.grown (Below.refl _ _) gr1 (Nat.le_refl _) (fun k h => by cases h)
 clear own1 gr1
 go_wp2_with fail
 go_ret
 exact ⟨w1, hx1, w.heap.size, 0, rfl, rfl⟩
set_option maxHeartbeats 1600000 in
set_option maxRecDepth 1000000 in
theorem new_week (v lo hi n : Int) (a : Option Addr) (len cap : Nat) (m y : Addr) (w : World) :
 Calls Tryz.prog 109 #[.int .i64 v, .int .i64 lo, .int .i64 hi, .int .i64 n, .slice a len cap, .iface 146 (.pointer (some m)), .iface 146 (.pointer (some y))] w fun e w' =>
  ∃ w1, Ext w w1 ∧ ∃ g c, e = .returned (.pointer (some ⟨w1.heap.size, 0, none⟩)) ∧
   w1.alloc (.cells #[.int .i64 v, .int .i64 lo, .int .i64 hi, .slice (some ⟨g, 0, none⟩) 0 c, .slice a len cap, .int .i64 n, .iface 146 (.pointer (some m)), .iface 146 (.pointer (some y))] 177) = w' := by
 obtain ⟨i0, hi0, hz0, hz1, hz2⟩ := info_parts Tryz.info3
 go_enter Tryz.func109, Tryz.ntmps109
 go_wp2_with (first
  | (at_make; refine wpList_make_own _ rfl _ _ 38 rfl w.heap.size 3 i0 (.int .i64 0) 1 Tryz.underlying38 hi0 hz0 hz1 .i64 .i64 (0 : Int) 0 rfl rfl rfl ?c1 ?c2 ?c3 ?_)
  | fail)
 case c1 => rw [hz2]; omega
 case c2 => unfold maxLen; omega
 case c3 => omega
 intro w1 own1 gr1
 have hx1 : Ext w w1 := Below.grown (Below.refl _ _) gr1 (Nat.le_refl _) (fun k h => by cases h)
 clear own1 gr1
 go_wp2_with fail
 go_ret
 exact ⟨w1, hx1, w.heap.size, 0, rfl, rfl⟩
end Go.Proofs.YtmaffdhcmdhjfaaGreatDoor
namespace Go.Proofs.YtmaffdhcmdhjfaaGreatDoor
open Go.RowKit Go.Lib
theorem dayNext_sane {c : Csm.Cfg} (h : MacOk c) {b : Int} (b0 : 900000 ≤ b) (b1 : b ≤ 999970) {st : Csm.St} (hs : SaneSt c b st) :
 SaneSt c (b + 1) (Csm.setDay st (Csm.dayNext c st.y st.m st.d).1) ∧ ((Csm.dayNext c st.y st.m st.d).2 = true → (Csm.dayNext c st.y st.m st.d).1.2.2 ≤ 28) := by
 obtain ⟨y0, y1, m0, m1, d0, d1, dv⟩ := hs
 have hb := Cal.mlen_bd st.y st.m
 have g := h.g
 by_cases hn : c.n = 0
 ·by_cases hW : c.W = []
  ·have e : Csm.dayNext c st.y st.m st.d = ((st.y, st.m, (Csm.cnext 1 31 c.D st.d).1), (Csm.cnext 1 31 c.D st.d).2) := by
    unfold Csm.dayNext; rw [if_pos hn, hW]
   rw [e]
   simp only
   have hD := g.hD hW hn
   rcases hr : Csm.cnext 1 31 c.D st.d with ⟨x, o⟩
   have hx : 1 ≤ x ∧ x ≤ 31 ∧ (o = true → x ≤ 28) := by
    unfold Csm.cnext at hr
    split at hr
    ·split at hr
     ·injection hr with a b; subst a b; exact ⟨by omega, by omega, fun _ => by omega⟩
     ·injection hr with a b; subst a b; exact ⟨by omega, by omega, (fun h => by cases h)⟩
    ·rename_i a t hcd
     split at hr
     ·rename_i v hv
      injection hr with a1 b1
      subst a1 b1
      have hmem : v ∈ c.D := by rw [hcd]; exact List.mem_of_find?_eq_some hv
      have := hD.low v hmem
      have := hD.high v hmem
      exact ⟨by omega, by omega, (fun h => by cases h)⟩
     ·injection hr with a1 b1
      subst a1 b1
      have := hD.low a (by rw [hcd]; simp)
      have := hD.high a (by rw [hcd]; simp)
      exact ⟨by omega, by omega, fun _ => by omega⟩
   refine ⟨⟨y0, ?_, m0, m1, hx.1, hx.2.1, fun h => absurd hW h⟩, hx.2.2⟩
   show st.y ≤ b + 1; omega
  ·have hd := dv hW hn
   obtain ⟨a, t, hwt⟩ := List.exists_cons_of_ne_nil hW
   have hob : 1 ≤ Csm.dowOff (a :: t) (Csm.wday st.y st.m st.d) ∧ Csm.dowOff (a :: t) (Csm.wday st.y st.m st.d) ≤ 13 := by
    have hl := g.hW
    rw [hwt] at hl
    have hwb := Csm.wday_bd st.y st.m st.d
    unfold Csm.dowOff
    cases hn2 : Csm.nxt (a :: t) (Csm.wday st.y st.m st.d) with
    | none =>
      have := hl.low a (by simp)
      have := hl.high a (by simp)
      simp only [List.headD_cons]; omega
    | some x =>
      obtain ⟨hx, hx2, _⟩ := Csm.nxt_some hl.sorted hn2
      have := hl.high x hx
      have := hl.low x hx
      simp only
      omega
   have e : Csm.dayNext c st.y st.m st.d = ((st.y, st.m, if st.d + Csm.dowOff (a :: t) (Csm.wday st.y st.m st.d) > Cal.mlen st.y st.m then st.d + Csm.dowOff (a :: t) (Csm.wday st.y st.m st.d) - Cal.mlen st.y st.m else st.d + Csm.dowOff (a :: t) (Csm.wday st.y st.m st.d)), decide (st.d + Csm.dowOff (a :: t) (Csm.wday st.y st.m st.d) > Cal.mlen st.y st.m)) := by
    unfold Csm.dayNext; rw [if_pos hn, hwt]
   rw [e]
   generalize Csm.dowOff (a :: t) (Csm.wday st.y st.m st.d) = off at *
   by_cases ho : st.d + off > Cal.mlen st.y st.m
   ·simp only [ho, decide_true, if_true]
    refine ⟨⟨y0, ?_, m0, m1, ?_, ?_, fun _ _ => ?_⟩, fun _ => ?_⟩
    ·show st.y ≤ b + 1; omega
    ·show 1 ≤ st.d + off - Cal.mlen st.y st.m; omega
    ·show st.d + off - Cal.mlen st.y st.m ≤ 31; omega
    ·show st.d + off - Cal.mlen st.y st.m ≤ Cal.mlen st.y st.m; omega
    ·omega
   ·simp only [ho, decide_false, if_false]
    refine ⟨⟨y0, ?_, m0, m1, ?_, ?_, fun _ _ => ?_⟩, (fun h => by cases h)⟩
    ·show st.y ≤ b + 1; omega
    ·show 1 ≤ st.d + off; omega
    ·show st.d + off ≤ 31; omega
    ·show st.d + off ≤ Cal.mlen st.y st.m; omega
 ·have ha := adv_bd h (y := st.y) (m := st.m) y0 (by omega) m0 m1
  have e : Csm.dayNext c st.y st.m st.d = if st.d ≥ Csm.tgt c st.y st.m then (((Csm.advMonth c st.y st.m).1, (Csm.advMonth c st.y st.m).2, Csm.tgt c (Csm.advMonth c st.y st.m).1 (Csm.advMonth c st.y st.m).2), false) else ((st.y, st.m, Csm.tgt c st.y st.m), false) := by
   unfold Csm.dayNext; rw [if_neg hn]
  rw [e]
  have t1 := Csm.tgt_bd g hn st.y st.m
  have t2 := Csm.tgt_bd g hn (Csm.advMonth c st.y st.m).1 (Csm.advMonth c st.y st.m).2
  have hb2 := Cal.mlen_bd (Csm.advMonth c st.y st.m).1 (Csm.advMonth c st.y st.m).2
  split
  ·refine ⟨⟨ha.1, ?_, ha.2.2.1, ha.2.2.2, t2.1, ?_, fun _ h => absurd h hn⟩, (fun h => by cases h)⟩
   ·have := ha.2.1; show (Csm.advMonth c st.y st.m).1 ≤ b + 1; omega
   ·show Csm.tgt c _ _ ≤ 31; have := t2.2; omega
  ·refine ⟨⟨y0, ?_, m0, m1, t1.1, ?_, fun _ h => absurd h hn⟩, (fun h => by cases h)⟩
   ·show st.y ≤ b + 1; omega
   ·show Csm.tgt c _ _ ≤ 31; have := t1.2; omega
theorem SaneSt.mono {c : Csm.Cfg} {b b' : Int} {st : Csm.St} (h : SaneSt c b st) (hb : b ≤ b') : SaneSt c b' st := ⟨h.y0, by have := h.y1; omega, h.m0, h.m1, h.d0, h.d1, h.dv⟩
theorem resetDays_sane {c : Csm.Cfg} (h : MacOk c) {b : Int} {st : Csm.St} (y0 : 1900 ≤ st.y) (y1 : st.y ≤ b) (m0 : 1 ≤ st.m) (m1 : st.m ≤ 12) : SaneSt c b (Csm.resetDays c st) := by
 obtain ⟨d, hd, hf⟩ := Csm.dayReset_first h.g (y := st.y) m0 m1
 have hb := Cal.mlen_bd st.y st.m
 unfold Csm.resetDays
 rw [hd]
 have h1 := hf.1
 have h2 := hf.2.1
 exact ⟨y0, y1, m0, m1, h1, by show d ≤ 31; omega, fun _ _ => h2⟩
theorem resetMonths_sane {c : Csm.Cfg} (h : MacOk c) {b : Int} {st : Csm.St} (y0 : 1900 ≤ st.y) (y1 : st.y ≤ b) : SaneSt c b (Csm.resetMonths c st) := by
 have hcm := cnext_m (M := c.M) h.m (m := 12) (by omega) (by omega)
 exact resetDays_sane h (st := { st with m := Csm.creset 1 12 c.M }) y0 y1 hcm.1 hcm.2
theorem ovYears_sane {c : Csm.Cfg} (h : MacOk c) {b : Int} (b0 : 900000 ≤ b) (b1 : b ≤ 999980) {st : Csm.St} (hs : SaneSt c b st) (p : c.W ≠ [] → c.n = 0 → st.d ≤ 28) : SaneSt c (b + 1) (Csm.ovYears c st) := by
 have hy1 := hs.y1
 have hyb := cnext_y (Y := c.Y) h.y (y := st.y) hs.y0 (by omega)
 have hy2 : (Csm.cnext 0 999999 c.Y st.y).1 ≤ b + 1 := by have := hyb.2; omega
 unfold Csm.ovYears
 simp only
 split
 ·refine ⟨hyb.1, hy2, hs.m0, hs.m1, hs.d0, hs.d1, fun hw hn => ?_⟩
  have := p hw hn
  have := Cal.mlen_bd (Csm.cnext 0 999999 c.Y st.y).1 st.m
  show st.d ≤ Cal.mlen (Csm.cnext 0 999999 c.Y st.y).1 st.m
  omega
 ·exact resetMonths_sane h hyb.1 hy2
theorem ovMonths_sane {c : Csm.Cfg} (h : MacOk c) {b : Int} (b0 : 900000 ≤ b) (b1 : b ≤ 999980) {st : Csm.St} (hs : SaneSt c b st) (p : c.W ≠ [] → c.n = 0 → st.d ≤ 28) : SaneSt c (b + 1) (Csm.ovMonths c st) := by
 have hmb := cnext_m (M := c.M) h.m (m := st.m) (by have := hs.m0; omega) hs.m1
 unfold Csm.ovMonths
 simp only
 split
 ·refine ovYears_sane h b0 b1 (st := { st with m := (Csm.cnext 1 12 c.M st.m).1 }) ⟨hs.y0, hs.y1, hmb.1, hmb.2, hs.d0, hs.d1, fun hw hn => ?_⟩ p
  have := p hw hn
  have := Cal.mlen_bd st.y (Csm.cnext 1 12 c.M st.m).1
  show st.d ≤ Cal.mlen st.y (Csm.cnext 1 12 c.M st.m).1
  omega
 ·exact (resetDays_sane h (st := { st with m := (Csm.cnext 1 12 c.M st.m).1 }) hs.y0 hs.y1 hmb.1 hmb.2).mono (by omega)
theorem ovDays_sane {c : Csm.Cfg} (h : MacOk c) {b : Int} (b0 : 900000 ≤ b) (b1 : b ≤ 999960) {st : Csm.St} (hs : SaneSt c b st) : SaneSt c (b + 2) (Csm.ovDays c st) := by
 obtain ⟨h1, h2⟩ := dayNext_sane h b0 (by omega) hs
 unfold Csm.ovDays
 simp only
 split
 ·rename_i ho
  exact (ovMonths_sane h (b := b + 1) (by omega) (by omega) h1 (fun _ _ => h2 ho)).mono (by omega)
 ·exact SaneSt.mono (b := b + 1) ⟨h1.y0, h1.y1, h1.m0, h1.m1, h1.d0, h1.d1, h1.dv⟩ (by omega)
theorem dayRounds_sane {c : Csm.Cfg} (h : MacOk c) : ∀ (k : Nat) {b : Int} {st : Csm.St}, 900000 ≤ b → b + 2 * k ≤ 999960 → SaneSt c b st → SaneSt c (b + 2 * k) (Csm.dayRounds c k st)
 | 0, b, st, _, _, hs => hs.mono (by omega)
 | k + 1, b, st, b0, b1, hs => by
   have h1 := (dayRound_sane h (b := b) b0 (by omega) hs).1
   rw [rounds_step]
   split
   ·exact h1.mono (by omega)
   ·exact (dayRounds_sane h k (b := b + 2) (by omega) (by omega) h1).mono (by omega)
end Go.Proofs.YtmaffdhcmdhjfaaGreatDoor
namespace Go.Proofs.YtmaffdhcmdhjfaaGreatDoor
open Go.RowKit Go.Lib
theorem resetDays_28 {c : Csm.Cfg} (h : MacOk c) {st : Csm.St} (m0 : 1 ≤ st.m) (m1 : st.m ≤ 12) (hn : c.n = 0) : (Csm.resetDays c st).d ≤ 28 := by
 obtain ⟨d, hd, hf⟩ := Csm.dayReset_first h.g (y := st.y) m0 m1
 unfold Csm.resetDays
 rw [hd]
 exact Csm.firstDay_28 h.g hf hn
theorem SaneSt.time {c : Csm.Cfg} {b : Int} {st : Csm.St} (hs : SaneSt c b st) {hh mi s : Int} : SaneSt c b ⟨st.y, st.m, st.d, hh, mi, s⟩ := ⟨hs.y0, hs.y1, hs.m0, hs.m1, hs.d0, hs.d1, hs.dv⟩
theorem forward_sane {c : Csm.Cfg} (h : MacOk c) {b : Int} (b0 : 900000 ≤ b) (b1 : b ≤ 999800) {st : Csm.St} (hs : SaneSt c b st) : SaneSt c (b + 90) (Csm.forward c st) := by
 have hy1 := hs.y1
 have hyb := cnext_y (Y := c.Y) h.y (y := st.y) hs.y0 (by omega)
 have hmb := cnext_m (M := c.M) h.m (m := st.m) (by have := hs.m0; omega) hs.m1
 have hdn := dayNext_sane h b0 (by omega) hs
 unfold Csm.forward
 simp only
 split
 ·refine (resetMonths_sane h (b := b + 1) (st := { st with y := (Csm.cnext 0 999999 c.Y st.y).1 }) hyb.1 ?_).mono (by omega)
  have := hyb.2
  show (Csm.cnext 0 999999 c.Y st.y).1 ≤ b + 1
  omega
 split
 ·have h1 := resetDays_sane h (b := b) (st := { st with m := (Csm.cnext 1 12 c.M st.m).1 }) hs.y0 hs.y1 hmb.1 hmb.2
  split
  ·exact (ovYears_sane h b0 (by omega) h1 (fun _ hn => resetDays_28 h (st := { st with m := (Csm.cnext 1 12 c.M st.m).1 }) hmb.1 hmb.2 hn)).mono (by omega)
  ·exact h1.mono (by omega)
 split
 ·split
  ·rename_i ho
   exact (ovMonths_sane h (b := b + 1) (by omega) (by omega) (st := Csm.resetHours c (Csm.setDay st (Csm.dayNext c st.y st.m st.d).1)) ⟨hdn.1.y0, hdn.1.y1, hdn.1.m0, hdn.1.m1, hdn.1.d0, hdn.1.d1, hdn.1.dv⟩ (fun _ _ => hdn.2 ho)).mono (by omega)
  ·exact SaneSt.mono (b := b + 1) ⟨hdn.1.y0, hdn.1.y1, hdn.1.m0, hdn.1.m1, hdn.1.d0, hdn.1.d1, hdn.1.dv⟩ (by omega)
 have od : ∀ hh mi s, SaneSt c (b + 90) (Csm.ovDays c ⟨st.y, st.m, st.d, hh, mi, s⟩) := fun hh mi s => (ovDays_sane h b0 (by omega) (hs.time (hh := hh) (mi := mi) (s := s))).mono (by omega)
 have oh : ∀ hh mi s, SaneSt c (b + 90) (Csm.ovHours c ⟨st.y, st.m, st.d, hh, mi, s⟩) := fun hh mi s => by
  unfold Csm.ovHours
  simp only
  split
  ·exact od _ _ _
  ·exact SaneSt.mono (b := b) ⟨hs.y0, hs.y1, hs.m0, hs.m1, hs.d0, hs.d1, hs.dv⟩ (by omega)
 have st0 : ∀ st' : Csm.St, st'.y = st.y → st'.m = st.m → st'.d = st.d → SaneSt c (b + 90) st' := fun st' e1 e2 e3 =>
  ⟨by rw [e1]; exact hs.y0, by rw [e1]; omega, by rw [e2]; exact hs.m0, by rw [e2]; exact hs.m1, by rw [e3]; exact hs.d0, by rw [e3]; exact hs.d1, by rw [e1, e2, e3]; exact hs.dv⟩
 split
 ·split
  ·exact od _ _ _
  ·exact st0 _ rfl rfl rfl
 split
 ·split
  ·exact oh _ _ _
  ·exact st0 _ rfl rfl rfl
 split
 ·split
  ·unfold Csm.ovMins
   simp only
   split
   ·exact oh _ _ _
   ·exact st0 _ rfl rfl rfl
  ·exact st0 _ rfl rfl rfl
 ·unfold Csm.stepNext
  simp only
  split
  ·exact st0 _ rfl rfl rfl
  split
  ·exact st0 _ rfl rfl rfl
  split
  ·exact st0 _ rfl rfl rfl
  ·exact (dayRounds_sane h 40 (b := b) b0 (by omega) (hs.time)).mono (by omega)
end Go.Proofs.YtmaffdhcmdhjfaaGreatDoor
namespace Go.Proofs.YtmaffdhcmdhjfaaGreatDoor
open Go.RowKit Go.Lib
structure TimeIn (st : Csm.St) : Prop where
 s : 0 ≤ st.s ∧ st.s ≤ 59
 mi : 0 ≤ st.mi ∧ st.mi ≤ 59
 h : 0 ≤ st.h ∧ st.h ≤ 59
theorem TimeIn.ok {st : Csm.St} (h : TimeIn st) : TimeOk st :=
 ⟨by have := h.s; omega, by have := h.mi; omega, by have := h.h; omega⟩
structure Lists59 (c : Csm.Cfg) : Prop where
 S : Csm.Lst 0 59 c.S
 Mi : Csm.Lst 0 59 c.Mi
 H : Csm.Lst 0 59 c.H
theorem Lists59.of {c : Csm.Cfg} (g : Csm.Good c) : Lists59 c := ⟨g.hS, g.hMi, Csm.lst_59 g.hH⟩
theorem cnext_in59 {l : List Int} (hl : Csm.Lst 0 59 l) {v : Int} (v0 : 0 ≤ v) (v1 : v ≤ 59) : 0 ≤ (Csm.cnext 0 59 l v).1 ∧ (Csm.cnext 0 59 l v).1 ≤ 59 := by
 unfold Csm.cnext
 split
 ·split <;> simp only <;> omega
 ·rename_i a t
  split
  ·rename_i x hx
   have hm := List.mem_of_find?_eq_some hx
   have := hl.low x hm
   have := hl.high x hm
   simp only; omega
  ·have := hl.low a (by simp)
   have := hl.high a (by simp)
   simp only; omega
theorem creset_in59 {l : List Int} (hl : Csm.Lst 0 59 l) : 0 ≤ Csm.creset 0 59 l ∧ Csm.creset 0 59 l ≤ 59 := cnext_in59 hl (by omega) (by omega)
theorem resetSecs_t {c : Csm.Cfg} (g : Lists59 c) {st : Csm.St} (m : 0 ≤ st.mi ∧ st.mi ≤ 59) (h : 0 ≤ st.h ∧ st.h ≤ 59) : TimeIn (Csm.resetSecs c st) :=
 ⟨creset_in59 g.S, m, h⟩
theorem resetMins_t {c : Csm.Cfg} (g : Lists59 c) {st : Csm.St} (h : 0 ≤ st.h ∧ st.h ≤ 59) : TimeIn (Csm.resetMins c st) :=
 resetSecs_t g (st := { st with mi := Csm.creset 0 59 c.Mi }) (creset_in59 g.Mi) h
theorem resetHours_t {c : Csm.Cfg} (g : Lists59 c) (st : Csm.St) : TimeIn (Csm.resetHours c st) :=
 resetMins_t g (st := { st with h := Csm.creset 0 59 c.H }) (creset_in59 g.H)
theorem resetDays_t {c : Csm.Cfg} (g : Lists59 c) (st : Csm.St) : TimeIn (Csm.resetDays c st) := resetHours_t g _
theorem resetMonths_t {c : Csm.Cfg} (g : Lists59 c) (st : Csm.St) : TimeIn (Csm.resetMonths c st) := resetDays_t g _
theorem ovYears_t {c : Csm.Cfg} (g : Lists59 c) {st : Csm.St} (h : TimeIn st) : TimeIn (Csm.ovYears c st) := by
 unfold Csm.ovYears
 simp only
 split
 ·exact ⟨h.s, h.mi, h.h⟩
 ·exact resetMonths_t g _
theorem ovMonths_t {c : Csm.Cfg} (g : Lists59 c) {st : Csm.St} (h : TimeIn st) : TimeIn (Csm.ovMonths c st) := by
 unfold Csm.ovMonths
 simp only
 split
 ·exact ovYears_t g ⟨h.s, h.mi, h.h⟩
 ·exact resetDays_t g _
theorem ovDays_t {c : Csm.Cfg} (g : Lists59 c) {st : Csm.St} (h : TimeIn st) : TimeIn (Csm.ovDays c st) := by
 unfold Csm.ovDays
 simp only
 split
 ·exact ovMonths_t g ⟨h.s, h.mi, h.h⟩
 ·exact resetHours_t g _
theorem ovHours_t {c : Csm.Cfg} (g : Lists59 c) {st : Csm.St} (h : TimeIn st) : TimeIn (Csm.ovHours c st) := by
 unfold Csm.ovHours
 simp only
 split
 ·exact ovDays_t g ⟨h.s, h.mi, cnext_in59 g.H h.h.1 h.h.2⟩
 ·exact resetMins_t g (cnext_in59 g.H h.h.1 h.h.2)
theorem ovMins_t {c : Csm.Cfg} (g : Lists59 c) {st : Csm.St} (h : TimeIn st) : TimeIn (Csm.ovMins c st) := by
 unfold Csm.ovMins
 simp only
 split
 ·exact ovHours_t g ⟨h.s, cnext_in59 g.Mi h.mi.1 h.mi.2, h.h⟩
 ·exact resetSecs_t g (cnext_in59 g.Mi h.mi.1 h.mi.2) h.h
theorem dayRound_t (c : Csm.Cfg) {st : Csm.St} (h : TimeIn st) : TimeIn (Csm.dayRound c st) := by
 rw [Csm.dayRound_eq]
 split
 ·unfold Csm.monthStep
  simp only
  repeat' split
  all_goals exact ⟨h.s, h.mi, h.h⟩
 ·exact ⟨h.s, h.mi, h.h⟩
theorem dayRounds_t (c : Csm.Cfg) : ∀ (k : Nat) {st : Csm.St}, TimeIn st → TimeIn (Csm.dayRounds c k st)
 | 0, _, h => h
 | k + 1, st, h => by
   rw [rounds_step]
   split
   ·exact dayRound_t c h
   ·exact dayRounds_t c k (dayRound_t c h)
theorem forward_time {c : Csm.Cfg} (g : Lists59 c) {st : Csm.St} (h : TimeIn st) : TimeIn (Csm.forward c st) := by
 have cs := cnext_in59 g.S h.s.1 h.s.2
 have cm := cnext_in59 g.Mi h.mi.1 h.mi.2
 have ch := cnext_in59 g.H h.h.1 h.h.2
 unfold Csm.forward
 simp only
 split
 ·exact resetMonths_t g _
 split
 ·split
  ·exact ovYears_t g (resetDays_t g _)
  ·exact resetDays_t g _
 split
 ·split
  ·exact ovMonths_t g (resetHours_t g _)
  ·exact resetHours_t g _
 split
 ·split
  ·exact ovDays_t g (resetMins_t g ch)
  ·exact resetMins_t g ch
 split
 ·split
  ·exact ovHours_t g (resetSecs_t g cm h.h)
  ·exact resetSecs_t g cm h.h
 split
 ·split
  ·exact ovMins_t g ⟨cs, h.mi, h.h⟩
  ·exact ⟨cs, h.mi, h.h⟩
 ·unfold Csm.stepNext
  simp only
  split
  ·exact ⟨cs, h.mi, h.h⟩
  split
  ·exact ⟨cs, cm, h.h⟩
  split
  ·exact ⟨cs, cm, ch⟩
  ·exact dayRounds_t c 40 ⟨cs, cm, ch⟩
end Go.Proofs.YtmaffdhcmdhjfaaGreatDoor
namespace Go.Proofs.YtmaffdhcmdhjfaaGreatDoor
open Go.RowKit Go.Lib
def fieldN (fs : List (List Int × Int)) (i : Nat) : Int := (fs[i]?.map (·.2)).getD 0
def cfgF (fs : List (List Int × Int)) : Csm.Cfg :=
 { Y := rowN fs 6, M := rowN fs 4, D := rowN fs 3, W := rowN fs 5, n := if rowN fs 5 = [] then fieldN fs 3 else fieldN fs 5, H := rowN fs 2, Mi := rowN fs 1, S := rowN fs 0 }
def stSec (a : Int) : Csm.St := ⟨(Cal.civil (a / 86400)).1, (Cal.civil (a / 86400)).2.1, (Cal.civil (a / 86400)).2.2, a % 86400 / 3600, a % 86400 / 60 % 60, a % 86400 % 60⟩
theorem ints_at {w : World} {base n cap : Nat} {a : Option Addr} {l : List Int} (h : Ints w base (.slice a n cap) l) : ListAt w a l ∧ n = l.length := by
 have hn : n = l.length := by
  obtain ⟨a', c', e⟩ := own_any h
  injection e
 subst hn
 refine ⟨fun hne => ?_, rfl⟩
 have hpos : 0 < l.length := List.length_pos_iff.mpr hne
 obtain ⟨g, cap', e, hrest⟩ := World.ownsRow.form h hpos
 injection e with e1 e2 e3
 subst e1; subst e3
 refine ⟨g, rfl, fun j z hj => ?_⟩
 have hjl := (List.getElem?_eq_some_iff.mp hj).1
 have h' := h
 unfold Ints at h'
 rw [World.ownsRow.cellAt h' j (by omega), ints, List.getElem?_map, hj]
 rfl
theorem field_read {w : World} {base R : Nat} {ps : List Value} {fs : List (List Int × Int)} (hR : w.heap[R]? = some (.cells ps.toArray 90 (0, 0))) (hpl : ps.length = 7) (hF : FL w base ps fs) (i : Nat) (hi : i < 7) :
 ∃ N a cap, w.cell? ⟨R, i, none⟩ = some (.pointer (some ⟨N, 0, none⟩)) ∧ w.cell? ⟨N, 0, none⟩ = some (.slice a (rowN fs i).length cap) ∧ w.cell? ⟨N, 1, none⟩ = some (.int .i64 (fieldN fs i)) ∧ ListAt w a (rowN fs i) := by
 obtain ⟨p, hp⟩ : ∃ p, ps[i]? = some p := ⟨_, List.getElem?_eq_getElem (by omega)⟩
 obtain ⟨f, hf⟩ : ∃ f, fs[i]? = some f := ⟨_, List.getElem?_eq_getElem (by rw [← hF.1]; omega)⟩
 obtain ⟨N, sl, rfl, _, hN, hI⟩ := hF.2.1 i p f hp hf
 obtain ⟨a, cap, rfl⟩ := own_any hI
 have er : rowN fs i = f.1 := by unfold rowN; rw [hf]; rfl
 have en : fieldN fs i = f.2 := by unfold fieldN; rw [hf]; rfl
 rw [er, en]
 exact ⟨N, a, cap, row_cell hR (by simpa using hp), by simp [World.cell?, hN], by simp [World.cell?, hN], (ints_at hI).1⟩
structure CfgOk (c : Csm.Cfg) : Prop where
 good : Csm.Good c
 y : ∀ z ∈ c.Y, 1970 ≤ z ∧ z ≤ 2199
 len : c.S.length ≤ 100000000 ∧ c.Mi.length ≤ 100000000 ∧ c.H.length ≤ 100000000 ∧ c.M.length ≤ 100000000 ∧ c.Y.length ≤ 100000000 ∧ c.D.length ≤ 100000000 ∧ c.W.length ≤ 100000000
theorem new_block (w : World) (cs : Array Value) (t : TypeId) {w' : World} (h : w.alloc (.cells cs t) = w') : Ext w w' ∧ w'.heap[w.heap.size]? = some (.cells cs t (0, 0)) ∧ w'.heap.size = w.heap.size + 1 := by
 subst h
 exact ⟨Ext.alloc _ _, heap_alloc_new _ _, by simp⟩
set_option maxHeartbeats 6400000 in
set_option maxRecDepth 1000000 in
theorem new_csm (sec : Int) (s0 : 0 ≤ sec) (s1 : sec ≤ 100000000000) (fs : List (List Int × Int)) (base : Nat) (v : Value) (w : World) (hF : Fields w base v fs) (g : CfgOk (cfgF fs)) :
 Calls Tryz.prog 87 #[.int .i64 sec, v] w fun e w' => ∃ P, e = .returned (.pointer (some ⟨P.B, 0, none⟩)) ∧ MOk P (cfgF fs) w ∧ MQ P (cfgF fs) w (stSec sec) w' ∧ Ext w w' := by
 obtain ⟨R, ps, rfl, hRb, hR, hpl, hFL⟩ := hF
 obtain ⟨N0, a0, c0, r0, v0, n0, L0⟩ := field_read hR hpl hFL 0 (by omega)
 obtain ⟨N1, a1, c1, r1, v1, n1, L1⟩ := field_read hR hpl hFL 1 (by omega)
 obtain ⟨N2, a2, c2, r2, v2, n2, L2⟩ := field_read hR hpl hFL 2 (by omega)
 obtain ⟨N3, a3, c3, r3, v3, n3, L3⟩ := field_read hR hpl hFL 3 (by omega)
 obtain ⟨N4, a4, c4, r4, v4, n4, L4⟩ := field_read hR hpl hFL 4 (by omega)
 obtain ⟨N5, a5, c5, r5, v5, n5, L5⟩ := field_read hR hpl hFL 5 (by omega)
 obtain ⟨N6, a6, c6, r6, v6, n6, L6⟩ := field_read hR hpl hFL 6 (by omega)
 clear hR hpl hFL hRb
 have HG := Lib.hid g
 have HC := Lib.hid (zz_civil sec s0 s1 w)
 obtain ⟨m5, hm5⟩ : ∃ m5, m5 = (rowN fs 5).length := ⟨_, rfl⟩
 rw [← hm5] at v5
 have HM5 := Lib.hid hm5
 have HS : Hid (stSec sec = ⟨(Cal.civil (sec / 86400)).1, (Cal.civil (sec / 86400)).2.1, (Cal.civil (sec / 86400)).2.2, sec % 86400 / 3600, sec % 86400 / 60 % 60, sec % 86400 % 60⟩) := rfl
 generalize hst : stSec sec = st at *
 clear hst
 generalize (Cal.civil (sec / 86400)).1 = cy at *
 generalize (Cal.civil (sec / 86400)).2.1 = cm at *
 generalize (Cal.civil (sec / 86400)).2.2 = cd at *
 generalize sec % 86400 / 3600 = u1 at *
 generalize sec % 86400 / 60 % 60 = u2 at *
 generalize sec % 86400 % 60 = u3 at *
 have F0 := Lib.hid (And.intro r0 (And.intro v0 L0))
 have F1 := Lib.hid (And.intro r1 (And.intro v1 L1))
 have F2 := Lib.hid (And.intro r2 (And.intro v2 L2))
 have F3 := Lib.hid (And.intro r3 (And.intro v3 (And.intro n3 L3)))
 have F4 := Lib.hid (And.intro r4 (And.intro v4 L4))
 have F5 := Lib.hid (And.intro r5 (And.intro v5 (And.intro n5 L5)))
 have F6 := Lib.hid (And.intro r6 (And.intro v6 L6))
 clear r0 v0 n0 L0 r1 v1 n1 L1 r2 v2 n2 L2 r3 v3 n3 L3 r4 v4 n4 L4 r5 v5 n5 L5 r6 v6 n6 L6 hm5 s0 s1 g
 go_enter Tryz.func87, Tryz.ntmps87
 go_wp2_with fail
 go_at_call 107
 refine HC.out.mono ?_
 rintro e w1 ⟨rfl, x1⟩
 have X1 := Lib.hid x1
 have f1 := x1.cell F6.out.1
 have f2 := x1.cell F6.out.2.1
 clear x1
 go_wp2_with fail
 go_at_call 108
 refine (new_common cy 0 999999 a6 (rowN fs 6).length c6 w1).mono ?_
 rintro e w2 ⟨rfl, hw2⟩
 obtain ⟨x2, hy, z2⟩ := new_block _ _ _ hw2
 have X2 := Lib.hid (X1.out.trans x2)
 have Y2 := Lib.hid hy
 have Z2 := Lib.hid z2
 clear hw2 x2 hy z2 f1 f2
 have f1 := X2.out.cell F4.out.1
 have f2 := X2.out.cell F4.out.2.1
 obtain ⟨KY, hKY⟩ : ∃ K, K = w1.heap.size := ⟨_, rfl⟩
 rw [← hKY] at Y2 Z2 ⊢
 have GY : Hid (w.heap.size ≤ KY) := by show _ ≤ _; rw [hKY]; exact Below.size X1.out
 clear hKY
 go_wp2_with fail
 go_at_call 108
 refine (new_common cm 1 12 a4 (rowN fs 4).length c4 w2).mono ?_
 rintro e w3 ⟨rfl, hw3⟩
 obtain ⟨x3, hm, z3⟩ := new_block _ _ _ hw3
 have X3 := Lib.hid (X2.out.trans x3)
 have Y3 := Lib.hid ((Below.block x3 KY (block_lt Y2.out)).trans Y2.out)
 have M3 := Lib.hid hm
 have Z3 := Lib.hid z3
 obtain ⟨KM, hKM⟩ : ∃ K, K = w2.heap.size := ⟨_, rfl⟩
 rw [← hKM] at M3 Z3 ⊢
 have GM : Hid (w.heap.size ≤ KM) := by show _ ≤ _; rw [hKM]; exact Below.size X2.out
 have EM : Hid (KM = KY + 1) := by show _ = _; rw [hKM]; exact Z2.out
 clear hKM hw3 x3 hm z3 f1 f2
 have f1 := X3.out.cell F5.out.1
 have f2 := X3.out.cell F5.out.2.1
 rcases Nat.eq_zero_or_pos m5 with h0 | h0
 ·have f3 := X3.out.cell F3.out.1
  have f4 := X3.out.cell F3.out.2.1
  have f5 := X3.out.cell F3.out.2.2.1
  have hnil : rowN fs 5 = [] := List.length_eq_zero_iff.mp (by rw [← HM5.out]; exact h0)
  have HNIL := Lib.hid hnil
  subst h0
  clear hnil
  go_wp2_with fail
  go_still_tail 17, (by kernel_rfl)
  obtain ⟨w4, hw4⟩ : ∃ W, W = w3.drew := ⟨_, rfl⟩
  have x4 : Ext w3 w4 := by rw [hw4]; exact Ext.drew w3
  change wpList _ _ _ _ _ w3.drew
  rw [← hw4]
  have X4 := Lib.hid (X3.out.trans x4)
  have Y4 := Lib.hid ((Below.block x4 KY (block_lt Y3.out)).trans Y3.out)
  have M4 := Lib.hid ((Below.block x4 KM (block_lt M3.out)).trans M3.out)
  clear hw4 x4 f1 f2 f3 f4 f5
  go_wp2_with fail
  go_at_call 110
  refine (new_month cd 1 31 (fieldN fs 3) a3 (rowN fs 3).length c3 ⟨KM, 0, none⟩ ⟨KY, 0, none⟩ _).mono ?_
  rintro e w5 ⟨wx, hxw, gg, cc, rfl, hw5⟩
  obtain ⟨x5, hn, z5⟩ := new_block _ _ _ hw5
  have X5 := Lib.hid ((X4.out.trans hxw).trans x5)
  have Y5 := Lib.hid ((Below.block (hxw.trans x5) KY (block_lt Y4.out)).trans Y4.out)
  have M5 := Lib.hid ((Below.block (hxw.trans x5) KM (block_lt M4.out)).trans M4.out)
  obtain ⟨KD, hKD⟩ : ∃ K, K = wx.heap.size := ⟨_, rfl⟩
  rw [← hKD] at hn z5 ⊢
  have GD : Hid (KM < KD) := by
   show KM < KD
   rw [hKD]
   have := block_lt ((Below.block hxw KM (block_lt M4.out)).trans M4.out)
   exact this
  have D5 := Lib.hid hn
  have Z5 := Lib.hid z5
  clear hw5 hxw x5 hn z5 hKD
  have f1 := X5.out.cell F2.out.1
  have f2 := X5.out.cell F2.out.2.1
  go_wp2_with fail
  go_at_call 108
  refine (new_common u1 0 59 a2 (rowN fs 2).length c2 w5).mono ?_
  rintro e w6 ⟨rfl, hw6⟩
  obtain ⟨x6, hn, z6⟩ := new_block _ _ _ hw6
  have X6 := Lib.hid (X5.out.trans x6)
  have Y6 := Lib.hid ((Below.block x6 KY (block_lt Y5.out)).trans Y5.out)
  have M6 := Lib.hid ((Below.block x6 KM (block_lt M5.out)).trans M5.out)
  have D6 := Lib.hid ((Below.block x6 KD (block_lt D5.out)).trans D5.out)
  obtain ⟨KH, hKH⟩ : ∃ K, K = w5.heap.size := ⟨_, rfl⟩
  rw [← hKH] at hn z6 ⊢
  have GH : Hid (KH = w5.heap.size) := hKH
  have H6 := Lib.hid hn
  have Z6 := Lib.hid z6
  clear hKH hw6 x6 hn z6 f1 f2
  have f1 := X6.out.cell F1.out.1
  have f2 := X6.out.cell F1.out.2.1
  go_wp2_with fail
  go_at_call 108
  refine (new_common u2 0 59 a1 (rowN fs 1).length c1 w6).mono ?_
  rintro e w7 ⟨rfl, hw7⟩
  obtain ⟨x7, hn, z7⟩ := new_block _ _ _ hw7
  have X7 := Lib.hid (X6.out.trans x7)
  have Y7 := Lib.hid ((Below.block x7 KY (block_lt Y6.out)).trans Y6.out)
  have M7 := Lib.hid ((Below.block x7 KM (block_lt M6.out)).trans M6.out)
  have D7 := Lib.hid ((Below.block x7 KD (block_lt D6.out)).trans D6.out)
  have H7 := Lib.hid ((Below.block x7 KH (block_lt H6.out)).trans H6.out)
  obtain ⟨KI, hKI⟩ : ∃ K, K = w6.heap.size := ⟨_, rfl⟩
  rw [← hKI] at hn z7 ⊢
  have GI : Hid (KI = w6.heap.size) := hKI
  have I7 := Lib.hid hn
  have Z7 := Lib.hid z7
  clear hKI hw7 x7 hn z7 f1 f2
  have f1 := X7.out.cell F0.out.1
  have f2 := X7.out.cell F0.out.2.1
  go_wp2_with fail
  go_at_call 108
  refine (new_common u3 0 59 a0 (rowN fs 0).length c0 w7).mono ?_
  rintro e w8 ⟨rfl, hw8⟩
  obtain ⟨x8, hn, z8⟩ := new_block _ _ _ hw8
  have X8 := Lib.hid (X7.out.trans x8)
  have Y8 := Lib.hid ((Below.block x8 KY (block_lt Y7.out)).trans Y7.out)
  have M8 := Lib.hid ((Below.block x8 KM (block_lt M7.out)).trans M7.out)
  have D8 := Lib.hid ((Below.block x8 KD (block_lt D7.out)).trans D7.out)
  have H8 := Lib.hid ((Below.block x8 KH (block_lt H7.out)).trans H7.out)
  have I8 := Lib.hid ((Below.block x8 KI (block_lt I7.out)).trans I7.out)
  obtain ⟨KS, hKS⟩ : ∃ K, K = w7.heap.size := ⟨_, rfl⟩
  rw [← hKS] at hn z8 ⊢
  have GS : Hid (KS = w7.heap.size) := hKS
  have S8 := Lib.hid hn
  have Z8 := Lib.hid z8
  clear hKS hw8 x8 hn z8 f1 f2
  go_wp2_with fail
  go_at_call 111
  refine (new_machine ⟨KS, 0, none⟩ ⟨KI, 0, none⟩ ⟨KH, 0, none⟩ ⟨KD, 0, none⟩ ⟨KM, 0, none⟩ ⟨KY, 0, none⟩ w8).mono ?_
  rintro e w9 ⟨rfl, hw9⟩
  obtain ⟨x9, hn, z9⟩ := new_block _ _ _ hw9
  have X9 := Lib.hid (X8.out.trans x9)
  have Y9 := Lib.hid ((Below.block x9 KY (block_lt Y8.out)).trans Y8.out)
  have M9 := Lib.hid ((Below.block x9 KM (block_lt M8.out)).trans M8.out)
  have D9 := Lib.hid ((Below.block x9 KD (block_lt D8.out)).trans D8.out)
  have H9 := Lib.hid ((Below.block x9 KH (block_lt H8.out)).trans H8.out)
  have I9 := Lib.hid ((Below.block x9 KI (block_lt I8.out)).trans I8.out)
  have S9 := Lib.hid ((Below.block x9 KS (block_lt S8.out)).trans S8.out)
  obtain ⟨KB, hKB⟩ : ∃ K, K = w8.heap.size := ⟨_, rfl⟩
  rw [← hKB] at hn z9 ⊢
  have GB : Hid (KB = w8.heap.size) := hKB
  have B9 := Lib.hid hn
  clear hw9 x9 hn z9 hKB
  go_wp2_with fail
  go_ret
  have gb := GB.out
  have gs := GS.out
  have gi := GI.out
  have gh := GH.out
  have gd := GD.out
  have gm := EM.out
  have gy := GY.out
  have z6 := Z6.out
  have z7 := Z7.out
  have z8 := Z8.out
  have z5 := Z5.out
  have gdd := block_lt D5.out
  have LL := HG.out.len
  refine ⟨⟨KB, KS, KI, KH, ⟨KD, KM, KY, a3, c3, rowN fs 3, some ⟨gg, 0, none⟩, cc, [], fieldN fs 3⟩, ⟨a0, c0, rowN fs 0⟩, ⟨a1, c1, rowN fs 1⟩, ⟨a2, c2, rowN fs 2⟩, ⟨a4, c4, rowN fs 4⟩, ⟨a6, c6, rowN fs 6⟩⟩, rfl, ?_, ?_, X9.out⟩
  ·exact ⟨by show _ ≤ KS; omega, by show _ ≤ KI; omega, by show _ ≤ KH; omega, by show _ ≤ KM; omega, by show _ ≤ KY; omega, by show _ ≤ KD; omega, by show _ ≤ KB; omega,
    by show KS ≠ KI; omega, by show KS ≠ KH; omega, by show KS ≠ KM; omega, by show KS ≠ KY; omega, by show KS ≠ KD; omega, by show KS ≠ KB; omega,
    by show KI ≠ KH; omega, by show KI ≠ KM; omega, by show KI ≠ KY; omega, by show KI ≠ KD; omega, by show KI ≠ KB; omega,
    by show KH ≠ KM; omega, by show KH ≠ KY; omega, by show KH ≠ KD; omega, by show KH ≠ KB; omega,
    by show KM ≠ KY; omega, by show KM ≠ KD; omega, by show KM ≠ KB; omega, by show KY ≠ KD; omega, by show KY ≠ KB; omega, by show KD ≠ KB; omega,
    F0.out.2.2, F1.out.2.2, F2.out.2.2, F4.out.2.2, F6.out.2.2, F3.out.2.2.2, (fun h => absurd rfl h),
    ⟨LL.1, LL.2.1, LL.2.2.1, LL.2.2.2.1, LL.2.2.2.2.1, LL.2.2.2.2.2.1, (by simp)⟩,
    ⟨HNIL.out.symm, (if_pos HNIL.out).symm, rfl, rfl, (by show rowN fs 3 = _; rw [if_pos (by show (rowN fs 5).isEmpty = true; rw [HNIL.out]; rfl)]; rfl), ⟨fun z hz => ⟨HG.out.good.hM.low z hz, HG.out.good.hM.high z hz⟩, fun z hz => by have := HG.out.y z hz; omega⟩⟩, HG.out.good⟩
  ·rw [HS.out]
   exact ⟨X9.out, S9.out, I9.out, H9.out, M9.out, Y9.out, by exact D9.out, B9.out⟩
 ·skip
  have f5 := X3.out.cell F5.out.2.2.1
  have hne : rowN fs 5 ≠ [] := List.length_pos_iff.mp (by rw [← HM5.out]; exact h0)
  have HNE := Lib.hid hne
  clear hne
  go_wp2_with fail
  go_still_tail 17, (by kernel_rfl)
  obtain ⟨w4, hw4⟩ : ∃ W, W = w3.drew := ⟨_, rfl⟩
  have x4 : Ext w3 w4 := by rw [hw4]; exact Ext.drew w3
  change wpList _ _ _ _ _ w3.drew
  rw [← hw4]
  have X4 := Lib.hid (X3.out.trans x4)
  have Y4 := Lib.hid ((Below.block x4 KY (block_lt Y3.out)).trans Y3.out)
  have M4 := Lib.hid ((Below.block x4 KM (block_lt M3.out)).trans M3.out)
  clear hw4 x4 f1 f2 f5
  go_wp2_with fail
  go_at_call 109
  refine (new_week cd 1 31 (fieldN fs 5) a5 m5 c5 ⟨KM, 0, none⟩ ⟨KY, 0, none⟩ _).mono ?_
  rintro e w5 ⟨wx, hxw, gg, cc, rfl, hw5⟩
  obtain ⟨x5, hn, z5⟩ := new_block _ _ _ hw5
  have X5 := Lib.hid ((X4.out.trans hxw).trans x5)
  have Y5 := Lib.hid ((Below.block (hxw.trans x5) KY (block_lt Y4.out)).trans Y4.out)
  have M5 := Lib.hid ((Below.block (hxw.trans x5) KM (block_lt M4.out)).trans M4.out)
  obtain ⟨KD, hKD⟩ : ∃ K, K = wx.heap.size := ⟨_, rfl⟩
  rw [← hKD] at hn z5 ⊢
  have GD : Hid (KM < KD) := by
   show KM < KD
   rw [hKD]
   have := block_lt ((Below.block hxw KM (block_lt M4.out)).trans M4.out)
   exact this
  have D5 := Lib.hid hn
  have Z5 := Lib.hid z5
  clear hw5 hxw x5 hn z5 hKD
  have f1 := X5.out.cell F2.out.1
  have f2 := X5.out.cell F2.out.2.1
  go_wp2_with fail
  go_at_call 108
  refine (new_common u1 0 59 a2 (rowN fs 2).length c2 w5).mono ?_
  rintro e w6 ⟨rfl, hw6⟩
  obtain ⟨x6, hn, z6⟩ := new_block _ _ _ hw6
  have X6 := Lib.hid (X5.out.trans x6)
  have Y6 := Lib.hid ((Below.block x6 KY (block_lt Y5.out)).trans Y5.out)
  have M6 := Lib.hid ((Below.block x6 KM (block_lt M5.out)).trans M5.out)
  have D6 := Lib.hid ((Below.block x6 KD (block_lt D5.out)).trans D5.out)
  obtain ⟨KH, hKH⟩ : ∃ K, K = w5.heap.size := ⟨_, rfl⟩
  rw [← hKH] at hn z6 ⊢
  have GH : Hid (KH = w5.heap.size) := hKH
  have H6 := Lib.hid hn
  have Z6 := Lib.hid z6
  clear hKH hw6 x6 hn z6 f1 f2
  have f1 := X6.out.cell F1.out.1
  have f2 := X6.out.cell F1.out.2.1
  go_wp2_with fail
  go_at_call 108
  refine (new_common u2 0 59 a1 (rowN fs 1).length c1 w6).mono ?_
  rintro e w7 ⟨rfl, hw7⟩
  obtain ⟨x7, hn, z7⟩ := new_block _ _ _ hw7
  have X7 := Lib.hid (X6.out.trans x7)
  have Y7 := Lib.hid ((Below.block x7 KY (block_lt Y6.out)).trans Y6.out)
  have M7 := Lib.hid ((Below.block x7 KM (block_lt M6.out)).trans M6.out)
  have D7 := Lib.hid ((Below.block x7 KD (block_lt D6.out)).trans D6.out)
  have H7 := Lib.hid ((Below.block x7 KH (block_lt H6.out)).trans H6.out)
  obtain ⟨KI, hKI⟩ : ∃ K, K = w6.heap.size := ⟨_, rfl⟩
  rw [← hKI] at hn z7 ⊢
  have GI : Hid (KI = w6.heap.size) := hKI
  have I7 := Lib.hid hn
  have Z7 := Lib.hid z7
  clear hKI hw7 x7 hn z7 f1 f2
  have f1 := X7.out.cell F0.out.1
  have f2 := X7.out.cell F0.out.2.1
  go_wp2_with fail
  go_at_call 108
  refine (new_common u3 0 59 a0 (rowN fs 0).length c0 w7).mono ?_
  rintro e w8 ⟨rfl, hw8⟩
  obtain ⟨x8, hn, z8⟩ := new_block _ _ _ hw8
  have X8 := Lib.hid (X7.out.trans x8)
  have Y8 := Lib.hid ((Below.block x8 KY (block_lt Y7.out)).trans Y7.out)
  have M8 := Lib.hid ((Below.block x8 KM (block_lt M7.out)).trans M7.out)
  have D8 := Lib.hid ((Below.block x8 KD (block_lt D7.out)).trans D7.out)
  have H8 := Lib.hid ((Below.block x8 KH (block_lt H7.out)).trans H7.out)
  have I8 := Lib.hid ((Below.block x8 KI (block_lt I7.out)).trans I7.out)
  obtain ⟨KS, hKS⟩ : ∃ K, K = w7.heap.size := ⟨_, rfl⟩
  rw [← hKS] at hn z8 ⊢
  have GS : Hid (KS = w7.heap.size) := hKS
  have S8 := Lib.hid hn
  have Z8 := Lib.hid z8
  clear hKS hw8 x8 hn z8 f1 f2
  go_wp2_with fail
  go_at_call 111
  refine (new_machine ⟨KS, 0, none⟩ ⟨KI, 0, none⟩ ⟨KH, 0, none⟩ ⟨KD, 0, none⟩ ⟨KM, 0, none⟩ ⟨KY, 0, none⟩ w8).mono ?_
  rintro e w9 ⟨rfl, hw9⟩
  obtain ⟨x9, hn, z9⟩ := new_block _ _ _ hw9
  have X9 := Lib.hid (X8.out.trans x9)
  have Y9 := Lib.hid ((Below.block x9 KY (block_lt Y8.out)).trans Y8.out)
  have M9 := Lib.hid ((Below.block x9 KM (block_lt M8.out)).trans M8.out)
  have D9 := Lib.hid ((Below.block x9 KD (block_lt D8.out)).trans D8.out)
  have H9 := Lib.hid ((Below.block x9 KH (block_lt H8.out)).trans H8.out)
  have I9 := Lib.hid ((Below.block x9 KI (block_lt I8.out)).trans I8.out)
  have S9 := Lib.hid ((Below.block x9 KS (block_lt S8.out)).trans S8.out)
  obtain ⟨KB, hKB⟩ : ∃ K, K = w8.heap.size := ⟨_, rfl⟩
  rw [← hKB] at hn z9 ⊢
  have GB : Hid (KB = w8.heap.size) := hKB
  have B9 := Lib.hid hn
  clear hw9 x9 hn z9 hKB
  go_wp2_with fail
  go_ret
  have gb := GB.out
  have gs := GS.out
  have gi := GI.out
  have gh := GH.out
  have gd := GD.out
  have gm := EM.out
  have gy := GY.out
  have z6 := Z6.out
  have z7 := Z7.out
  have z8 := Z8.out
  have z5 := Z5.out
  have gdd := block_lt D5.out
  have LL := HG.out.len
  refine ⟨⟨KB, KS, KI, KH, ⟨KD, KM, KY, some ⟨gg, 0, none⟩, cc, [], a5, c5, rowN fs 5, fieldN fs 5⟩, ⟨a0, c0, rowN fs 0⟩, ⟨a1, c1, rowN fs 1⟩, ⟨a2, c2, rowN fs 2⟩, ⟨a4, c4, rowN fs 4⟩, ⟨a6, c6, rowN fs 6⟩⟩, rfl, ?_, ?_, X9.out⟩
  ·exact ⟨by show _ ≤ KS; omega, by show _ ≤ KI; omega, by show _ ≤ KH; omega, by show _ ≤ KM; omega, by show _ ≤ KY; omega, by show _ ≤ KD; omega, by show _ ≤ KB; omega,
    by show KS ≠ KI; omega, by show KS ≠ KH; omega, by show KS ≠ KM; omega, by show KS ≠ KY; omega, by show KS ≠ KD; omega, by show KS ≠ KB; omega,
    by show KI ≠ KH; omega, by show KI ≠ KM; omega, by show KI ≠ KY; omega, by show KI ≠ KD; omega, by show KI ≠ KB; omega,
    by show KH ≠ KM; omega, by show KH ≠ KY; omega, by show KH ≠ KD; omega, by show KH ≠ KB; omega,
    by show KM ≠ KY; omega, by show KM ≠ KD; omega, by show KM ≠ KB; omega, by show KY ≠ KD; omega, by show KY ≠ KB; omega, by show KD ≠ KB; omega,
    F0.out.2.2, F1.out.2.2, F2.out.2.2, F4.out.2.2, F6.out.2.2, (fun h => absurd rfl h), F5.out.2.2.2,
    ⟨LL.1, LL.2.1, LL.2.2.1, LL.2.2.2.1, LL.2.2.2.2.1, (by simp), LL.2.2.2.2.2.2⟩,
    ⟨rfl, (if_neg HNE.out).symm, rfl, rfl, (by show [] = _; rw [if_neg (by show ¬ (rowN fs 5).isEmpty = true; have := HNE.out; simpa using this)]), ⟨fun z hz => ⟨HG.out.good.hM.low z hz, HG.out.good.hM.high z hz⟩, fun z hz => by have := HG.out.y z hz; omega⟩⟩, HG.out.good⟩
  ·rw [HS.out]
   exact ⟨X9.out, S9.out, I9.out, H9.out, M9.out, Y9.out, by have := D9.out; rw [HM5.out] at this; exact this, B9.out⟩
end Go.Proofs.YtmaffdhcmdhjfaaGreatDoor
