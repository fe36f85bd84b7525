/- The machine of package csm: its state; selectNode, resetFrom. The machine of package csm: overflowFrom. The machine of package csm, plain: a round over days comes to an end; what stays sane. The machine of package csm: isValidDate, next. The machine of package csm: one round over days. -/
import Derived.Test.YtmaffdhcmdhjfaaGreatDoorNP
import Derived.Deep.LoopGhost
set_option linter.unusedSimpArgs false
set_option linter.unusedVariables false
namespace Go.Proofs.YtmaffdhcmdhjfaaGreatDoor
open Go.RowKit Go.Lib
structure ListIs where
 a : Option Addr
 c : Nat
 l : List Int
structure MacIs where
 B : Nat
 s : Nat
 mi : Nat
 h : Nat
 p : DayIs
 lS : ListIs
 lMi : ListIs
 lH : ListIs
 lM : ListIs
 lY : ListIs
structure CsmAt (P : MacIs) (W : World) : Prop where
 s : W.cell? ⟨P.B, 0, none⟩ = some (.iface 146 (.pointer (some ⟨P.s, 0, none⟩)))
 mi : W.cell? ⟨P.B, 1, none⟩ = some (.iface 146 (.pointer (some ⟨P.mi, 0, none⟩)))
 h : W.cell? ⟨P.B, 2, none⟩ = some (.iface 146 (.pointer (some ⟨P.h, 0, none⟩)))
 d : W.cell? ⟨P.B, 3, none⟩ = some (.pointer (some ⟨P.p.B, 0, none⟩))
 m : W.cell? ⟨P.B, 4, none⟩ = some (.iface 146 (.pointer (some ⟨P.p.M, 0, none⟩)))
 y : W.cell? ⟨P.B, 5, none⟩ = some (.iface 146 (.pointer (some ⟨P.p.Y, 0, none⟩)))
structure MacS (P : MacIs) (c : Csm.Cfg) (Q : Csm.St → World → Prop) : Prop where
 cs : ∀ st W, Q st W → CsmAt P W
 ext : ∀ st W W', Q st W → Ext W W' → Q st W'
 day : ∀ h mi s, DayS P.p P.lM.a P.lM.c P.lM.l P.lY.a P.lY.c P.lY.l (fun y m d => Q ⟨y, m, d, h, mi, s⟩)
 nS : ∀ st : Csm.St, NodeS P.s 0 59 P.lS.a P.lS.c c.S (fun v => Q { st with s := v })
 nMi : ∀ st : Csm.St, NodeS P.mi 0 59 P.lMi.a P.lMi.c c.Mi (fun v => Q { st with mi := v })
 nH : ∀ st : Csm.St, NodeS P.h 0 59 P.lH.a P.lH.c c.H (fun v => Q { st with h := v })
 lk : Link P.p P.lM.l P.lY.l c
 good : Csm.Good c
def MacIs.node (P : MacIs) (k : Int) : Value :=
 if k = 5 then .iface 146 (.pointer (some ⟨P.p.Y, 0, none⟩)) else if k = 4 then .iface 146 (.pointer (some ⟨P.p.M, 0, none⟩)) else if k = 3 then .iface 148 (.pointer (some ⟨P.p.B, 0, none⟩))
 else if k = 2 then .iface 146 (.pointer (some ⟨P.h, 0, none⟩)) else if k = 1 then .iface 146 (.pointer (some ⟨P.mi, 0, none⟩)) else if k = 0 then .iface 146 (.pointer (some ⟨P.s, 0, none⟩)) else .nilIface
set_option maxHeartbeats 1600000 in
set_option maxRecDepth 1000000 in
theorem select_node (P : MacIs) (k : Int) (k0 : -1 ≤ k) (k1 : k ≤ 6) (w : World) (h : CsmAt P w) :
 Calls Tryz.prog 141 #[.pointer (some ⟨P.B, 0, none⟩), .int .i64 k] w fun e w' => e = .returned (P.node k) ∧ w = w' := by
 obtain ⟨c0, c1, c2, c3, c4, c5⟩ := h
 rcases (show k = -1 ∨ k = 0 ∨ k = 1 ∨ k = 2 ∨ k = 3 ∨ k = 4 ∨ k = 5 ∨ k = 6 by omega) with rfl | rfl | rfl | rfl | rfl | rfl | rfl | rfl
 all_goals (
  go_enter Tryz.func141, Tryz.ntmps141
  go_wp2_with fail
  go_ret
  exact ⟨rfl, rfl⟩)
theorem d_next (a : Addr) (w : World) : (method 334 148 (.pointer (some a)) "Next").run Tryz.prog w = .ok (163, .pointer (some a)) w := by kernel_rfl
theorem d_reset (a : Addr) (w : World) : (method 334 148 (.pointer (some a)) "Reset").run Tryz.prog w = .ok (165, .pointer (some a)) w := by kernel_rfl
set_option maxHeartbeats 1600000 in
set_option maxRecDepth 1000000 in
theorem reset_none (P : MacIs) (w : World) (h : CsmAt P w) :
 Calls Tryz.prog 142 #[.pointer (some ⟨P.B, 0, none⟩), .int .i64 (-1)] w fun e w' => e = .returned (.tuple #[]) ∧ w = w' := by
 have HSL := Lib.hid (select_node P (-1) (by omega) (by omega) w h)
 go_enter Tryz.func142, Tryz.ntmps142
 go_wp2_with fail
 go_at_call 141
 refine HSL.out.mono ?_
 rintro e w1 ⟨rfl, rfl⟩
 rw [show P.node (-1) = .nilIface from rfl]
 go_wp2_with fail
 refine bodyPost_ret (results_none rfl _ _ _) rfl ?_
 exact ⟨rfl, rfl⟩
structure StIn (st : Csm.St) : Prop where
 y0 : 1900 ≤ st.y
 y1 : st.y ≤ 999980
 m0 : 1 ≤ st.m
 m1 : st.m ≤ 12
set_option maxHeartbeats 1600000 in
set_option maxRecDepth 1000000 in
theorem reset_secs {P : MacIs} {c : Csm.Cfg} {Q : Csm.St → World → Prop} (hQ : MacS P c Q) (st : Csm.St) (w : World) (h : Q st w) :
 Calls Tryz.prog 142 #[.pointer (some ⟨P.B, 0, none⟩), .int .i64 0] w fun e w' => e = .returned (.tuple #[]) ∧ Q (Csm.resetSecs c st) w' := by
 have HSL := Lib.hid (select_node P 0 (by omega) (by omega) w (hQ.cs _ _ h))
 have HRS : Hid (∀ W, Q st W → Calls Tryz.prog 228 #[.pointer (some ⟨P.s, 0, none⟩)] W fun e w' => e = .returned (.tuple #[]) ∧ Q ({ st with s := Csm.creset 0 59 c.S }) w') := fun W hW => by
  exact node_reset (hQ.nS st) st.s (by omega) (by omega) W hW
 have HCS : Hid (∀ W, Q ({ st with s := Csm.creset 0 59 c.S }) W → CsmAt P W) := fun W hW => hQ.cs _ _ hW
 have HNX : Hid (∀ W, Q ({ st with s := Csm.creset 0 59 c.S }) W → Calls Tryz.prog 142 #[.pointer (some ⟨P.B, 0, none⟩), .int .i64 (-1)] W fun e w' => e = .returned (.tuple #[]) ∧ Q (Csm.resetSecs c st) w') := fun W hW => by
  refine (reset_none P W (hQ.cs _ _ hW)).mono ?_
  rintro e w' ⟨rfl, rfl⟩
  exact ⟨rfl, hW⟩
 generalize Csm.resetSecs c st = st2 at *
 generalize { st with s := Csm.creset 0 59 c.S } = st1 at *
 have v1 := m_reset ⟨P.s, 0, none⟩
 have H := Lib.hid h
 clear h hQ
 go_enter Tryz.func142, Tryz.ntmps142
 go_wp2_with fail
 go_at_call 141
 refine HSL.out.mono ?_
 rintro e w1 ⟨rfl, rfl⟩
 rw [show P.node 0 = .iface 146 (.pointer (some ⟨P.s, 0, none⟩)) from rfl]
 go_wp2_with fail
 go_at_call 228
 refine (HRS.out _ H.out).mono ?_
 rintro e w2 ⟨rfl, h2⟩
 have H2 := Lib.hid h2
 clear h2
 go_wp2_with fail
 go_at_call 142
 refine (HNX.out _ H2.out).mono ?_
 rintro e w3 ⟨rfl, h3⟩
 have H3 := Lib.hid h3
 clear h3
 go_wp2_with fail
 go_end0
 exact ⟨rfl, H3.out⟩
set_option maxHeartbeats 1600000 in
set_option maxRecDepth 1000000 in
theorem reset_mins {P : MacIs} {c : Csm.Cfg} {Q : Csm.St → World → Prop} (hQ : MacS P c Q) (st : Csm.St) (w : World) (h : Q st w) :
 Calls Tryz.prog 142 #[.pointer (some ⟨P.B, 0, none⟩), .int .i64 1] w fun e w' => e = .returned (.tuple #[]) ∧ Q (Csm.resetMins c st) w' := by
 have HSL := Lib.hid (select_node P 1 (by omega) (by omega) w (hQ.cs _ _ h))
 have HRS : Hid (∀ W, Q st W → Calls Tryz.prog 228 #[.pointer (some ⟨P.mi, 0, none⟩)] W fun e w' => e = .returned (.tuple #[]) ∧ Q ({ st with mi := Csm.creset 0 59 c.Mi }) w') := fun W hW => by
  exact node_reset (hQ.nMi st) st.mi (by omega) (by omega) W hW
 have HCS : Hid (∀ W, Q ({ st with mi := Csm.creset 0 59 c.Mi }) W → CsmAt P W) := fun W hW => hQ.cs _ _ hW
 have HNX : Hid (∀ W, Q ({ st with mi := Csm.creset 0 59 c.Mi }) W → Calls Tryz.prog 142 #[.pointer (some ⟨P.B, 0, none⟩), .int .i64 (0)] W fun e w' => e = .returned (.tuple #[]) ∧ Q (Csm.resetMins c st) w') := fun W hW => by
  exact reset_secs hQ _ W hW
 generalize Csm.resetMins c st = st2 at *
 generalize { st with mi := Csm.creset 0 59 c.Mi } = st1 at *
 have v1 := m_reset ⟨P.mi, 0, none⟩
 have H := Lib.hid h
 clear h hQ
 go_enter Tryz.func142, Tryz.ntmps142
 go_wp2_with fail
 go_at_call 141
 refine HSL.out.mono ?_
 rintro e w1 ⟨rfl, rfl⟩
 rw [show P.node 1 = .iface 146 (.pointer (some ⟨P.mi, 0, none⟩)) from rfl]
 go_wp2_with fail
 go_at_call 228
 refine (HRS.out _ H.out).mono ?_
 rintro e w2 ⟨rfl, h2⟩
 have H2 := Lib.hid h2
 clear h2
 go_wp2_with fail
 go_at_call 142
 refine (HNX.out _ H2.out).mono ?_
 rintro e w3 ⟨rfl, h3⟩
 have H3 := Lib.hid h3
 clear h3
 go_wp2_with fail
 go_end0
 exact ⟨rfl, H3.out⟩
set_option maxHeartbeats 1600000 in
set_option maxRecDepth 1000000 in
theorem reset_hours {P : MacIs} {c : Csm.Cfg} {Q : Csm.St → World → Prop} (hQ : MacS P c Q) (st : Csm.St) (w : World) (h : Q st w) :
 Calls Tryz.prog 142 #[.pointer (some ⟨P.B, 0, none⟩), .int .i64 2] w fun e w' => e = .returned (.tuple #[]) ∧ Q (Csm.resetHours c st) w' := by
 have HSL := Lib.hid (select_node P 2 (by omega) (by omega) w (hQ.cs _ _ h))
 have HRS : Hid (∀ W, Q st W → Calls Tryz.prog 228 #[.pointer (some ⟨P.h, 0, none⟩)] W fun e w' => e = .returned (.tuple #[]) ∧ Q ({ st with h := Csm.creset 0 59 c.H }) w') := fun W hW => by
  exact node_reset (hQ.nH st) st.h (by omega) (by omega) W hW
 have HCS : Hid (∀ W, Q ({ st with h := Csm.creset 0 59 c.H }) W → CsmAt P W) := fun W hW => hQ.cs _ _ hW
 have HNX : Hid (∀ W, Q ({ st with h := Csm.creset 0 59 c.H }) W → Calls Tryz.prog 142 #[.pointer (some ⟨P.B, 0, none⟩), .int .i64 (1)] W fun e w' => e = .returned (.tuple #[]) ∧ Q (Csm.resetHours c st) w') := fun W hW => by
  exact reset_mins hQ _ W hW
 generalize Csm.resetHours c st = st2 at *
 generalize { st with h := Csm.creset 0 59 c.H } = st1 at *
 have v1 := m_reset ⟨P.h, 0, none⟩
 have H := Lib.hid h
 clear h hQ
 go_enter Tryz.func142, Tryz.ntmps142
 go_wp2_with fail
 go_at_call 141
 refine HSL.out.mono ?_
 rintro e w1 ⟨rfl, rfl⟩
 rw [show P.node 2 = .iface 146 (.pointer (some ⟨P.h, 0, none⟩)) from rfl]
 go_wp2_with fail
 go_at_call 228
 refine (HRS.out _ H.out).mono ?_
 rintro e w2 ⟨rfl, h2⟩
 have H2 := Lib.hid h2
 clear h2
 go_wp2_with fail
 go_at_call 142
 refine (HNX.out _ H2.out).mono ?_
 rintro e w3 ⟨rfl, h3⟩
 have H3 := Lib.hid h3
 clear h3
 go_wp2_with fail
 go_end0
 exact ⟨rfl, H3.out⟩
set_option maxHeartbeats 1600000 in
set_option maxRecDepth 1000000 in
theorem reset_days {P : MacIs} {c : Csm.Cfg} {Q : Csm.St → World → Prop} (hQ : MacS P c Q) (st : Csm.St) (hs : StIn st) (w : World) (h : Q st w) :
 Calls Tryz.prog 142 #[.pointer (some ⟨P.B, 0, none⟩), .int .i64 3] w fun e w' => e = .returned (.tuple #[]) ∧ Q (Csm.resetDays c st) w' := by
 have HSL := Lib.hid (select_node P 3 (by omega) (by omega) w (hQ.cs _ _ h))
 have HRS : Hid (∀ W, Q st W → Calls Tryz.prog 165 #[.pointer (some ⟨P.p.B, 0, none⟩)] W fun e w' => e = .returned (.tuple #[]) ∧ Q (Csm.setDay st (Csm.dayReset c st.y st.m)) w') := fun W hW => by
  exact day_reset (hQ.day st.h st.mi st.s) hQ.lk hQ.good st.y st.m st.d hs.y0 hs.y1 hs.m0 hs.m1 W hW
 have HCS : Hid (∀ W, Q (Csm.setDay st (Csm.dayReset c st.y st.m)) W → CsmAt P W) := fun W hW => hQ.cs _ _ hW
 have HNX : Hid (∀ W, Q (Csm.setDay st (Csm.dayReset c st.y st.m)) W → Calls Tryz.prog 142 #[.pointer (some ⟨P.B, 0, none⟩), .int .i64 (2)] W fun e w' => e = .returned (.tuple #[]) ∧ Q (Csm.resetDays c st) w') := fun W hW => by
  exact reset_hours hQ _ W hW
 generalize Csm.resetDays c st = st2 at *
 generalize Csm.setDay st (Csm.dayReset c st.y st.m) = st1 at *
 have v1 := d_reset ⟨P.p.B, 0, none⟩
 have H := Lib.hid h
 clear h hQ
 go_enter Tryz.func142, Tryz.ntmps142
 go_wp2_with fail
 go_at_call 141
 refine HSL.out.mono ?_
 rintro e w1 ⟨rfl, rfl⟩
 rw [show P.node 3 = .iface 148 (.pointer (some ⟨P.p.B, 0, none⟩)) from rfl]
 go_wp2_with fail
 go_at_call 165
 refine (HRS.out _ H.out).mono ?_
 rintro e w2 ⟨rfl, h2⟩
 have H2 := Lib.hid h2
 clear h2
 go_wp2_with fail
 go_at_call 142
 refine (HNX.out _ H2.out).mono ?_
 rintro e w3 ⟨rfl, h3⟩
 have H3 := Lib.hid h3
 clear h3
 go_wp2_with fail
 go_end0
 exact ⟨rfl, H3.out⟩
set_option maxHeartbeats 1600000 in
set_option maxRecDepth 1000000 in
theorem reset_months {P : MacIs} {c : Csm.Cfg} {Q : Csm.St → World → Prop} (hQ : MacS P c Q) (st : Csm.St) (hs : StIn st) (w : World) (h : Q st w) :
 Calls Tryz.prog 142 #[.pointer (some ⟨P.B, 0, none⟩), .int .i64 4] w fun e w' => e = .returned (.tuple #[]) ∧ Q (Csm.resetMonths c st) w' := by
 have HSL := Lib.hid (select_node P 4 (by omega) (by omega) w (hQ.cs _ _ h))
 have hcm : 1 ≤ Csm.creset 1 12 c.M ∧ Csm.creset 1 12 c.M ≤ 12 := by
  have := cnext_m (M := c.M) (by rw [← hQ.lk.eqM]; exact hQ.lk.ok.m) (m := 12) (by omega) (by omega)
  exact this
 have HRS : Hid (∀ W, Q st W → Calls Tryz.prog 228 #[.pointer (some ⟨P.p.M, 0, none⟩)] W fun e w' => e = .returned (.tuple #[]) ∧ Q ({ st with m := Csm.creset 1 12 c.M }) w') := fun W hW => by
  have := node_reset ((hQ.day st.h st.mi st.s).nM st.y st.d) st.m (by omega) (by omega) W hW
  rw [hQ.lk.eqM] at this
  exact this
 have HCS : Hid (∀ W, Q ({ st with m := Csm.creset 1 12 c.M }) W → CsmAt P W) := fun W hW => hQ.cs _ _ hW
 have HNX : Hid (∀ W, Q ({ st with m := Csm.creset 1 12 c.M }) W → Calls Tryz.prog 142 #[.pointer (some ⟨P.B, 0, none⟩), .int .i64 (3)] W fun e w' => e = .returned (.tuple #[]) ∧ Q (Csm.resetMonths c st) w') := fun W hW => by
  exact reset_days hQ { st with m := Csm.creset 1 12 c.M } ⟨hs.y0, hs.y1, hcm.1, hcm.2⟩ W hW
 generalize Csm.resetMonths c st = st2 at *
 generalize { st with m := Csm.creset 1 12 c.M } = st1 at *
 have v1 := m_reset ⟨P.p.M, 0, none⟩
 have H := Lib.hid h
 clear h hQ
 go_enter Tryz.func142, Tryz.ntmps142
 go_wp2_with fail
 go_at_call 141
 refine HSL.out.mono ?_
 rintro e w1 ⟨rfl, rfl⟩
 rw [show P.node 4 = .iface 146 (.pointer (some ⟨P.p.M, 0, none⟩)) from rfl]
 go_wp2_with fail
 go_at_call 228
 refine (HRS.out _ H.out).mono ?_
 rintro e w2 ⟨rfl, h2⟩
 have H2 := Lib.hid h2
 clear h2
 go_wp2_with fail
 go_at_call 142
 refine (HNX.out _ H2.out).mono ?_
 rintro e w3 ⟨rfl, h3⟩
 have H3 := Lib.hid h3
 clear h3
 go_wp2_with fail
 go_end0
 exact ⟨rfl, H3.out⟩
end Go.Proofs.YtmaffdhcmdhjfaaGreatDoor
namespace Go.Proofs.YtmaffdhcmdhjfaaGreatDoor
open Go.RowKit Go.Lib
theorem dayNext_bd {P : MacIs} {c : Csm.Cfg} {Q : Csm.St → World → Prop} (hQ : MacS P c Q) {y m d : Int} (y0 : 1900 ≤ y) (y1 : y ≤ 999980) (m0 : 1 ≤ m) (m1 : m ≤ 12) :
 1900 ≤ (Csm.dayNext c y m d).1.1 ∧ ((Csm.dayNext c y m d).1.1 ≤ y + 1 ∨ (Csm.dayNext c y m d).1.1 ≤ 900000) ∧ 1 ≤ (Csm.dayNext c y m d).1.2.1 ∧ (Csm.dayNext c y m d).1.2.1 ≤ 12 := by
 have ha := advM_bd hQ.lk.ok (y := y) (m := m) y0 (by omega) m0 m1
 have e : advM P.lM.l P.lY.l y m = Csm.advMonth c y m := by rw [hQ.lk.eqM, hQ.lk.eqY]; exact advM_eq
 rw [e] at ha
 unfold Csm.dayNext
 split
 ·split
  ·exact ⟨y0, .inl (by simp only; omega), m0, m1⟩
  ·exact ⟨y0, .inl (by simp only; omega), m0, m1⟩
 ·split
  ·exact ha
  ·exact ⟨y0, .inl (by simp only; omega), m0, m1⟩
def DayOk (c : Csm.Cfg) (st : Csm.St) : Prop := -40 ≤ st.d ∧ st.d ≤ 80 ∧ (c.W ≠ [] → c.n = 0 → 1 ≤ st.d ∧ st.d ≤ Cal.mlen st.y st.m)
set_option maxHeartbeats 1600000 in
set_option maxRecDepth 1000000 in
theorem over_none (P : MacIs) (w : World) (h : CsmAt P w) :
 Calls Tryz.prog 143 #[.pointer (some ⟨P.B, 0, none⟩), .int .i64 6] w fun e w' => e = .returned (.tuple #[]) ∧ w = w' := by
 have HSL := Lib.hid (select_node P 6 (by omega) (by omega) w h)
 go_enter Tryz.func143, Tryz.ntmps143
 go_wp2_with fail
 go_at_call 141
 refine HSL.out.mono ?_
 rintro e w1 ⟨rfl, rfl⟩
 rw [show P.node 6 = .nilIface from rfl]
 go_wp2_with fail
 refine bodyPost_ret (results_none rfl _ _ _) rfl ?_
 exact ⟨rfl, rfl⟩
set_option maxHeartbeats 1600000 in
set_option maxRecDepth 1000000 in
theorem over_years {P : MacIs} {c : Csm.Cfg} {Q : Csm.St → World → Prop} (hQ : MacS P c Q) (st : Csm.St) (hs : StIn st) (y9 : st.y ≤ 999970) (w : World) (h : Q st w) :
 Calls Tryz.prog 143 #[.pointer (some ⟨P.B, 0, none⟩), .int .i64 5] w fun e w' => e = .returned (.tuple #[]) ∧ Q (Csm.ovYears c st) w' := by
 have HSL := Lib.hid (select_node P 5 (by omega) (by omega) w (hQ.cs _ _ h))
 have hyb := cnext_y (Y := c.Y) (by rw [← hQ.lk.eqY]; exact hQ.lk.ok.y) hs.y0 (by omega : st.y ≤ 999990)
 have HRS : Hid (∀ W, Q st W → Calls Tryz.prog 194 #[.pointer (some ⟨P.p.Y, 0, none⟩)] W fun e w' => e = .returned (.bool ((Csm.cnext 0 999999 c.Y st.y).2)) ∧ Q ({ st with y := (Csm.cnext 0 999999 c.Y st.y).1 }) w') := fun W hW => by
  have := node_next ((hQ.day st.h st.mi st.s).nY st.m st.d) st.y (by have := hs.y0; omega) (by omega) W hW
  rw [hQ.lk.eqY] at this
  exact this
 have HOV : Hid ((Csm.cnext 0 999999 c.Y st.y).2 = true → ∀ W, Q ({ st with y := (Csm.cnext 0 999999 c.Y st.y).1 }) W → Calls Tryz.prog 143 #[.pointer (some ⟨P.B, 0, none⟩), .int .i64 (6)] W fun e w' => e = .returned (.tuple #[]) ∧ Q (Csm.ovYears c st) w') := fun hr W hW => by
  have e : Csm.ovYears c st = { st with y := (Csm.cnext 0 999999 c.Y st.y).1 } := by unfold Csm.ovYears; simp only [hr, if_true]
  rw [e]
  refine (over_none P W (hQ.cs _ _ hW)).mono ?_
  rintro e w' ⟨rfl, rfl⟩
  exact ⟨rfl, hW⟩
 have HLO : Hid ((Csm.cnext 0 999999 c.Y st.y).2 = false → ∀ W, Q ({ st with y := (Csm.cnext 0 999999 c.Y st.y).1 }) W → Calls Tryz.prog 142 #[.pointer (some ⟨P.B, 0, none⟩), .int .i64 (4)] W fun e w' => e = .returned (.tuple #[]) ∧ Q (Csm.ovYears c st) w') := fun hr W hW => by
  have e : Csm.ovYears c st = Csm.resetMonths c { st with y := (Csm.cnext 0 999999 c.Y st.y).1 } := by unfold Csm.ovYears; simp only [hr, Bool.false_eq_true, if_false]
  rw [e]
  exact reset_months hQ { st with y := (Csm.cnext 0 999999 c.Y st.y).1 } ⟨hyb.1, by have := hyb.2; simp only; omega, hs.m0, hs.m1⟩ W hW
 generalize Csm.ovYears c st = st2 at *
 generalize { st with y := (Csm.cnext 0 999999 c.Y st.y).1 } = st1 at *
 generalize (Csm.cnext 0 999999 c.Y st.y).2 = r at *
 have v1 := m_next ⟨P.p.Y, 0, none⟩
 have H := Lib.hid h
 clear h hQ
 go_enter Tryz.func143, Tryz.ntmps143
 go_wp2_with fail
 go_at_call 141
 refine HSL.out.mono ?_
 rintro e w1 ⟨rfl, rfl⟩
 rw [show P.node 5 = .iface 146 (.pointer (some ⟨P.p.Y, 0, none⟩)) from rfl]
 go_wp2_with fail
 go_at_call 194
 refine (HRS.out _ H.out).mono ?_
 rintro e w2 ⟨rfl, h2⟩
 have H2 := Lib.hid h2
 clear h2
 rcases r
 ·have HL2 := Lib.hid (HLO.out rfl _ H2.out)
  clear HLO HOV
  go_wp2_with fail
  go_at_call 142
  refine HL2.out.mono ?_
  rintro e w3 ⟨rfl, h3⟩
  have H3 := Lib.hid h3
  clear h3
  go_wp2_with fail
  go_end0
  exact ⟨rfl, H3.out⟩
 ·have HL2 := Lib.hid (HOV.out rfl _ H2.out)
  clear HLO HOV
  go_wp2_with fail
  go_at_call 143
  refine HL2.out.mono ?_
  rintro e w3 ⟨rfl, h3⟩
  have H3 := Lib.hid h3
  clear h3
  go_wp2_with fail
  go_end0
  exact ⟨rfl, H3.out⟩
set_option maxHeartbeats 1600000 in
set_option maxRecDepth 1000000 in
theorem over_months {P : MacIs} {c : Csm.Cfg} {Q : Csm.St → World → Prop} (hQ : MacS P c Q) (st : Csm.St) (hs : StIn st) (y9 : st.y ≤ 999970) (w : World) (h : Q st w) :
 Calls Tryz.prog 143 #[.pointer (some ⟨P.B, 0, none⟩), .int .i64 4] w fun e w' => e = .returned (.tuple #[]) ∧ Q (Csm.ovMonths c st) w' := by
 have HSL := Lib.hid (select_node P 4 (by omega) (by omega) w (hQ.cs _ _ h))
 have hmb := cnext_m (M := c.M) (by rw [← hQ.lk.eqM]; exact hQ.lk.ok.m) (by have := hs.m0; omega : 0 ≤ st.m) hs.m1
 have HRS : Hid (∀ W, Q st W → Calls Tryz.prog 194 #[.pointer (some ⟨P.p.M, 0, none⟩)] W fun e w' => e = .returned (.bool ((Csm.cnext 1 12 c.M st.m).2)) ∧ Q ({ st with m := (Csm.cnext 1 12 c.M st.m).1 }) w') := fun W hW => by
  have := node_next ((hQ.day st.h st.mi st.s).nM st.y st.d) st.m (by have := hs.m0; omega) (by have := hs.m1; omega) W hW
  rw [hQ.lk.eqM] at this
  exact this
 have HOV : Hid ((Csm.cnext 1 12 c.M st.m).2 = true → ∀ W, Q ({ st with m := (Csm.cnext 1 12 c.M st.m).1 }) W → Calls Tryz.prog 143 #[.pointer (some ⟨P.B, 0, none⟩), .int .i64 (5)] W fun e w' => e = .returned (.tuple #[]) ∧ Q (Csm.ovMonths c st) w') := fun hr W hW => by
  have e : Csm.ovMonths c st = Csm.ovYears c { st with m := (Csm.cnext 1 12 c.M st.m).1 } := by unfold Csm.ovMonths; simp only [hr, if_true]
  rw [e]
  exact over_years hQ { st with m := (Csm.cnext 1 12 c.M st.m).1 } ⟨hs.y0, hs.y1, hmb.1, hmb.2⟩ y9 W hW
 have HLO : Hid ((Csm.cnext 1 12 c.M st.m).2 = false → ∀ W, Q ({ st with m := (Csm.cnext 1 12 c.M st.m).1 }) W → Calls Tryz.prog 142 #[.pointer (some ⟨P.B, 0, none⟩), .int .i64 (3)] W fun e w' => e = .returned (.tuple #[]) ∧ Q (Csm.ovMonths c st) w') := fun hr W hW => by
  have e : Csm.ovMonths c st = Csm.resetDays c { st with m := (Csm.cnext 1 12 c.M st.m).1 } := by unfold Csm.ovMonths; simp only [hr, Bool.false_eq_true, if_false]
  rw [e]
  exact reset_days hQ { st with m := (Csm.cnext 1 12 c.M st.m).1 } ⟨hs.y0, hs.y1, hmb.1, hmb.2⟩ W hW
 generalize Csm.ovMonths c st = st2 at *
 generalize { st with m := (Csm.cnext 1 12 c.M st.m).1 } = st1 at *
 generalize (Csm.cnext 1 12 c.M st.m).2 = r at *
 have v1 := m_next ⟨P.p.M, 0, none⟩
 have H := Lib.hid h
 clear h hQ
 go_enter Tryz.func143, Tryz.ntmps143
 go_wp2_with fail
 go_at_call 141
 refine HSL.out.mono ?_
 rintro e w1 ⟨rfl, rfl⟩
 rw [show P.node 4 = .iface 146 (.pointer (some ⟨P.p.M, 0, none⟩)) from rfl]
 go_wp2_with fail
 go_at_call 194
 refine (HRS.out _ H.out).mono ?_
 rintro e w2 ⟨rfl, h2⟩
 have H2 := Lib.hid h2
 clear h2
 rcases r
 ·have HL2 := Lib.hid (HLO.out rfl _ H2.out)
  clear HLO HOV
  go_wp2_with fail
  go_at_call 142
  refine HL2.out.mono ?_
  rintro e w3 ⟨rfl, h3⟩
  have H3 := Lib.hid h3
  clear h3
  go_wp2_with fail
  go_end0
  exact ⟨rfl, H3.out⟩
 ·have HL2 := Lib.hid (HOV.out rfl _ H2.out)
  clear HLO HOV
  go_wp2_with fail
  go_at_call 143
  refine HL2.out.mono ?_
  rintro e w3 ⟨rfl, h3⟩
  have H3 := Lib.hid h3
  clear h3
  go_wp2_with fail
  go_end0
  exact ⟨rfl, H3.out⟩
set_option maxHeartbeats 1600000 in
set_option maxRecDepth 1000000 in
theorem over_days {P : MacIs} {c : Csm.Cfg} {Q : Csm.St → World → Prop} (hQ : MacS P c Q) (st : Csm.St) (hs : StIn st) (hd : DayOk c st) (y9 : st.y ≤ 999960) (w : World) (h : Q st w) :
 Calls Tryz.prog 143 #[.pointer (some ⟨P.B, 0, none⟩), .int .i64 3] w fun e w' => e = .returned (.tuple #[]) ∧ Q (Csm.ovDays c st) w' := by
 have HSL := Lib.hid (select_node P 3 (by omega) (by omega) w (hQ.cs _ _ h))
 have hdb := dayNext_bd hQ (y := st.y) (m := st.m) (d := st.d) hs.y0 hs.y1 hs.m0 hs.m1
 have HRS : Hid (∀ W, Q st W → Calls Tryz.prog 163 #[.pointer (some ⟨P.p.B, 0, none⟩)] W fun e w' => e = .returned (.bool ((Csm.dayNext c st.y st.m st.d).2)) ∧ Q (Csm.setDay st (Csm.dayNext c st.y st.m st.d).1) w') := fun W hW => by
  exact day_next (hQ.day st.h st.mi st.s) hQ.lk hQ.good st.y st.m st.d ⟨hs.y0, by have := hs.y1; omega, hs.m0, hs.m1, hd.1, hd.2.1⟩ hs.y1 hd.2.2 W hW
 have HOV : Hid ((Csm.dayNext c st.y st.m st.d).2 = true → ∀ W, Q (Csm.setDay st (Csm.dayNext c st.y st.m st.d).1) W → Calls Tryz.prog 143 #[.pointer (some ⟨P.B, 0, none⟩), .int .i64 (4)] W fun e w' => e = .returned (.tuple #[]) ∧ Q (Csm.ovDays c st) w') := fun hr W hW => by
  have e : Csm.ovDays c st = Csm.ovMonths c (Csm.setDay st (Csm.dayNext c st.y st.m st.d).1) := by unfold Csm.ovDays; simp only [hr, if_true]
  rw [e]
  exact over_months hQ (Csm.setDay st (Csm.dayNext c st.y st.m st.d).1) ⟨hdb.1, by have := hdb.2.1; show (Csm.dayNext c st.y st.m st.d).1.1 ≤ 999980; omega, hdb.2.2.1, hdb.2.2.2⟩ (by have := hdb.2.1; show (Csm.dayNext c st.y st.m st.d).1.1 ≤ 999970; omega) W hW
 have HLO : Hid ((Csm.dayNext c st.y st.m st.d).2 = false → ∀ W, Q (Csm.setDay st (Csm.dayNext c st.y st.m st.d).1) W → Calls Tryz.prog 142 #[.pointer (some ⟨P.B, 0, none⟩), .int .i64 (2)] W fun e w' => e = .returned (.tuple #[]) ∧ Q (Csm.ovDays c st) w') := fun hr W hW => by
  have e : Csm.ovDays c st = Csm.resetHours c (Csm.setDay st (Csm.dayNext c st.y st.m st.d).1) := by unfold Csm.ovDays; simp only [hr, Bool.false_eq_true, if_false]
  rw [e]
  exact reset_hours hQ (Csm.setDay st (Csm.dayNext c st.y st.m st.d).1) W hW
 generalize Csm.ovDays c st = st2 at *
 generalize Csm.setDay st (Csm.dayNext c st.y st.m st.d).1 = st1 at *
 generalize (Csm.dayNext c st.y st.m st.d).2 = r at *
 have v1 := d_next ⟨P.p.B, 0, none⟩
 have H := Lib.hid h
 clear h hQ
 go_enter Tryz.func143, Tryz.ntmps143
 go_wp2_with fail
 go_at_call 141
 refine HSL.out.mono ?_
 rintro e w1 ⟨rfl, rfl⟩
 rw [show P.node 3 = .iface 148 (.pointer (some ⟨P.p.B, 0, none⟩)) from rfl]
 go_wp2_with fail
 go_at_call 163
 refine (HRS.out _ H.out).mono ?_
 rintro e w2 ⟨rfl, h2⟩
 have H2 := Lib.hid h2
 clear h2
 rcases r
 ·have HL2 := Lib.hid (HLO.out rfl _ H2.out)
  clear HLO HOV
  go_wp2_with fail
  go_at_call 142
  refine HL2.out.mono ?_
  rintro e w3 ⟨rfl, h3⟩
  have H3 := Lib.hid h3
  clear h3
  go_wp2_with fail
  go_end0
  exact ⟨rfl, H3.out⟩
 ·have HL2 := Lib.hid (HOV.out rfl _ H2.out)
  clear HLO HOV
  go_wp2_with fail
  go_at_call 143
  refine HL2.out.mono ?_
  rintro e w3 ⟨rfl, h3⟩
  have H3 := Lib.hid h3
  clear h3
  go_wp2_with fail
  go_end0
  exact ⟨rfl, H3.out⟩
set_option maxHeartbeats 1600000 in
set_option maxRecDepth 1000000 in
theorem over_hours {P : MacIs} {c : Csm.Cfg} {Q : Csm.St → World → Prop} (hQ : MacS P c Q) (st : Csm.St) (hs : StIn st) (hd : DayOk c st) (y9 : st.y ≤ 999960) (hv0 : -100 ≤ st.h) (hv1 : st.h ≤ 1000) (w : World) (h : Q st w) :
 Calls Tryz.prog 143 #[.pointer (some ⟨P.B, 0, none⟩), .int .i64 2] w fun e w' => e = .returned (.tuple #[]) ∧ Q (Csm.ovHours c st) w' := by
 have HSL := Lib.hid (select_node P 2 (by omega) (by omega) w (hQ.cs _ _ h))
 have HRS : Hid (∀ W, Q st W → Calls Tryz.prog 194 #[.pointer (some ⟨P.h, 0, none⟩)] W fun e w' => e = .returned (.bool ((Csm.cnext 0 59 c.H st.h).2)) ∧ Q ({ st with h := (Csm.cnext 0 59 c.H st.h).1 }) w') := fun W hW => by
  exact node_next (hQ.nH st) st.h hv0 (by omega) W hW
 have HOV : Hid ((Csm.cnext 0 59 c.H st.h).2 = true → ∀ W, Q ({ st with h := (Csm.cnext 0 59 c.H st.h).1 }) W → Calls Tryz.prog 143 #[.pointer (some ⟨P.B, 0, none⟩), .int .i64 (3)] W fun e w' => e = .returned (.tuple #[]) ∧ Q (Csm.ovHours c st) w') := fun hr W hW => by
  have e : Csm.ovHours c st = Csm.ovDays c { st with h := (Csm.cnext 0 59 c.H st.h).1 } := by unfold Csm.ovHours; simp only [hr, if_true]
  rw [e]
  exact over_days hQ { st with h := (Csm.cnext 0 59 c.H st.h).1 } ⟨hs.y0, hs.y1, hs.m0, hs.m1⟩ hd y9 W hW
 have HLO : Hid ((Csm.cnext 0 59 c.H st.h).2 = false → ∀ W, Q ({ st with h := (Csm.cnext 0 59 c.H st.h).1 }) W → Calls Tryz.prog 142 #[.pointer (some ⟨P.B, 0, none⟩), .int .i64 (1)] W fun e w' => e = .returned (.tuple #[]) ∧ Q (Csm.ovHours c st) w') := fun hr W hW => by
  have e : Csm.ovHours c st = Csm.resetMins c { st with h := (Csm.cnext 0 59 c.H st.h).1 } := by unfold Csm.ovHours; simp only [hr, Bool.false_eq_true, if_false]
  rw [e]
  exact reset_mins hQ { st with h := (Csm.cnext 0 59 c.H st.h).1 } W hW
 generalize Csm.ovHours c st = st2 at *
 generalize { st with h := (Csm.cnext 0 59 c.H st.h).1 } = st1 at *
 generalize (Csm.cnext 0 59 c.H st.h).2 = r at *
 have v1 := m_next ⟨P.h, 0, none⟩
 have H := Lib.hid h
 clear h hQ
 go_enter Tryz.func143, Tryz.ntmps143
 go_wp2_with fail
 go_at_call 141
 refine HSL.out.mono ?_
 rintro e w1 ⟨rfl, rfl⟩
 rw [show P.node 2 = .iface 146 (.pointer (some ⟨P.h, 0, none⟩)) from rfl]
 go_wp2_with fail
 go_at_call 194
 refine (HRS.out _ H.out).mono ?_
 rintro e w2 ⟨rfl, h2⟩
 have H2 := Lib.hid h2
 clear h2
 rcases r
 ·have HL2 := Lib.hid (HLO.out rfl _ H2.out)
  clear HLO HOV
  go_wp2_with fail
  go_at_call 142
  refine HL2.out.mono ?_
  rintro e w3 ⟨rfl, h3⟩
  have H3 := Lib.hid h3
  clear h3
  go_wp2_with fail
  go_end0
  exact ⟨rfl, H3.out⟩
 ·have HL2 := Lib.hid (HOV.out rfl _ H2.out)
  clear HLO HOV
  go_wp2_with fail
  go_at_call 143
  refine HL2.out.mono ?_
  rintro e w3 ⟨rfl, h3⟩
  have H3 := Lib.hid h3
  clear h3
  go_wp2_with fail
  go_end0
  exact ⟨rfl, H3.out⟩
set_option maxHeartbeats 1600000 in
set_option maxRecDepth 1000000 in
theorem over_mins {P : MacIs} {c : Csm.Cfg} {Q : Csm.St → World → Prop} (hQ : MacS P c Q) (st : Csm.St) (hs : StIn st) (hd : DayOk c st) (y9 : st.y ≤ 999960) (hv0 : -100 ≤ st.h) (hv1 : st.h ≤ 1000) (hv2 : -100 ≤ st.mi) (hv3 : st.mi ≤ 1000) (w : World) (h : Q st w) :
 Calls Tryz.prog 143 #[.pointer (some ⟨P.B, 0, none⟩), .int .i64 1] w fun e w' => e = .returned (.tuple #[]) ∧ Q (Csm.ovMins c st) w' := by
 have HSL := Lib.hid (select_node P 1 (by omega) (by omega) w (hQ.cs _ _ h))
 have HRS : Hid (∀ W, Q st W → Calls Tryz.prog 194 #[.pointer (some ⟨P.mi, 0, none⟩)] W fun e w' => e = .returned (.bool ((Csm.cnext 0 59 c.Mi st.mi).2)) ∧ Q ({ st with mi := (Csm.cnext 0 59 c.Mi st.mi).1 }) w') := fun W hW => by
  exact node_next (hQ.nMi st) st.mi hv2 (by omega) W hW
 have HOV : Hid ((Csm.cnext 0 59 c.Mi st.mi).2 = true → ∀ W, Q ({ st with mi := (Csm.cnext 0 59 c.Mi st.mi).1 }) W → Calls Tryz.prog 143 #[.pointer (some ⟨P.B, 0, none⟩), .int .i64 (2)] W fun e w' => e = .returned (.tuple #[]) ∧ Q (Csm.ovMins c st) w') := fun hr W hW => by
  have e : Csm.ovMins c st = Csm.ovHours c { st with mi := (Csm.cnext 0 59 c.Mi st.mi).1 } := by unfold Csm.ovMins; simp only [hr, if_true]
  rw [e]
  exact over_hours hQ { st with mi := (Csm.cnext 0 59 c.Mi st.mi).1 } ⟨hs.y0, hs.y1, hs.m0, hs.m1⟩ hd y9 hv0 hv1 W hW
 have HLO : Hid ((Csm.cnext 0 59 c.Mi st.mi).2 = false → ∀ W, Q ({ st with mi := (Csm.cnext 0 59 c.Mi st.mi).1 }) W → Calls Tryz.prog 142 #[.pointer (some ⟨P.B, 0, none⟩), .int .i64 (0)] W fun e w' => e = .returned (.tuple #[]) ∧ Q (Csm.ovMins c st) w') := fun hr W hW => by
  have e : Csm.ovMins c st = Csm.resetSecs c { st with mi := (Csm.cnext 0 59 c.Mi st.mi).1 } := by unfold Csm.ovMins; simp only [hr, Bool.false_eq_true, if_false]
  rw [e]
  exact reset_secs hQ { st with mi := (Csm.cnext 0 59 c.Mi st.mi).1 } W hW
 generalize Csm.ovMins c st = st2 at *
 generalize { st with mi := (Csm.cnext 0 59 c.Mi st.mi).1 } = st1 at *
 generalize (Csm.cnext 0 59 c.Mi st.mi).2 = r at *
 have v1 := m_next ⟨P.mi, 0, none⟩
 have H := Lib.hid h
 clear h hQ
 go_enter Tryz.func143, Tryz.ntmps143
 go_wp2_with fail
 go_at_call 141
 refine HSL.out.mono ?_
 rintro e w1 ⟨rfl, rfl⟩
 rw [show P.node 1 = .iface 146 (.pointer (some ⟨P.mi, 0, none⟩)) from rfl]
 go_wp2_with fail
 go_at_call 194
 refine (HRS.out _ H.out).mono ?_
 rintro e w2 ⟨rfl, h2⟩
 have H2 := Lib.hid h2
 clear h2
 rcases r
 ·have HL2 := Lib.hid (HLO.out rfl _ H2.out)
  clear HLO HOV
  go_wp2_with fail
  go_at_call 142
  refine HL2.out.mono ?_
  rintro e w3 ⟨rfl, h3⟩
  have H3 := Lib.hid h3
  clear h3
  go_wp2_with fail
  go_end0
  exact ⟨rfl, H3.out⟩
 ·have HL2 := Lib.hid (HOV.out rfl _ H2.out)
  clear HLO HOV
  go_wp2_with fail
  go_at_call 143
  refine HL2.out.mono ?_
  rintro e w3 ⟨rfl, h3⟩
  have H3 := Lib.hid h3
  clear h3
  go_wp2_with fail
  go_end0
  exact ⟨rfl, H3.out⟩
end Go.Proofs.YtmaffdhcmdhjfaaGreatDoor
namespace Go.Proofs.YtmaffdhcmdhjfaaGreatDoor
open Go.RowKit Go.Lib
structure MacOk (c : Csm.Cfg) : Prop where
 g : Csm.Good c
 m : ∀ z ∈ c.M, 1 ≤ z ∧ z ≤ 12
 y : ∀ z ∈ c.Y, 1900 ≤ z ∧ z ≤ 900000
theorem adv_bd {c : Csm.Cfg} (h : MacOk c) {y m : Int} (y0 : 1900 ≤ y) (y1 : y ≤ 999990) (m0 : 1 ≤ m) (m1 : m ≤ 12) :
 1900 ≤ (Csm.advMonth c y m).1 ∧ ((Csm.advMonth c y m).1 ≤ y + 1 ∨ (Csm.advMonth c y m).1 ≤ 900000) ∧ 1 ≤ (Csm.advMonth c y m).2 ∧ (Csm.advMonth c y m).2 ≤ 12 := by
 have := advM_bd (M := c.M) (Y := c.Y) ⟨h.m, h.y⟩ (y := y) (m := m) y0 y1 m0 m1
 rw [advM_eq] at this
 exact this
structure SaneSt (c : Csm.Cfg) (b : Int) (st : Csm.St) : Prop where
 y0 : 1900 ≤ st.y
 y1 : st.y ≤ b
 m0 : 1 ≤ st.m
 m1 : st.m ≤ 12
 d0 : 1 ≤ st.d
 d1 : st.d ≤ 31
 dv : c.W ≠ [] → c.n = 0 → st.d ≤ Cal.mlen st.y st.m
theorem monthStep_sane {c : Csm.Cfg} (h : MacOk c) {b : Int} (b0 : 900000 ≤ b) (b1 : b ≤ 999980) {st : Csm.St} (y0 : 1900 ≤ st.y) (y1 : st.y ≤ b) (m0 : 1 ≤ st.m) (m1 : st.m ≤ 12) (d0 : 1 ≤ st.d) (d1 : st.d ≤ 28) :
 SaneSt c (b + 1) (Csm.monthStep c st) ∧ (Csm.monthStep c st).d ≤ Cal.mlen (Csm.monthStep c st).y (Csm.monthStep c st).m := by
 have ha := adv_bd h (y := st.y) (m := st.m) y0 (by omega) m0 m1
 have hb := Cal.mlen_bd (Csm.advMonth c st.y st.m).1 (Csm.advMonth c st.y st.m).2
 rw [Csm.monthStep_eq]
 split
 ·refine ⟨⟨ha.1, ?_, ha.2.2.1, ha.2.2.2, d0, by simp only; omega, fun _ _ => ?_⟩, ?_⟩
  ·have := ha.2.1; simp only; omega
  ·simp only; omega
  ·simp only; omega
 ·split
  ·rename_i hv
   have := Csm.dvalid_imp h.g hv
   refine ⟨⟨ha.1, ?_, ha.2.2.1, ha.2.2.2, d0, by simp only; omega, fun _ _ => ?_⟩, ?_⟩
   ·have := ha.2.1; simp only; omega
   ·exact this.2.1
   ·exact this.2.1
  ·obtain ⟨d, hd, hf⟩ := Csm.dayReset_first h.g (y := (Csm.advMonth c st.y st.m).1) ha.2.2.1 ha.2.2.2
   rw [hd]
   have h1 : 1 ≤ d := hf.1
   have h2 : d ≤ Cal.mlen (Csm.advMonth c st.y st.m).1 (Csm.advMonth c st.y st.m).2 := hf.2.1
   refine ⟨⟨ha.1, ?_, ha.2.2.1, ha.2.2.2, h1, ?_, fun _ _ => h2⟩, h2⟩
   ·have := ha.2.1; show (Csm.advMonth c st.y st.m).1 ≤ b + 1; omega
   ·show d ≤ 31; omega
theorem dayRound_sane {c : Csm.Cfg} (h : MacOk c) {b : Int} (b0 : 900000 ≤ b) (b1 : b ≤ 999970) {st : Csm.St} (hs : SaneSt c b st) :
 SaneSt c (b + 2) (Csm.dayRound c st) ∧ ((Csm.dayRound c st).d ≤ Cal.mlen (Csm.dayRound c st).y (Csm.dayRound c st).m ∨ st.d < (Csm.dayRound c st).d) := by
 obtain ⟨y0, y1, m0, m1, d0, d1, dv⟩ := hs
 have hb := Cal.mlen_bd st.y st.m
 have g := h.g
 rw [Csm.dayRound_eq]
 by_cases hn : c.n = 0
 ·by_cases hW : c.W = []
  ·have e : Csm.dayNext c st.y st.m st.d = ((st.y, st.m, (Csm.cnext 1 31 c.D st.d).1), (Csm.cnext 1 31 c.D st.d).2) := by
    unfold Csm.dayNext; rw [if_pos hn, hW]
   rw [e]
   simp only
   have hD := g.hD hW hn
   rcases hr : Csm.cnext 1 31 c.D st.d with ⟨x, o⟩
   have hx : 1 ≤ x ∧ x ≤ 31 ∧ (o = true → x ≤ 28) ∧ (o = false → st.d < x) := by
    unfold Csm.cnext at hr
    split at hr
    ·split at hr
     ·injection hr with a b; subst a b; exact ⟨by omega, by omega, fun _ => by omega, (fun h => by cases h)⟩
     ·injection hr with a b; subst a b; exact ⟨by omega, by omega, (fun h => by cases h), fun _ => by omega⟩
    ·rename_i a t hcd
     split at hr
     ·rename_i v hv
      injection hr with a1 b1
      subst a1 b1
      have hmem : v ∈ c.D := by rw [hcd]; exact List.mem_of_find?_eq_some hv
      have hlt := List.find?_some hv
      have := hD.low v hmem
      have := hD.high v hmem
      simp at hlt
      exact ⟨by omega, by omega, (fun h => by cases h), fun _ => hlt⟩
     ·injection hr with a1 b1
      subst a1 b1
      have := hD.low a (by rw [hcd]; simp)
      have := hD.high a (by rw [hcd]; simp)
      exact ⟨by omega, by omega, fun _ => by omega, (fun h => by cases h)⟩
   rcases o
   ·simp only [Bool.false_eq_true, if_false]
    refine ⟨⟨y0, ?_, m0, m1, hx.1, hx.2.1, fun h => absurd hW h⟩, .inr (hx.2.2.2 rfl)⟩
    show st.y ≤ b + 2; omega
   ·simp only [if_true]
    have := monthStep_sane h (b := b) b0 (by omega) (st := Csm.setDay st (st.y, st.m, x)) y0 y1 m0 m1 hx.1 (hx.2.2.1 rfl)
    obtain ⟨⟨a1, a2, a3, a4, a5, a6, a7⟩, a8⟩ := this
    exact ⟨⟨a1, by omega, a3, a4, a5, a6, a7⟩, .inl a8⟩
  ·have hd := dv hW hn
   obtain ⟨a, t, hwt⟩ := List.exists_cons_of_ne_nil hW
   have hob : 1 ≤ Csm.dowOff (a :: t) (Csm.wday st.y st.m st.d) ∧ Csm.dowOff (a :: t) (Csm.wday st.y st.m st.d) ≤ 13 := by
    have hl := g.hW
    rw [hwt] at hl
    have hwb := Csm.wday_bd st.y st.m st.d
    unfold Csm.dowOff
    cases hn2 : Csm.nxt (a :: t) (Csm.wday st.y st.m st.d) with
    | none =>
      have := hl.low a (by simp)
      have := hl.high a (by simp)
      simp only [List.headD_cons]; omega
    | some x =>
      obtain ⟨hx, hx2, _⟩ := Csm.nxt_some hl.sorted hn2
      have := hl.high x hx
      have := hl.low x hx
      simp only
      omega
   have e : Csm.dayNext c st.y st.m st.d = ((st.y, st.m, if st.d + Csm.dowOff (a :: t) (Csm.wday st.y st.m st.d) > Cal.mlen st.y st.m then st.d + Csm.dowOff (a :: t) (Csm.wday st.y st.m st.d) - Cal.mlen st.y st.m else st.d + Csm.dowOff (a :: t) (Csm.wday st.y st.m st.d)), decide (st.d + Csm.dowOff (a :: t) (Csm.wday st.y st.m st.d) > Cal.mlen st.y st.m)) := by
    unfold Csm.dayNext; rw [if_pos hn, hwt]
   rw [e]
   generalize Csm.dowOff (a :: t) (Csm.wday st.y st.m st.d) = off at *
   by_cases ho : st.d + off > Cal.mlen st.y st.m
   ·simp only [ho, decide_true, if_true]
    have := monthStep_sane h (b := b) b0 (by omega) (st := Csm.setDay st (st.y, st.m, st.d + off - Cal.mlen st.y st.m)) y0 y1 m0 m1 (by show 1 ≤ st.d + off - Cal.mlen st.y st.m; omega) (by show st.d + off - Cal.mlen st.y st.m ≤ 28; omega)
    obtain ⟨⟨a1, a2, a3, a4, a5, a6, a7⟩, a8⟩ := this
    exact ⟨⟨a1, by omega, a3, a4, a5, a6, a7⟩, .inl a8⟩
   ·simp only [ho, decide_false, if_false, Bool.false_eq_true]
    refine ⟨⟨y0, ?_, m0, m1, ?_, ?_, fun _ _ => ?_⟩, .inr ?_⟩
    ·show st.y ≤ b + 2; omega
    ·show 1 ≤ st.d + off; omega
    ·show st.d + off ≤ 31; omega
    ·show st.d + off ≤ Cal.mlen st.y st.m; omega
    ·show st.d < st.d + off; omega
 ·have ha := adv_bd h (y := st.y) (m := st.m) y0 (by omega) m0 m1
  have e : Csm.dayNext c st.y st.m st.d = if st.d ≥ Csm.tgt c st.y st.m then (((Csm.advMonth c st.y st.m).1, (Csm.advMonth c st.y st.m).2, Csm.tgt c (Csm.advMonth c st.y st.m).1 (Csm.advMonth c st.y st.m).2), false) else ((st.y, st.m, Csm.tgt c st.y st.m), false) := by
   unfold Csm.dayNext; rw [if_neg hn]
  rw [e]
  have t1 := Csm.tgt_bd g hn st.y st.m
  have t2 := Csm.tgt_bd g hn (Csm.advMonth c st.y st.m).1 (Csm.advMonth c st.y st.m).2
  have hb2 := Cal.mlen_bd (Csm.advMonth c st.y st.m).1 (Csm.advMonth c st.y st.m).2
  split
  ·simp only [Bool.false_eq_true, if_false]
   refine ⟨⟨ha.1, ?_, ha.2.2.1, ha.2.2.2, t2.1, ?_, fun _ h => absurd h hn⟩, .inl t2.2⟩
   ·have := ha.2.1; show (Csm.advMonth c st.y st.m).1 ≤ b + 2; omega
   ·show Csm.tgt c _ _ ≤ 31; have := t2.2; omega
  ·simp only [Bool.false_eq_true, if_false]
   refine ⟨⟨y0, ?_, m0, m1, t1.1, ?_, fun _ h => absurd h hn⟩, .inl t1.2⟩
   ·show st.y ≤ b + 2; omega
   ·show Csm.tgt c _ _ ≤ 31; have := t1.2; omega
end Go.Proofs.YtmaffdhcmdhjfaaGreatDoor
namespace Go.Proofs.YtmaffdhcmdhjfaaGreatDoor
open Go.RowKit Go.Lib
theorem MacS.ok {P : MacIs} {c : Csm.Cfg} {Q : Csm.St → World → Prop} (hQ : MacS P c Q) : MacOk c :=
 ⟨hQ.good, by rw [← hQ.lk.eqM]; exact hQ.lk.ok.m, by rw [← hQ.lk.eqY]; exact hQ.lk.ok.y⟩
set_option maxHeartbeats 1600000 in
set_option maxRecDepth 1000000 in
theorem valid_date {P : MacIs} {c : Csm.Cfg} {Q : Csm.St → World → Prop} (hQ : MacS P c Q) (st : Csm.St) {b : Int} (hs : SaneSt c b st) (hb9 : b ≤ 1000000) (w : World) (h : Q st w) :
 Calls Tryz.prog 162 #[.pointer (some ⟨P.B, 0, none⟩)] w fun e w' => e = .returned (.bool (decide (st.d ≤ Cal.mlen st.y st.m))) ∧ Q st w' := by
 have hD := hQ.day st.h st.mi st.s
 have HV : Hid (∀ W, Q st W → Calls Tryz.prog 146 #[.pointer (some ⟨P.p.B, 0, none⟩)] W fun e w' => e = .returned (.int .i64 st.d) ∧ Q st w') := fun W hW => by
  refine (day_value P.p st.y st.m st.d W (hD.at_ _ _ _ _ hW)).mono ?_
  rintro e w' ⟨rfl, rfl⟩
  exact ⟨rfl, hW⟩
 have HM : Hid (∀ W, Q st W → Calls Tryz.prog 176 #[.pointer (some ⟨P.p.B, 0, none⟩)] W fun e w' => e = .returned (.int .i64 (Cal.mlen st.y st.m)) ∧ Q st w') := fun W hW => by
  refine (day_max P.p st.y st.m st.d hs.y0 (by have := hs.y1; omega) hs.m0 hs.m1 W (hD.at_ _ _ _ _ hW)).mono ?_
  rintro e w' ⟨rfl, x⟩
  exact ⟨rfl, hQ.ext _ _ _ hW x⟩
 have HEX : Hid (∀ W W', Q st W → Ext W W' → Q st W') := fun W W' hW x => hQ.ext _ _ _ hW x
 have HCS : Hid (∀ W, Q st W → CsmAt P W) := fun W hW => hQ.cs _ _ hW
 generalize Cal.mlen st.y st.m = L at *
 generalize st.d = d at *
 have H := Lib.hid h
 clear h hs hD hQ
 go_enter Tryz.func162, Tryz.ntmps162
 go_wp2_with fail
 obtain ⟨T, g, hT, h0, hS2, hI⟩ := cls_intro (Q st) _ (HEX.out _ _ H.out (Ext.drew w))
 have q3 := fun t => (HCS.out _ (hS2 t)).d
 have HS2 := Lib.hid hS2
 have HI := Lib.hid hI
 clear hS2 hI
 refine wp_region_cls g (by kernel_rfl) (by kernel_rfl) h0 ?_
 clear h0
 repeat (go_big_quiet_step (first
  | (go_at_call 146; exact calls_cls HI.out (HV.out _ (HS2.out _)))
  | (go_at_call 176; exact calls_cls HI.out (HM.out _ (HS2.out _)))))
 refine wpQuiet_nil ?_
 rintro _ ⟨t, rfl⟩
 clear q3
 have h4 := Lib.hid (HS2.out t)
 generalize g t = w4 at h4 ⊢
 go_wp2_with fail
 go_ret
 exact ⟨rfl, h4.out⟩
theorem dayRound_def (c : Csm.Cfg) (st : Csm.St) : Csm.dayRound c st =
 if (Csm.dayNext c st.y st.m st.d).2 = false then Csm.setDay st (Csm.dayNext c st.y st.m st.d).1 else Csm.monthStep c (Csm.setDay st (Csm.dayNext c st.y st.m st.d).1) := by
 rw [Csm.dayRound_eq]
 cases (Csm.dayNext c st.y st.m st.d).2 <;> simp
theorem monthStep_def (c : Csm.Cfg) (st : Csm.St) : Csm.monthStep c st =
 if (Csm.cnext 1 12 c.M st.m).2 = false then (if Csm.dvalid c st.y (Csm.cnext 1 12 c.M st.m).1 st.d then { st with m := (Csm.cnext 1 12 c.M st.m).1 } else Csm.setDay { st with m := (Csm.cnext 1 12 c.M st.m).1 } (Csm.dayReset c st.y (Csm.cnext 1 12 c.M st.m).1))
 else if (Csm.cnext 0 999999 c.Y st.y).2 = false then (if Csm.dvalid c (Csm.cnext 0 999999 c.Y st.y).1 (Csm.cnext 1 12 c.M st.m).1 st.d then { st with m := (Csm.cnext 1 12 c.M st.m).1, y := (Csm.cnext 0 999999 c.Y st.y).1 } else Csm.setDay { st with m := (Csm.cnext 1 12 c.M st.m).1, y := (Csm.cnext 0 999999 c.Y st.y).1 } (Csm.dayReset c (Csm.cnext 0 999999 c.Y st.y).1 (Csm.cnext 1 12 c.M st.m).1))
 else { st with m := (Csm.cnext 1 12 c.M st.m).1, y := (Csm.cnext 0 999999 c.Y st.y).1 } := by
 unfold Csm.monthStep
 simp only
 cases (Csm.cnext 1 12 c.M st.m).2 <;> cases (Csm.cnext 0 999999 c.Y st.y).2 <;> simp
end Go.Proofs.YtmaffdhcmdhjfaaGreatDoor
namespace Go.Proofs.YtmaffdhcmdhjfaaGreatDoor
open Go.RowKit Go.Lib
theorem dayNext_d {c : Csm.Cfg} (h : MacOk c) {b : Int} (b1 : b ≤ 999970) {st : Csm.St} (hs : SaneSt c b st) :
 1 ≤ (Csm.dayNext c st.y st.m st.d).1.2.2 ∧ (Csm.dayNext c st.y st.m st.d).1.2.2 ≤ 31 := by
 obtain ⟨y0, y1, m0, m1, d0, d1, dv⟩ := hs
 have hb := Cal.mlen_bd st.y st.m
 have g := h.g
 by_cases hn : c.n = 0
 ·by_cases hW : c.W = []
  ·have e : Csm.dayNext c st.y st.m st.d = ((st.y, st.m, (Csm.cnext 1 31 c.D st.d).1), (Csm.cnext 1 31 c.D st.d).2) := by
    unfold Csm.dayNext; rw [if_pos hn, hW]
   rw [e]
   simp only
   have hD := g.hD hW hn
   unfold Csm.cnext
   split
   ·split <;> simp <;> omega
   ·rename_i a t hcd
    split
    ·rename_i v hv
     have hmem : v ∈ c.D := by rw [hcd]; exact List.mem_of_find?_eq_some hv
     have := hD.low v hmem
     have := hD.high v hmem
     simp only; omega
    ·have := hD.low a (by rw [hcd]; simp)
     have := hD.high a (by rw [hcd]; simp)
     simp only; omega
  ·have hd := dv hW hn
   obtain ⟨a, t, hwt⟩ := List.exists_cons_of_ne_nil hW
   have hob : 1 ≤ Csm.dowOff (a :: t) (Csm.wday st.y st.m st.d) ∧ Csm.dowOff (a :: t) (Csm.wday st.y st.m st.d) ≤ 13 := by
    have hl := g.hW
    rw [hwt] at hl
    have hwb := Csm.wday_bd st.y st.m st.d
    unfold Csm.dowOff
    cases hn2 : Csm.nxt (a :: t) (Csm.wday st.y st.m st.d) with
    | none =>
      have := hl.low a (by simp)
      have := hl.high a (by simp)
      simp only [List.headD_cons]; omega
    | some x =>
      obtain ⟨hx, hx2, _⟩ := Csm.nxt_some hl.sorted hn2
      have := hl.high x hx
      have := hl.low x hx
      simp only
      omega
   have e : Csm.dayNext c st.y st.m st.d = ((st.y, st.m, if st.d + Csm.dowOff (a :: t) (Csm.wday st.y st.m st.d) > Cal.mlen st.y st.m then st.d + Csm.dowOff (a :: t) (Csm.wday st.y st.m st.d) - Cal.mlen st.y st.m else st.d + Csm.dowOff (a :: t) (Csm.wday st.y st.m st.d)), decide (st.d + Csm.dowOff (a :: t) (Csm.wday st.y st.m st.d) > Cal.mlen st.y st.m)) := by
    unfold Csm.dayNext; rw [if_pos hn, hwt]
   rw [e]
   generalize Csm.dowOff (a :: t) (Csm.wday st.y st.m st.d) = off at *
   simp only
   split <;> omega
 ·have e : Csm.dayNext c st.y st.m st.d = if st.d ≥ Csm.tgt c st.y st.m then (((Csm.advMonth c st.y st.m).1, (Csm.advMonth c st.y st.m).2, Csm.tgt c (Csm.advMonth c st.y st.m).1 (Csm.advMonth c st.y st.m).2), false) else ((st.y, st.m, Csm.tgt c st.y st.m), false) := by
   unfold Csm.dayNext; rw [if_neg hn]
  rw [e]
  have t1 := Csm.tgt_bd g hn st.y st.m
  have t2 := Csm.tgt_bd g hn (Csm.advMonth c st.y st.m).1 (Csm.advMonth c st.y st.m).2
  have hb2 := Cal.mlen_bd (Csm.advMonth c st.y st.m).1 (Csm.advMonth c st.y st.m).2
  split <;> simp only <;> omega
structure Round (P : MacIs) (c : Csm.Cfg) (Q : Csm.St → World → Prop) (st s1 s2 s3 : Csm.St) (o1 o2 o3 v2 v3 : Bool) : Prop where
 h163 : ∀ W, Q st W → Calls Tryz.prog 163 #[.pointer (some ⟨P.p.B, 0, none⟩)] W fun e w' => e = .returned (.bool o1) ∧ Q s1 w'
 h194m : ∀ W, Q s1 W → Calls Tryz.prog 194 #[.pointer (some ⟨P.p.M, 0, none⟩)] W fun e w' => e = .returned (.bool o2) ∧ Q s2 w'
 h164m : ∀ W, Q s2 W → Calls Tryz.prog 164 #[.pointer (some ⟨P.p.B, 0, none⟩)] W fun e w' => e = .returned (.bool v2) ∧ Q s2 w'
 h165m : o2 = false → v2 = false → o1 = true → ∀ W, Q s2 W → Calls Tryz.prog 165 #[.pointer (some ⟨P.p.B, 0, none⟩)] W fun e w' => e = .returned (.tuple #[]) ∧ Q (Csm.dayRound c st) w'
 h194y : ∀ W, Q s2 W → Calls Tryz.prog 194 #[.pointer (some ⟨P.p.Y, 0, none⟩)] W fun e w' => e = .returned (.bool o3) ∧ Q s3 w'
 h164y : ∀ W, Q s3 W → Calls Tryz.prog 164 #[.pointer (some ⟨P.p.B, 0, none⟩)] W fun e w' => e = .returned (.bool v3) ∧ Q s3 w'
 h165y : o2 = true → o3 = false → v3 = false → o1 = true → ∀ W, Q s3 W → Calls Tryz.prog 165 #[.pointer (some ⟨P.p.B, 0, none⟩)] W fun e w' => e = .returned (.tuple #[]) ∧ Q (Csm.dayRound c st) w'
 e1 : o1 = false → s1 = Csm.dayRound c st
 e2 : o1 = true → o2 = false → v2 = true → s2 = Csm.dayRound c st
 e3 : o1 = true → o2 = true → o3 = false → v3 = true → s3 = Csm.dayRound c st
 e4 : o1 = true → o2 = true → o3 = true → s3 = Csm.dayRound c st
theorem round_of {P : MacIs} {c : Csm.Cfg} {Q : Csm.St → World → Prop} (hQ : MacS P c Q) {b : Int} (b0 : 900000 ≤ b) (b1 : b ≤ 999960) {st : Csm.St} (hs : SaneSt c b st) :
 ∃ s1 s2 s3 o1 o2 o3 v2 v3, Round P c Q st s1 s2 s3 o1 o2 o3 v2 v3 := by
 have hy1 := hs.y1
 have hdb := dayNext_bd hQ (y := st.y) (m := st.m) (d := st.d) hs.y0 (by omega) hs.m0 hs.m1
 have hdd := dayNext_d hQ.ok (by omega) hs
 have hDay := hQ.day st.h st.mi st.s
 obtain ⟨r, hr⟩ : ∃ r, r = Csm.dayNext c st.y st.m st.d := ⟨_, rfl⟩
 rw [← hr] at hdb hdd
 have hmb := cnext_m (M := c.M) hQ.ok.m (m := r.1.2.1) (by omega) hdb.2.2.2
 have hyb := cnext_y (Y := c.Y) hQ.ok.y (y := r.1.1) hdb.1 (by omega)
 have hmlen := Cal.mlen_bd st.y st.m
 have hdef := dayRound_def c st
 have hmd := monthStep_def c (Csm.setDay st r.1)
 rw [← hr] at hdef
 have n163 : ∀ W, Q st W → Calls Tryz.prog 163 #[.pointer (some ⟨P.p.B, 0, none⟩)] W fun e w' => e = .returned (.bool r.2) ∧ Q (Csm.setDay st r.1) w' := fun W hW => by
  rw [hr]
  exact day_next hDay hQ.lk hQ.good st.y st.m st.d ⟨hs.y0, by omega, hs.m0, hs.m1, by have := hs.d0; omega, by have := hs.d1; omega⟩ (by omega) (fun hw hn => ⟨hs.d0, hs.dv hw hn⟩) W hW
 have n194m : ∀ W, Q (Csm.setDay st r.1) W → Calls Tryz.prog 194 #[.pointer (some ⟨P.p.M, 0, none⟩)] W fun e w' => e = .returned (.bool (Csm.cnext 1 12 c.M r.1.2.1).2) ∧ Q { Csm.setDay st r.1 with m := (Csm.cnext 1 12 c.M r.1.2.1).1 } w' := fun W hW => by
  have := node_next (hDay.nM r.1.1 r.1.2.2) r.1.2.1 (by omega) (by omega) W hW
  rw [hQ.lk.eqM] at this
  exact this
 have n194y : ∀ W, Q { Csm.setDay st r.1 with m := (Csm.cnext 1 12 c.M r.1.2.1).1 } W → Calls Tryz.prog 194 #[.pointer (some ⟨P.p.Y, 0, none⟩)] W fun e w' => e = .returned (.bool (Csm.cnext 0 999999 c.Y r.1.1).2) ∧ Q { Csm.setDay st r.1 with m := (Csm.cnext 1 12 c.M r.1.2.1).1, y := (Csm.cnext 0 999999 c.Y r.1.1).1 } w' := fun W hW => by
  have := node_next (hDay.nY (Csm.cnext 1 12 c.M r.1.2.1).1 r.1.2.2) r.1.1 (by omega) (by omega) W hW
  rw [hQ.lk.eqY] at this
  exact this
 refine ⟨Csm.setDay st r.1, { Csm.setDay st r.1 with m := (Csm.cnext 1 12 c.M r.1.2.1).1 }, { Csm.setDay st r.1 with m := (Csm.cnext 1 12 c.M r.1.2.1).1, y := (Csm.cnext 0 999999 c.Y r.1.1).1 }, r.2, (Csm.cnext 1 12 c.M r.1.2.1).2, (Csm.cnext 0 999999 c.Y r.1.1).2,
  Csm.dvalid c r.1.1 (Csm.cnext 1 12 c.M r.1.2.1).1 r.1.2.2, Csm.dvalid c (Csm.cnext 0 999999 c.Y r.1.1).1 (Csm.cnext 1 12 c.M r.1.2.1).1 r.1.2.2, ⟨n163, n194m, fun W hW => ?_, fun h2 h3 h1 W hW => ?_, n194y, fun W hW => ?_, fun h2 h4 h3 h1 W hW => ?_, fun h1 => ?_, fun h1 h2 h3 => ?_, fun h1 h2 h4 h3 => ?_, fun h1 h2 h4 => ?_⟩⟩
 ·exact day_valid hDay hQ.lk hQ.good r.1.1 (Csm.cnext 1 12 c.M r.1.2.1).1 r.1.2.2 ⟨hdb.1, by omega, hmb.1, hmb.2, by omega, by omega⟩ W hW
 ·rw [hdef, h1, if_neg (by decide), hmd]
  show Calls _ _ _ _ _
  have e2 : (Csm.cnext 1 12 c.M (Csm.setDay st r.1).m).2 = false := h2
  have e3 : Csm.dvalid c (Csm.setDay st r.1).y (Csm.cnext 1 12 c.M (Csm.setDay st r.1).m).1 (Csm.setDay st r.1).d = false := h3
  rw [if_pos e2, e3, if_neg (by decide)]
  exact day_reset hDay hQ.lk hQ.good r.1.1 (Csm.cnext 1 12 c.M r.1.2.1).1 r.1.2.2 hdb.1 (by omega) hmb.1 hmb.2 W hW
 ·exact day_valid hDay hQ.lk hQ.good (Csm.cnext 0 999999 c.Y r.1.1).1 (Csm.cnext 1 12 c.M r.1.2.1).1 r.1.2.2 ⟨hyb.1, by omega, hmb.1, hmb.2, by omega, by omega⟩ W hW
 ·rw [hdef, h1, if_neg (by decide), hmd]
  show Calls _ _ _ _ _
  have e2 : (Csm.cnext 1 12 c.M (Csm.setDay st r.1).m).2 = true := h2
  have e4 : (Csm.cnext 0 999999 c.Y (Csm.setDay st r.1).y).2 = false := h4
  have e3 : Csm.dvalid c (Csm.cnext 0 999999 c.Y (Csm.setDay st r.1).y).1 (Csm.cnext 1 12 c.M (Csm.setDay st r.1).m).1 (Csm.setDay st r.1).d = false := h3
  rw [e2, if_neg (by decide), if_pos e4, e3, if_neg (by decide)]
  exact day_reset hDay hQ.lk hQ.good (Csm.cnext 0 999999 c.Y r.1.1).1 (Csm.cnext 1 12 c.M r.1.2.1).1 r.1.2.2 hyb.1 (by omega) hmb.1 hmb.2 W hW
 ·rw [hdef, if_pos h1]
 ·rw [hdef, h1, if_neg (by decide), hmd]
  have e2 : (Csm.cnext 1 12 c.M (Csm.setDay st r.1).m).2 = false := h2
  have e3 : Csm.dvalid c (Csm.setDay st r.1).y (Csm.cnext 1 12 c.M (Csm.setDay st r.1).m).1 (Csm.setDay st r.1).d = true := h3
  rw [if_pos e2, e3, if_pos rfl]
  rfl
 ·rw [hdef, h1, if_neg (by decide), hmd]
  have e2 : (Csm.cnext 1 12 c.M (Csm.setDay st r.1).m).2 = true := h2
  have e4 : (Csm.cnext 0 999999 c.Y (Csm.setDay st r.1).y).2 = false := h4
  have e3 : Csm.dvalid c (Csm.cnext 0 999999 c.Y (Csm.setDay st r.1).y).1 (Csm.cnext 1 12 c.M (Csm.setDay st r.1).m).1 (Csm.setDay st r.1).d = true := h3
  rw [e2, if_neg (by decide), if_pos e4, e3, if_pos rfl]
  rfl
 ·rw [hdef, h1, if_neg (by decide), hmd]
  have e2 : (Csm.cnext 1 12 c.M (Csm.setDay st r.1).m).2 = true := h2
  have e4 : (Csm.cnext 0 999999 c.Y (Csm.setDay st r.1).y).2 = true := h4
  rw [e2, if_neg (by decide), e4, if_neg (by decide)]
  rfl
end Go.Proofs.YtmaffdhcmdhjfaaGreatDoor
