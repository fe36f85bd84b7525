/- The day's node of package csm: its cells; dayDate, max, getWeekday. The day's node of package csm: Value, isWeekday, getWeekday, nextDay, isValidDay. The day's node of package csm: addDays, nextWeekday. The day's node of package csm: daysOfWeekInMonth. The day's node of package csm: advanceMonth, getDayInMonth, nextWeekdayN. -/
import Derived.Test.YtmaffdhcmdhjfaaGreatDoorNM
set_option linter.unusedSimpArgs false
set_option linter.unusedVariables false
namespace Go.Proofs.YtmaffdhcmdhjfaaGreatDoor
open Go.RowKit Go.Lib
structure DayIs where
 B : Nat
 M : Nat
 Y : Nat
 aD : Option Addr
 cD : Nat
 D : List Int
 aW : Option Addr
 cW : Nat
 W : List Int
 n : Int
structure DayAt (p : DayIs) (y m d : Int) (W : World) : Prop where
 wk : W.cell? ⟨p.B, 4, none⟩ = some (.slice p.aW p.W.length p.cW)
 n : W.cell? ⟨p.B, 5, none⟩ = some (.int .i64 p.n)
 mo : W.cell? ⟨p.B, 6, none⟩ = some (.iface 146 (.pointer (some ⟨p.M, 0, none⟩)))
 yr : W.cell? ⟨p.B, 7, none⟩ = some (.iface 146 (.pointer (some ⟨p.Y, 0, none⟩)))
 d : W.cell? ⟨p.B, 0, none⟩ = some (.int .i64 d)
 m : W.cell? ⟨p.M, 0, none⟩ = some (.int .i64 m)
 y : W.cell? ⟨p.Y, 0, none⟩ = some (.int .i64 y)
 dv : W.cell? ⟨p.B, 3, none⟩ = some (.slice p.aD p.D.length p.cD)
 ls : ListAt W p.aD p.D
 lw : ListAt W p.aW p.W
 fz : W.frozen? ⟨p.B, 0, none⟩ = false
theorem DayAt.ext {p : DayIs} {y m d : Int} {W W' : World} (h : DayAt p y m d W) (x : Ext W W') (hf : W'.frozen? ⟨p.B, 0, none⟩ = false) : DayAt p y m d W' :=
 ⟨x.cell h.wk, x.cell h.n, x.cell h.mo, x.cell h.yr, x.cell h.d, x.cell h.m, x.cell h.y, x.cell h.dv, h.ls.ext x, h.lw.ext x, hf⟩
theorem m_value (a : Addr) (w : World) : (method 334 146 (.pointer (some a)) "Value").run Tryz.prog w = .ok (167, .pointer (some a)) w := by kernel_rfl
theorem m_next (a : Addr) (w : World) : (method 334 146 (.pointer (some a)) "Next").run Tryz.prog w = .ok (194, .pointer (some a)) w := by kernel_rfl
theorem m_reset (a : Addr) (w : World) : (method 334 146 (.pointer (some a)) "Reset").run Tryz.prog w = .ok (228, .pointer (some a)) w := by kernel_rfl
theorem max_eq {y m : Int} (m0 : 1 ≤ m) (m1 : m ≤ 12) : Cal.dayNum (if m = 12 then y + 1 else y) (if m = 12 then 1 + 0 else m + 1) 0 = Cal.dayNum y m (Cal.mlen y m) := by
 rw [← month_end m0 m1]
 split
 ·rename_i h; subst h
  exact (Cal.dayNum_13 y 0).symm
 ·rfl
set_option maxHeartbeats 1600000 in
set_option maxRecDepth 1000000 in
theorem day_max (p : DayIs) (y m d : Int) (y0 : 1900 ≤ y) (y1 : y ≤ 1000000) (m0 : 1 ≤ m) (m1 : m ≤ 12) (w : World) (h : DayAt p y m d w) :
 Calls Tryz.prog 176 #[.pointer (some ⟨p.B, 0, none⟩)] w fun e w' => e = .returned (.int .i64 (Cal.mlen y m)) ∧ Ext w w' := by
 obtain ⟨h4, h5, h6, h7, hd, hm, hy, h3, _, _, _⟩ := h
 have hb := Cal.mlen_bd y m
 have hc2 : Cal.civil (Cal.dayNum y m (Cal.mlen y m)) = (y, m, Cal.mlen y m) := Cal.civil_dayNum ⟨m0, m1, by omega, by omega⟩
 have hmx := max_eq (y := y) m0 m1
 have H3 : Hid (∀ W, Calls Tryz.prog 189 #[.agg #[.int .i64 (Cal.dayNum y m (Cal.mlen y m))]] W fun e w' => e = .returned (.int .i64 (Cal.mlen y m)) ∧ Ext W w') := fun W => by
  have := day_any (Cal.dayNum y m (Cal.mlen y m)) (dayIn_of (by omega) (by omega) (by omega) (by omega) (by omega) (by omega)) W
  rw [hc2] at this
  exact this
 have H1 : Hid (∀ yy mm W, yy = (if m = 12 then y + 1 else y) → mm = (if m = 12 then 1 + 0 else m + 1) → Calls Tryz.prog 145 #[.int .i64 yy, .int .i64 mm, .int .i64 0] W fun e w' => e = .returned (.agg #[.int .i64 (Cal.dayNum y m (Cal.mlen y m))]) ∧ Ext W w') := fun yy mm W e1 e2 => by
  rw [← hmx, ← e1, ← e2]
  exact make_date yy mm 0 (by rw [e1]; split <;> omega) (by rw [e1]; split <;> omega) (by rw [e2]; split <;> omega) (by rw [e2]; split <;> omega) (by omega) (by omega) W
 generalize Cal.mlen y m = L at *
 generalize Cal.dayNum y m L = n2 at *
 clear hc2 hmx
 have v1 := m_value ⟨p.M, 0, none⟩
 have v2 := m_value ⟨p.Y, 0, none⟩
 have HM := Lib.hid hm
 have HY := Lib.hid hy
 by_cases h12 : m = 12
 all_goals (
  go_enter Tryz.func176, Tryz.ntmps176
  go_wp2_with fail
  go_at_call 167
  refine (node_value p.M m _ HM.out).mono ?_
  rintro e w1 ⟨rfl, rfl⟩
  go_wp2_with fail
  go_at_call 167
  refine (node_value p.Y y _ HY.out).mono ?_
  rintro e w1 ⟨rfl, rfl⟩
  go_wp2_with fail
  go_at_call 145
  refine (H1.out _ _ _ (by first | (rw [if_pos h12]) | (rw [if_neg h12])) (by first | (rw [if_pos h12]; rfl) | (rw [if_neg h12]))).mono ?_
  rintro e w2 ⟨rfl, x2⟩
  have X2 := Lib.hid (x2.trans (Ext.alloc w2 (.cells #[.int .i64 n2] 170)))
  clear x2
  go_wp2_with fail
  go_at_call 189
  refine (H3.out _).mono ?_
  rintro e w3 ⟨rfl, x3⟩
  go_wp2_with fail
  go_ret
  exact ⟨rfl, X2.out.trans x3⟩)
set_option maxHeartbeats 3200000 in
set_option maxRecDepth 1000000 in
theorem day_date (p : DayIs) (y m d : Int) (y0 : 1900 ≤ y) (y1 : y ≤ 1000000) (m0 : 1 ≤ m) (m1 : m ≤ 12) (d0 : -100 ≤ d) (d1 : d ≤ 100) (w : World) (h : DayAt p y m d w) :
 Calls Tryz.prog 199 #[.pointer (some ⟨p.B, 0, none⟩)] w fun e w' => e = .returned (.agg #[.int .i64 (Cal.dayNum y m d)]) ∧ Ext w w' := by
 have h' := h
 obtain ⟨h4, h5, h6, h7, hd, hm, hy, h3, _, _, _⟩ := h'
 have hz := fun W => make_date y m d (by omega) (by omega) (by omega) (by omega) (by omega) (by omega) W
 generalize Cal.dayNum y m d = k at hz ⊢
 have HZ := Lib.hid hz
 have v1 := m_value ⟨p.M, 0, none⟩
 have v2 := m_value ⟨p.Y, 0, none⟩
 have hA : (w.alloc (.cells #[.int .i64 0] 170)).heap[w.heap.size]? = some (.cells #[.int .i64 0] 170 (0, 0)) := heap_alloc_new _ _
 have hX : Ext w (w.alloc (.cells #[.int .i64 0] 170)) := Ext.alloc _ _
 have g6 := hX.cell h6
 have g7 := hX.cell h7
 have gd := hX.cell hd
 have gm := hX.cell hm
 have gy := hX.cell hy
 clear hz h4 h5 h3
 go_enter Tryz.func199, Tryz.ntmps199
 go_wp2_with fail
 go_region_with (first
  | (go_at_call 167; refine (node_value p.M m _ (by first | assumption | simp [*])).mono ?_; rintro e w1 ⟨rfl, rfl⟩)
  | (go_at_call 167; refine (node_value p.Y y _ (by first | assumption | simp [*])).mono ?_; rintro e w1 ⟨rfl, rfl⟩)
  | (go_at_call 145; refine (HZ.out _).mono ?_; rintro e w2 ⟨rfl, x2⟩; have hb : w2.heap[w.heap.size]? = some (.cells #[.int .i64 0] 170 (0, 0)) := (Below.block x2 _ (block_lt hA)).trans hA; have hc : w2.cell? ⟨w.heap.size, 0, none⟩ = some (.int .i64 0) := Joins.cell_of_block hb 0; have hf : w2.frozen? ⟨w.heap.size, 0, none⟩ = false := Joins.unfrozen_of_block hb 0; have HB := Lib.hid hb; have X2 := Lib.hid (((hX.trans (Ext.drew _)).trans x2).set (N := w.heap.size) (Nat.le_refl _) 0 (.int .i64 k)); clear hb x2))
 all_goals (
  go_wp2_with fail
  exact ret_date rfl rfl (one_setCell HB.out) ⟨rfl, X2.out⟩)
end Go.Proofs.YtmaffdhcmdhjfaaGreatDoor
namespace Go.Proofs.YtmaffdhcmdhjfaaGreatDoor
open Go.RowKit Go.Lib
structure DayS (p : DayIs) (aM : Option Addr) (cM : Nat) (M : List Int) (aY : Option Addr) (cY : Nat) (Y : List Int) (S : Int → Int → Int → World → Prop) : Prop where
 at_ : ∀ y m d W, S y m d W → DayAt p y m d W
 ext : ∀ y m d W W', S y m d W → Ext W W' → S y m d W'
 nD : ∀ y m, NodeS p.B 1 31 p.aD p.cD p.D (S y m)
 nM : ∀ y d, NodeS p.M 1 12 aM cM M (fun m => S y m d)
 nY : ∀ m d, NodeS p.Y 0 999999 aY cY Y (fun y => S y m d)
 lW : p.W.length ≤ 100000000
structure Sane (y m d : Int) : Prop where
 y0 : 1900 ≤ y
 y1 : y ≤ 1000000
 m0 : 1 ≤ m
 m1 : m ≤ 12
 d0 : -40 ≤ d
 d1 : d ≤ 80
set_option maxHeartbeats 800000 in
set_option maxRecDepth 1000000 in
theorem day_value (p : DayIs) (y m d : Int) (w : World) (h : DayAt p y m d w) :
 Calls Tryz.prog 146 #[.pointer (some ⟨p.B, 0, none⟩)] w fun e w' => e = .returned (.int .i64 d) ∧ w = w' := by
 have HD := Lib.hid h.d
 go_enter Tryz.func146, Tryz.ntmps146
 go_wp2_with fail
 go_at_call 167
 refine (node_value p.B d _ HD.out).mono ?_
 rintro e w1 ⟨rfl, rfl⟩
 go_wp2_with fail
 go_ret
 exact ⟨rfl, rfl⟩
set_option maxHeartbeats 800000 in
set_option maxRecDepth 1000000 in
theorem day_kind (p : DayIs) (y m d : Int) (w : World) (h : DayAt p y m d w) :
 Calls Tryz.prog 177 #[.pointer (some ⟨p.B, 0, none⟩)] w fun e w' => e = .returned (.bool (decide (0 < p.W.length))) ∧ w = w' := by
 have h4 := h.wk
 clear h
 generalize p.W.length = n at h4 ⊢
 go_enter Tryz.func177, Tryz.ntmps177
 go_wp2_with fail
 go_ret
 exact ⟨ret_bool (by rw [Bool.eq_iff_iff]; simp; omega), rfl⟩
set_option maxHeartbeats 800000 in
set_option maxRecDepth 1000000 in
theorem day_week (p : DayIs) (y m d : Int) (hs : Sane y m d) (w : World) (h : DayAt p y m d w) :
 Calls Tryz.prog 190 #[.pointer (some ⟨p.B, 0, none⟩)] w fun e w' => e = .returned (.int .i64 (Csm.wday y m d)) ∧ Ext w w' := by
 obtain ⟨y0, y1, m0, m1, d0, d1⟩ := hs
 have hd := day_date p y m d y0 y1 m0 m1 (by omega) (by omega) w h
 have hw := fun W => weekday_any (Cal.dayNum y m d) (dayIn_of (by omega) (by omega) (by omega) (by omega) (by omega) (by omega)) W
 have he : Csm.wday y m d = (Cal.dayNum y m d + 4) % 7 := rfl
 rw [← he] at hw
 generalize Csm.wday y m d = wd at *
 generalize Cal.dayNum y m d = k at *
 have HD := Lib.hid hd
 have HW := Lib.hid hw
 clear hd hw h he
 go_enter Tryz.func190, Tryz.ntmps190
 go_wp2_with fail
 go_at_call 199
 refine HD.out.mono ?_
 rintro e w1 ⟨rfl, x1⟩
 go_wp2_with fail
 go_at_call 203
 refine (HW.out _).mono ?_
 rintro e w2 ⟨rfl, x2⟩
 go_wp2_with fail
 go_ret
 exact ⟨rfl, x1.trans x2⟩
set_option maxHeartbeats 800000 in
set_option maxRecDepth 1000000 in
theorem day_plain {p : DayIs} {aM : Option Addr} {cM : Nat} {M : List Int} {aY : Option Addr} {cY : Nat} {Y : List Int} {S : Int → Int → Int → World → Prop} (hS : DayS p aM cM M aY cY Y S) (y m d : Int) (hs : Sane y m d) (w : World) (h : S y m d w) :
 Calls Tryz.prog 180 #[.pointer (some ⟨p.B, 0, none⟩)] w fun e w' => e = .returned (.bool (Csm.cnext 1 31 p.D d).2) ∧ S y m (Csm.cnext 1 31 p.D d).1 w' := by
 have hn := node_next (hS.nD y m) d (by have := hs.d0; omega) (by have := hs.d1; omega) w h
 generalize Csm.cnext 1 31 p.D d = r at hn ⊢
 have HN := Lib.hid hn
 clear hn h hS hs
 go_enter Tryz.func180, Tryz.ntmps180
 go_wp2_with fail
 go_at_call 194
 refine HN.out.mono ?_
 rintro e w1 ⟨rfl, h1⟩
 have H1 := Lib.hid h1
 clear h1
 go_wp2_with fail
 go_ret
 exact ⟨rfl, H1.out⟩
set_option maxHeartbeats 1600000 in
set_option maxRecDepth 1000000 in
theorem day_inMonth {p : DayIs} {aM : Option Addr} {cM : Nat} {M : List Int} {aY : Option Addr} {cY : Nat} {Y : List Int} {S : Int → Int → Int → World → Prop} (hS : DayS p aM cM M aY cY Y S) (y m d : Int) (hs : Sane y m d) (w : World) (h : S y m d w) :
 Calls Tryz.prog 182 #[.pointer (some ⟨p.B, 0, none⟩)] w fun e w' => e = .returned (.bool (Csm.cvalid 1 31 p.D d && decide (d ≤ Cal.mlen y m))) ∧ S y m d w' := by
 have HV : Hid (∀ W, S y m d W → Calls Tryz.prog 197 #[.pointer (some ⟨p.B, 0, none⟩)] W fun e w' => e = .returned (.bool (Csm.cvalid 1 31 p.D d)) ∧ S y m d w') := fun W hW => node_valid (hS.nD y m) d W hW
 have HM : Hid (∀ W, S y m d W → Calls Tryz.prog 176 #[.pointer (some ⟨p.B, 0, none⟩)] W fun e w' => e = .returned (.int .i64 (Cal.mlen y m)) ∧ S y m d w') := fun W hW => by
  refine (day_max p y m d hs.y0 hs.y1 hs.m0 hs.m1 W (hS.at_ _ _ _ _ hW)).mono ?_
  rintro e w' ⟨rfl, x⟩
  exact ⟨rfl, hS.ext _ _ _ _ _ hW x⟩
 generalize Cal.mlen y m = L at *
 generalize hb : Csm.cvalid 1 31 p.D d = b at *
 have HS := Lib.hid hS
 have H := Lib.hid h
 clear hs hS h hb
 rcases b
 all_goals (
  go_enter Tryz.func182, Tryz.ntmps182
  go_wp2_with fail
  obtain ⟨T, g, hT, h0, hS2, hI⟩ := cls_intro (S y m d) _ (HS.out.ext _ _ _ _ _ H.out (Ext.drew w))
  have q0 := fun t => (HS.out.at_ _ _ _ _ (hS2 t)).d
  have HS2 := Lib.hid hS2
  have HI := Lib.hid hI
  clear hS2 hI
  refine wp_region_cls g (by kernel_rfl) (by kernel_rfl) h0 ?_
  clear h0
  repeat (go_big_quiet_step (first
   | (go_at_call 197; exact calls_cls HI.out (HV.out _ (HS2.out _)))
   | (go_at_call 176; exact calls_cls HI.out (HM.out _ (HS2.out _)))))
  refine wpQuiet_nil ?_
  rintro _ ⟨t, rfl⟩
  clear q0
  have h4 := Lib.hid (HS2.out t)
  generalize g t = w4 at h4 ⊢
  go_wp2_with fail
  go_ret
  exact ⟨by first | rfl | exact ret_bool (by simp), h4.out⟩)
end Go.Proofs.YtmaffdhcmdhjfaaGreatDoor
namespace Go.Proofs.YtmaffdhcmdhjfaaGreatDoor
open Go.RowKit Go.Lib
theorem civil_past {y m d off : Int} (m0 : 1 ≤ m) (m1 : m ≤ 12) (d0 : 1 ≤ d) (d1 : d ≤ Cal.mlen y m) (o0 : 1 ≤ off) (o1 : off ≤ 13) :
 (Cal.civil (Cal.dayNum y m (d + off))).2.2 = if d + off > Cal.mlen y m then d + off - Cal.mlen y m else d + off := by
 have hb := Cal.mlen_bd y m
 by_cases h : d + off > Cal.mlen y m
 ·rw [if_pos h]
  obtain ⟨k, hk⟩ : ∃ k, k = d + off - Cal.mlen y m := ⟨_, rfl⟩
  have e0 : d + off = Cal.mlen y m + k := by omega
  have e1 := Cal.dayNum_add y m (Cal.mlen y m) k
  have e2 := month_end (y := y) m0 m1
  have e3 := Cal.dayNum_add y (m + 1) 0 k
  rw [Int.zero_add] at e3
  have e4 : Cal.dayNum y m (d + off) = Cal.dayNum y (m + 1) k := by rw [e0]; omega
  rw [e4, ← hk]
  by_cases h12 : m = 12
  ·subst h12
   have e5 : Cal.dayNum y (12 + 1) k = Cal.dayNum (y + 1) 1 k := Cal.dayNum_13 y k
   have hb2 := Cal.mlen_bd (y + 1) 1
   rw [e5, Cal.civil_dayNum ⟨by omega, by omega, by omega, by omega⟩]
  ·have hb2 := Cal.mlen_bd y (m + 1)
   rw [Cal.civil_dayNum ⟨by omega, by omega, by omega, by omega⟩]
 ·rw [if_neg h, Cal.civil_dayNum ⟨m0, m1, by omega, by omega⟩]
set_option maxHeartbeats 3200000 in
set_option maxRecDepth 1000000 in
theorem day_add {p : DayIs} {aM : Option Addr} {cM : Nat} {M : List Int} {aY : Option Addr} {cY : Nat} {Y : List Int} {S : Int → Int → Int → World → Prop} (hS : DayS p aM cM M aY cY Y S) (y m d off : Int) (hs : Sane y m d) (d0 : 1 ≤ d) (d1 : d ≤ Cal.mlen y m) (o0 : 1 ≤ off) (o1 : off ≤ 13) (w : World) (h : S y m d w) :
 Calls Tryz.prog 191 #[.pointer (some ⟨p.B, 0, none⟩), .int .i64 off] w fun e w' => e = .returned (.bool (decide (d + off > Cal.mlen y m))) ∧ S y m (if d + off > Cal.mlen y m then d + off - Cal.mlen y m else d + off) w' := by
 have hb := Cal.mlen_bd y m
 have H176 : Hid (∀ W, S y m d W → Calls Tryz.prog 176 #[.pointer (some ⟨p.B, 0, none⟩)] W fun e w' => e = .returned (.int .i64 (Cal.mlen y m)) ∧ S y m d w') := fun W hW => by
  refine (day_max p y m d hs.y0 hs.y1 hs.m0 hs.m1 W (hS.at_ _ _ _ _ hW)).mono ?_
  rintro e w' ⟨rfl, x⟩
  exact ⟨rfl, hS.ext _ _ _ _ _ hW x⟩
 have H199 : Hid (∀ W, S y m d W → Calls Tryz.prog 199 #[.pointer (some ⟨p.B, 0, none⟩)] W fun e w' => e = .returned (.agg #[.int .i64 (Cal.dayNum y m d)]) ∧ S y m d w') := fun W hW => by
  have := hs.d0
  have := hs.d1
  refine (day_date p y m d hs.y0 hs.y1 hs.m0 hs.m1 (by omega) (by omega) W (hS.at_ _ _ _ _ hW)).mono ?_
  rintro e w' ⟨rfl, x⟩
  exact ⟨rfl, hS.ext _ _ _ _ _ hW x⟩
 have hcd : Cal.civil (Cal.dayNum y m d) = (y, m, d) := Cal.civil_dayNum ⟨hs.m0, hs.m1, d0, d1⟩
 have H204 : Hid (∀ W, S y m d W → Calls Tryz.prog 204 #[.agg #[.int .i64 (Cal.dayNum y m d)], .int .i64 0, .int .i64 0, .int .i64 off] W fun e w' => e = .returned (.agg #[.int .i64 (Cal.dayNum y m (d + off))]) ∧ S y m d w') := fun W hW => by
  obtain ⟨y0, y1, m0, m1, dd0, dd1⟩ := hs
  have := add_date (Cal.dayNum y m d) 0 0 off (dayIn_of (by omega) (by omega) (by omega) (by omega) (by omega) (by omega)) y m d hcd (by omega) (by omega) (by omega) (by omega) (by omega) (by omega) W
  rw [Int.add_zero, Int.add_zero] at this
  refine this.mono ?_
  rintro e w' ⟨rfl, x⟩
  exact ⟨rfl, hS.ext _ _ _ _ _ hW x⟩
 have H189 : Hid (∀ W, S y m d W → Calls Tryz.prog 189 #[.agg #[.int .i64 (Cal.dayNum y m (d + off))]] W fun e w' => e = .returned (.int .i64 (if d + off > Cal.mlen y m then d + off - Cal.mlen y m else d + off)) ∧ S y m d w') := fun W hW => by
  obtain ⟨y0, y1, m0, m1, dd0, dd1⟩ := hs
  have := day_any (Cal.dayNum y m (d + off)) (dayIn_of (by omega) (by omega) (by omega) (by omega) (by omega) (by omega)) W
  rw [civil_past m0 m1 d0 d1 o0 o1] at this
  refine this.mono ?_
  rintro e w' ⟨rfl, x⟩
  exact ⟨rfl, hS.ext _ _ _ _ _ hW x⟩
 have hsum : -100 ≤ d + off ∧ d + off ≤ 1000 := by omega
 generalize (if d + off > Cal.mlen y m then d + off - Cal.mlen y m else d + off) = nd at *
 generalize Cal.mlen y m = L at *
 generalize Cal.dayNum y m d = k1 at *
 generalize Cal.dayNum y m (d + off) = k2 at *
 have HS := Lib.hid hS
 have H := Lib.hid h
 clear hs hS h hcd
 go_enter Tryz.func191, Tryz.ntmps191
 go_wp2_with fail
 go_at_call 146
 refine (day_value p y m d _ (HS.out.at_ _ _ _ _ H.out)).mono ?_
 rintro e w1 ⟨rfl, rfl⟩
 go_wp2_with fail
 go_at_call 176
 refine (H176.out _ H.out).mono ?_
 rintro e w2 ⟨rfl, h2⟩
 have H2 := Lib.hid h2
 clear h2
 go_wp2_with fail
 go_at_call 199
 refine (H199.out _ H2.out).mono ?_
 rintro e w3 ⟨rfl, h3⟩
 have H3 := Lib.hid h3
 clear h3
 go_wp2_with fail
 go_at_call 204
 refine (H204.out _ H3.out).mono ?_
 rintro e w4 ⟨rfl, h4⟩
 have H4 := Lib.hid (HS.out.ext _ _ _ _ _ h4 (Ext.alloc w4 (.cells #[.int .i64 k2] 170)))
 clear h4
 go_wp2_with fail
 go_at_call 189
 refine (H189.out _ H4.out).mono ?_
 rintro e w5 ⟨rfl, h5⟩
 have hc := (HS.out.at_ _ _ _ _ h5).d
 have hf := (HS.out.at_ _ _ _ _ h5).fz
 have H5 := Lib.hid ((HS.out.nD y m).set _ nd _ h5)
 clear h5
 go_wp2_with fail
 go_ret
 exact ⟨by first | rfl | exact ret_bool (by simp), H5.out⟩
set_option maxHeartbeats 3200000 in
set_option maxRecDepth 1000000 in
theorem day_nextWeek {p : DayIs} {aM : Option Addr} {cM : Nat} {M : List Int} {aY : Option Addr} {cY : Nat} {Y : List Int} {S : Int → Int → Int → World → Prop} (hS : DayS p aM cM M aY cY Y S) (y m d : Int) (hs : Sane y m d) (d0 : 1 ≤ d) (d1 : d ≤ Cal.mlen y m) (hW : p.W ≠ []) (hl : Csm.Lst 0 6 p.W) (w : World) (h : S y m d w) :
 Calls Tryz.prog 178 #[.pointer (some ⟨p.B, 0, none⟩)] w fun e w' => e = .returned (.bool (decide (d + Csm.dowOff p.W (Csm.wday y m d) > Cal.mlen y m))) ∧
  S y m (if d + Csm.dowOff p.W (Csm.wday y m d) > Cal.mlen y m then d + Csm.dowOff p.W (Csm.wday y m d) - Cal.mlen y m else d + Csm.dowOff p.W (Csm.wday y m d)) w' := by
 have hwb := Csm.wday_bd y m d
 obtain ⟨wd, hwd⟩ : ∃ wd, wd = Csm.wday y m d := ⟨_, rfl⟩
 obtain ⟨off, hoff⟩ : ∃ off, off = Csm.dowOff p.W wd := ⟨_, rfl⟩
 have hhead : 0 ≤ p.W.headD 0 ∧ p.W.headD 0 ≤ 6 := by
  cases hp : p.W with
  | nil => exact absurd hp hW
  | cons b t => exact ⟨hl.low b (by rw [hp]; simp), hl.high b (by rw [hp]; simp)⟩
 have hob : 1 ≤ off ∧ off ≤ 13 := by
  rw [hoff]
  unfold Csm.dowOff
  cases hn : Csm.nxt p.W wd with
  | none => simp only; rw [hwd]; omega
  | some x =>
    obtain ⟨hx, hx2, _⟩ := Csm.nxt_some hl.sorted hn
    have := hl.high x hx
    have := hl.low x hx
    simp only
    rw [hwd] at hx2 ⊢
    omega
 have HWK : Hid (∀ W, S y m d W → Calls Tryz.prog 190 #[.pointer (some ⟨p.B, 0, none⟩)] W fun e w' => e = .returned (.int .i64 wd) ∧ S y m d w') := fun W hW => by
  rw [hwd]
  refine (day_week p y m d hs W (hS.at_ _ _ _ _ hW)).mono ?_
  rintro e w' ⟨rfl, x⟩
  exact ⟨rfl, hS.ext _ _ _ _ _ hW x⟩
 rw [← hwd, ← hoff]
 have HAD : Hid (∀ W, S y m d W → Calls Tryz.prog 191 #[.pointer (some ⟨p.B, 0, none⟩), .int .i64 off] W fun e w' => e = .returned (.bool (decide (d + off > Cal.mlen y m))) ∧ S y m (if d + off > Cal.mlen y m then d + off - Cal.mlen y m else d + off) w') := fun W hW =>
  day_add hS y m d off hs d0 d1 hob.1 hob.2 W hW
 generalize (if d + off > Cal.mlen y m then d + off - Cal.mlen y m else d + off) = nd at *
 generalize Cal.mlen y m = L at *
 obtain ⟨n, hn⟩ : ∃ n, n = p.W.length := ⟨_, rfl⟩
 have hlen := hS.lW
 rw [← hn] at hlen
 have HN := Lib.hid hn
 have hpos : 0 < n := by rw [hn]; exact List.length_pos_iff.mpr hW
 have hwd2 : 0 ≤ wd ∧ wd ≤ 6 := by rw [hwd]; exact hwb
 obtain ⟨wd0, wd6⟩ := hwd2
 obtain ⟨z0, hz0⟩ : ∃ z0, z0 = p.W.headD 0 := ⟨_, rfl⟩
 rw [← hz0] at hhead
 obtain ⟨z1, z2⟩ := hhead
 have HOFF : Hid (off = match Csm.nxt p.W wd with | some v => v - wd | none => 7 + z0 - wd) := by rw [hz0]; exact hoff
 have HLW : Hid (∀ x ∈ p.W, 0 ≤ x ∧ x ≤ 6) := fun x hx => ⟨hl.low x hx, hl.high x hx⟩
 have HZ0 : Hid (∀ (g : Nat) (W : World), (∀ (j : Nat) (z : Int), p.W[j]? = some z → W.cell? ⟨g, j, none⟩ = some (.int .i64 z)) → W.cell? ⟨g, 0, none⟩ = some (.int .i64 z0)) := fun g W hc => by
  rw [hz0]
  cases hp : p.W with
  | nil => exact absurd hp hW
  | cons b t => exact hc 0 b (by rw [hp]; rfl)
 have HWN : Hid (p.W ≠ []) := hW
 have HS := Lib.hid hS
 have H := Lib.hid h
 clear hs hS h hwd hoff hob hwb hn hz0 hl hW d0 d1
 go_enter Tryz.func178, Tryz.ntmps178
 go_wp2_with fail
 go_at_call 190
 refine (HWK.out _ H.out).mono ?_
 rintro e w1 ⟨rfl, h1⟩
 obtain ⟨h4, _, _, _, _, _, _, _, _, lw, _⟩ := HS.out.at_ _ _ _ _ h1
 obtain ⟨g, haW, hcell⟩ := lw HWN.out
 rw [haW, ← HN.out] at h4
 have hc0 := HZ0.out g w1 hcell
 have HCELL := Lib.hid hcell
 have H1 := Lib.hid h1
 clear h1 lw hcell
 go_wp2_with fail
 go_loop [4, 6, 23] (fun o _ i => ∃ k : Nat, k ≤ n ∧ o = .int .i64 (7 + z0 - wd) ∧ i = .int .i64 k ∧ Hid (Csm.nxt (p.W.take k) wd = none)) (fun _ _ i => n - (RowKit.intOf i).toNat)
 case atStart => exact ⟨0, Nat.zero_le _, rfl, rfl, rfl⟩
 case round =>
  obtain ⟨k, hk, rfl, rfl, Hk⟩ := hrel
  by_cases hlt : k < n
  ·obtain ⟨x, hx⟩ : ∃ x, p.W[k]? = some x := ⟨_, List.getElem?_eq_getElem (by rw [← HN.out]; exact hlt)⟩
   have cx := HCELL.out k x hx
   obtain ⟨x0, x6⟩ := HLW.out x (List.mem_of_getElem? hx)
   by_cases hv : wd < x
   ·have HO : Hid (off = x - wd) := by show _ = _; rw [HOFF.out, nxt_some_of hx Hk.out hv]
    clear hx
    go_wp2_with fail
    go_at_call 191
    rw [← HO.out]
    refine (HAD.out _ H1.out).mono ?_
    rintro e w2 ⟨rfl, h2⟩
    have H2 := Lib.hid h2
    clear h2
    go_wp2_with fail
    go_ret
    exact ⟨rfl, H2.out⟩
   ·have HK : Hid (Csm.nxt (p.W.take (k + 1)) wd = none) := by show _ = _; rw [nxt_step hx Hk.out, if_neg hv]
    clear hx
    go_wp2_with fail
    exact ⟨⟨k + 1, by omega, rfl, rfl, HK.out⟩, by simp only [RowKit.intOf]; omega⟩
  ·have HO : Hid (off = 7 + z0 - wd) := by
    show _ = _
    have e : p.W.take k = p.W := List.take_of_length_le (by rw [← HN.out]; omega)
    have hk2 := Hk.out
    rw [e] at hk2
    rw [HOFF.out, hk2]
   go_wp2_with fail
   go_at_call 191
   rw [← HO.out]
   refine (HAD.out _ H1.out).mono ?_
   rintro e w2 ⟨rfl, h2⟩
   have H2 := Lib.hid h2
   clear h2
   go_wp2_with fail
   go_ret
   exact ⟨rfl, H2.out⟩
end Go.Proofs.YtmaffdhcmdhjfaaGreatDoor
namespace Go.Proofs.YtmaffdhcmdhjfaaGreatDoor
open Go.RowKit Go.Lib
def datesL (y m wd : Int) (k : Nat) : List Int := ((List.range k).map fun i : Nat => (i : Int) + 1).filter fun d => Csm.wday y m d == wd
theorem dates_succ (y m wd : Int) (k : Nat) : datesL y m wd (k + 1) = if Csm.wday y m ((k : Int) + 1) = wd then datesL y m wd k ++ [(k : Int) + 1] else datesL y m wd k := by
 unfold datesL
 rw [List.range_succ, List.map_append, List.filter_append]
 by_cases h : Csm.wday y m ((k : Int) + 1) = wd
 ·rw [if_pos h]; simp [h]
 ·rw [if_neg h]; simp [h]
theorem dates_len (y m wd : Int) (k : Nat) : (datesL y m wd k).length ≤ k := by
 have := List.length_filter_le (fun d => Csm.wday y m d == wd) ((List.range k).map fun i : Nat => (i : Int) + 1)
 simpa [datesL] using this
theorem month_past {y m : Int} (m0 : 1 ≤ m) (m1 : m ≤ 12) : (Cal.civil (Cal.dayNum y m (Cal.mlen y m + 1))).2.1 ≠ m := by
 have e1 := Cal.dayNum_add y m (Cal.mlen y m) 1
 have e2 := month_end (y := y) m0 m1
 have e3 := Cal.dayNum_add y (m + 1) 0 1
 rw [Int.zero_add] at e3
 have e4 : Cal.dayNum y m (Cal.mlen y m + 1) = Cal.dayNum y (m + 1) 1 := by omega
 rw [e4]
 by_cases h12 : m = 12
 ·subst h12
  have e5 : Cal.dayNum y (12 + 1) 1 = Cal.dayNum (y + 1) 1 1 := Cal.dayNum_13 y 1
  have hb2 := Cal.mlen_bd (y + 1) 1
  rw [e5, Cal.civil_dayNum ⟨by omega, by omega, by omega, by omega⟩]
  simp
 ·have hb2 := Cal.mlen_bd y (m + 1)
  rw [Cal.civil_dayNum ⟨by omega, by omega, by omega, by omega⟩]
  simp only
  omega
set_option maxHeartbeats 3200000 in
set_option maxRecDepth 1000000 in
theorem day_dates (p : DayIs) (y m d wd : Int) (hs : Sane y m d) (hW : p.W.head? = some wd) (hlen : p.W.length ≤ 100000000) (w : World) (h : DayAt p y m d w) :
 Calls Tryz.prog 193 #[.pointer (some ⟨p.B, 0, none⟩)] w fun e w' => ∃ v, e = .returned v ∧ Ints w' w.heap.size v (datesL y m wd (Cal.mlen y m).toNat) ∧ Ext w w' := by
 obtain ⟨i0, hi0, hz0, hz1, hz2⟩ := info_parts Tryz.info3
 obtain ⟨y0, y1, m0, m1, d0, d1⟩ := hs
 have hb := Cal.mlen_bd y m
 obtain ⟨L, hL⟩ : ∃ L : Nat, L = (Cal.mlen y m).toNat := ⟨_, rfl⟩
 have hLm : Cal.mlen y m = (L : Int) := by omega
 have hLb : 28 ≤ L ∧ L ≤ 31 := by omega
 obtain ⟨L0, L1⟩ := hLb
 have HMK : Hid (∀ (k : Nat) W, k ≤ 31 → Calls Tryz.prog 145 #[.int .i64 y, .int .i64 m, .int .i64 ((k : Int) + 1)] W fun e w' => e = .returned (.agg #[.int .i64 (Cal.dayNum y m ((k : Int) + 1))]) ∧ Ext W w') := fun k W hk =>
  make_date y m _ (by omega) (by omega) (by omega) (by omega) (by omega) (by omega) W
 have HMO : Hid (∀ (k : Nat) W, k < L → Calls Tryz.prog 206 #[.agg #[.int .i64 (Cal.dayNum y m ((k : Int) + 1))]] W fun e w' => e = .returned (.int .i64 m) ∧ Ext W w') := fun k W hk => by
  have := month_any (Cal.dayNum y m ((k : Int) + 1)) (dayIn_of (by omega) (by omega) (by omega) (by omega) (by omega) (by omega)) W
  rw [Cal.civil_dayNum ⟨m0, m1, by omega, by omega⟩] at this
  exact this
 have HMP : Hid (∃ mm : Int, mm ≠ m ∧ ∀ W, Calls Tryz.prog 206 #[.agg #[.int .i64 (Cal.dayNum y m ((L : Int) + 1))]] W fun e w' => e = .returned (.int .i64 mm) ∧ Ext W w') := by
  refine ⟨(Cal.civil (Cal.dayNum y m ((L : Int) + 1))).2.1, ?_, fun W => ?_⟩
  ·rw [← hLm]; exact month_past m0 m1
  ·exact month_any (Cal.dayNum y m ((L : Int) + 1)) (dayIn_of (by omega) (by omega) (by omega) (by omega) (by omega) (by omega)) W
 have HWK : Hid (∀ (k : Nat) W, k ≤ 31 → Calls Tryz.prog 203 #[.agg #[.int .i64 (Cal.dayNum y m ((k : Int) + 1))]] W fun e w' => e = .returned (.int .i64 (Csm.wday y m ((k : Int) + 1))) ∧ Ext W w') := fun k W hk =>
  weekday_any (Cal.dayNum y m ((k : Int) + 1)) (dayIn_of (by omega) (by omega) (by omega) (by omega) (by omega) (by omega)) W
 obtain ⟨h4, h5, h6, h7, hd, hm, hy, h3, _, lw, _⟩ := h
 have hWne : p.W ≠ [] := by intro e; rw [e] at hW; cases hW
 obtain ⟨g, haW, hcell⟩ := lw hWne
 have hc0 : w.cell? ⟨g, 0, none⟩ = some (.int .i64 wd) := by
  refine hcell 0 wd ?_
  cases hp : p.W with
  | nil => exact absurd hp hWne
  | cons b t => rw [hp] at hW; simpa using hW
 have hpos : 0 < p.W.length := List.length_pos_iff.mpr hWne
 rw [haW] at h4
 rw [← hL]
 generalize p.W.length = n at *
 have v1 := m_value ⟨p.M, 0, none⟩
 have v2 := m_value ⟨p.Y, 0, none⟩
 have HM := Lib.hid hm
 have HY := Lib.hid hy
 clear h3 h5 hd lw hcell hWne hW haW hL hLm hb
 go_enter Tryz.func193, Tryz.ntmps193
 go_wp2_with fail
 go_at_call 167
 refine (node_value p.Y y _ HY.out).mono ?_
 rintro e w1 ⟨rfl, rfl⟩
 go_wp2_with fail
 go_at_call 167
 refine (node_value p.M m _ HM.out).mono ?_
 rintro e w1 ⟨rfl, rfl⟩
 go_wp2_with (first
  | (at_make; refine wpList_make_own _ rfl _ _ 38 rfl w.heap.size 3 i0 (.int .i64 0) 1 Tryz.underlying38 hi0 hz0 hz1 .i64 .i64 (5 : Int) 5 rfl rfl rfl ?c1 ?c2 ?c3 ?_)
  | fail)
 case c1 => rw [hz2]; omega
 case c2 => unfold maxLen; omega
 case c3 => omega
 intro w1 own1 gr1
 have hx1 : Ext w w1 := Below.grown (Below.refl _ _) gr1 (Nat.le_refl _) (fun k h => by cases h)
 clear h4 h6 h7 hm hy hc0 v1 v2
 go_wp2_with fail
 go_loopw [6, 7, 8] (fun v6 i _ wr => ∃ (k : Nat), k ≤ L ∧ i = .int .i64 ((k : Int) + 1) ∧ Hid (wr.ownsRow w.heap.size 3 1 v6 (datesL y m wd k).length (ints (datesL y m wd k))) ∧ Ext w wr)
  (fun _ i _ _ => L + 1 - (RowKit.intOf i).toNat)
 case atStart => exact ⟨0, Nat.zero_le _, rfl, own1, hx1⟩
 case round =>
  obtain ⟨k, hk, rfl, H6, hx⟩ := hrel
  clear own1 gr1
  by_cases hlt : k < L
  ·go_wp2_with fail
   go_at_call 145
   refine (HMK.out k _ (by omega)).mono ?_
   rintro e w3 ⟨rfl, x3⟩
   have X3 := Lib.hid (hx.trans x3)
   have O3 := Lib.hid (own_ext x3 H6.out)
   clear x3
   go_wp2_with fail
   go_at_call 206
   refine (HMO.out k _ hlt).mono ?_
   rintro e w4 ⟨rfl, x4⟩
   have hc8 : (w3.alloc (.cells #[.int .i64 (Cal.dayNum y m ((k : Int) + 1))] 170)).cell? ⟨w3.heap.size, 0, none⟩ = some (.int .i64 (Cal.dayNum y m ((k : Int) + 1))) := by simp
   have c8 := x4.cell hc8
   have X4 := Lib.hid (X3.out.trans ((Ext.alloc _ _).trans x4))
   have O4 := Lib.hid (own_ext ((Ext.alloc _ _).trans x4) O3.out)
   clear x4 hc8
   go_wp2_with fail
   go_at_call 203
   refine (HWK.out k _ (by omega)).mono ?_
   rintro e w5 ⟨rfl, x5⟩
   have hX5 := X4.out.trans x5
   have own6 := own_ext x5 O4.out
   have HD := Lib.hid (dates_succ y m wd k)
   have hlk := dates_len y m wd k
   clear x5 c8
   by_cases hwd : Csm.wday y m ((k : Int) + 1) = wd
   ·have HD2 := HD.out
    rw [if_pos hwd] at HD2
    replace HD2 := Lib.hid HD2
    rw [hwd]
    clear HD hwd
    generalize datesL y m wd k = zs at *
    go_wp2_with (first
     | (at_builtin; refine wpList_append_own _ rfl _ _ 38 rfl w.heap.size 3 i0 (.int .i64 0) 1 8 Tryz.underlying38 hi0 hz0 hz1 hz2 rfl (by decide) _ _ _ rfl (own6.alloc _) ⟨w5.heap.size, 0, none⟩ 1 1 [.int .i64 ((k : Int) + 1)] rfl rfl ?c1 ?c2 ?c3 ?c4 ?c5 ?_)
     | go_in)
    case c1 => exact cell_one_new _ _ _
    case c2 => intro u hu; simp at hu; subst hu; rfl
    case c3 => unfold maxLen; omega
    case c4 => omega
    case c5 => have := hX5.size; simp; omega
    intro v' w6 hown' hgrow _
    have A1 : Hid (w6.ownsRow w.heap.size 3 1 v' (zs ++ [(k : Int) + 1]).length (ints (zs ++ [(k : Int) + 1]))) := by
     show World.ownsRow _ _ _ _ _ _ _
     rw [ints_snoc]; simpa using hown'
    have A4 := Ext.own_grown hX5 own6 hgrow
    rw [← HD2.out] at A1
    clear hown' hgrow own6
    go_wp2_with fail
    go_roundw
    case rel => exact ⟨k + 1, by omega, by go_num, A1, A4⟩
    case measure => simp [RowKit.intOf]; omega
   ·have HD2 := HD.out
    rw [if_neg hwd] at HD2
    have A1 := own6
    rw [← HD2] at A1
    replace A1 := Lib.hid A1
    have hb : (Csm.wday y m ((k : Int) + 1) == wd) = false := by simp [hwd]
    clear HD HD2 own6
    generalize Csm.wday y m ((k : Int) + 1) = wk at *
    go_wp2_with fail
    go_roundw
    case rel => exact ⟨k + 1, by omega, by go_num, A1, hX5⟩
    case measure => simp [RowKit.intOf]; omega
  ·obtain rfl : k = L := by omega
   obtain ⟨mm, hmm, hcall⟩ := HMP.out
   have HCL := Lib.hid hcall
   have hb : (mm != m) = true := by simp [hmm]
   clear hcall
   go_wp2_with fail
   go_at_call 145
   refine (HMK.out k _ (by omega)).mono ?_
   rintro e w3 ⟨rfl, x3⟩
   have X3 := Lib.hid (hx.trans x3)
   have O3 := Lib.hid (own_ext x3 H6.out)
   clear x3
   go_wp2_with fail
   go_at_call 206
   refine (HCL.out _).mono ?_
   rintro e w4 ⟨rfl, x4⟩
   have X4 := Lib.hid (X3.out.trans ((Ext.alloc _ _).trans x4))
   have O4 := Lib.hid (own_ext ((Ext.alloc _ _).trans x4) O3.out)
   clear x4
   go_wp2_with fail
   go_ret
   exact ⟨_, rfl, O4.out, X4.out⟩
end Go.Proofs.YtmaffdhcmdhjfaaGreatDoor
namespace Go.Proofs.YtmaffdhcmdhjfaaGreatDoor
open Go.RowKit Go.Lib
theorem dates_form {y m wd : Int} (h0 : 0 ≤ wd) (h6 : wd ≤ 6) : ∀ k : Nat, datesL y m wd k = (List.range (if (k : Int) < Csm.firstW y m wd then 0 else (((k : Int) - Csm.firstW y m wd) / 7).toNat + 1)).map fun i : Nat => Csm.firstW y m wd + 7 * (i : Int)
 | 0 => by
   have := Csm.firstW_bd y m wd
   rw [if_pos (by omega)]
   rfl
 | k + 1 => by
   have hb := Csm.firstW_bd y m wd
   have ih := dates_form h0 h6 (y := y) (m := m) k
   have hi := Csm.wday_iff (y := y) (m := m) (d := (k : Int) + 1) h0 h6
   rw [dates_succ, ih]
   generalize Csm.firstW y m wd = f at *
   have ek : ((k + 1 : Nat) : Int) = (k : Int) + 1 := by omega
   rw [ek]
   by_cases h : Csm.wday y m ((k : Int) + 1) = wd
   ·rw [if_pos h]
    have hm := hi.mp h
    by_cases hlt : (k : Int) < f
    ·rw [if_pos hlt]
     have : (k : Int) + 1 = f := by omega
     rw [if_neg (by omega)]
     have e : (((k : Int) + 1 - f) / 7).toNat = 0 := by omega
     rw [e, this]
     simp
    ·rw [if_neg hlt, if_neg (by omega)]
     have e : (((k : Int) + 1 - f) / 7).toNat = (((k : Int) - f) / 7).toNat + 1 := by omega
     rw [e, List.range_succ (n := (((k : Int) - f) / 7).toNat + 1), List.map_append]
     congr 1
     simp
     omega
   ·rw [if_neg h]
    have hm : ¬ ((k : Int) + 1 - f) % 7 = 0 := fun h' => h (hi.mpr h')
    by_cases hlt : (k : Int) < f
    ·rw [if_pos hlt, if_pos (by omega)]
    ·rw [if_neg hlt, if_neg (by omega)]
     have e : (((k : Int) + 1 - f) / 7).toNat = (((k : Int) - f) / 7).toNat := by omega
     rw [e]
theorem dates_month {y m wd : Int} (h0 : 0 ≤ wd) (h6 : wd ≤ 6) :
 4 ≤ (datesL y m wd (Cal.mlen y m).toNat).length ∧ (datesL y m wd (Cal.mlen y m).toNat).length ≤ 5 ∧
 (∀ n : Nat, n < (datesL y m wd (Cal.mlen y m).toNat).length → (datesL y m wd (Cal.mlen y m).toNat)[n]? = some (Csm.dowN y m wd ((n : Int) + 1))) ∧
 (datesL y m wd (Cal.mlen y m).toNat)[(datesL y m wd (Cal.mlen y m).toNat).length - 1]? = some (Csm.dowN y m wd (-1)) := by
 have hb := Csm.firstW_bd y m wd
 have hm := Cal.mlen_bd y m
 have hf := dates_form h0 h6 (y := y) (m := m) (Cal.mlen y m).toNat
 have e : (((Cal.mlen y m).toNat : Nat) : Int) = Cal.mlen y m := by omega
 rw [e, if_neg (by omega)] at hf
 rw [hf]
 unfold Csm.dowN
 generalize Csm.firstW y m wd = f at *
 generalize Cal.mlen y m = L at *
 simp only [List.length_map, List.length_range]
 refine ⟨by omega, by omega, fun n hn => ?_, ?_⟩
 ·rw [List.getElem?_map, List.getElem?_range hn, if_pos (by omega)]
  simp
 ·rw [List.getElem?_map, List.getElem?_range (by omega), if_neg (by omega)]
  simp
  omega
structure ListsOk (M Y : List Int) : Prop where
 m : ∀ z ∈ M, 1 ≤ z ∧ z ≤ 12
 y : ∀ z ∈ Y, 1900 ≤ z ∧ z ≤ 900000
theorem cnext_m {M : List Int} (h : ∀ z ∈ M, 1 ≤ z ∧ z ≤ 12) {m : Int} (m0 : 0 ≤ m) (m1 : m ≤ 12) : 1 ≤ (Csm.cnext 1 12 M m).1 ∧ (Csm.cnext 1 12 M m).1 ≤ 12 := by
 unfold Csm.cnext
 split
 ·split <;> simp <;> omega
 ·rename_i a t
  split
  ·rename_i x hx
   exact h x (List.mem_of_find?_eq_some hx)
  ·exact h a (by simp)
theorem cnext_y {Y : List Int} (h : ∀ z ∈ Y, 1900 ≤ z ∧ z ≤ 900000) {y : Int} (y0 : 1900 ≤ y) (y1 : y ≤ 999990) : 1900 ≤ (Csm.cnext 0 999999 Y y).1 ∧ ((Csm.cnext 0 999999 Y y).1 ≤ y + 1 ∨ (Csm.cnext 0 999999 Y y).1 ≤ 900000) := by
 unfold Csm.cnext
 split
 ·rw [if_neg (by omega)]; simp; omega
 ·rename_i a t
  split
  ·rename_i x hx
   have := h x (List.mem_of_find?_eq_some hx)
   exact ⟨this.1, .inr this.2⟩
  ·have := h a (by simp)
   exact ⟨this.1, .inr this.2⟩
def advM (M Y : List Int) (y m : Int) : Int × Int := if (Csm.cnext 1 12 M m).2 then ((Csm.cnext 0 999999 Y y).1, (Csm.cnext 1 12 M m).1) else (y, (Csm.cnext 1 12 M m).1)
theorem advM_bd {M Y : List Int} (h : ListsOk M Y) {y m : Int} (y0 : 1900 ≤ y) (y1 : y ≤ 999990) (m0 : 1 ≤ m) (m1 : m ≤ 12) :
 1900 ≤ (advM M Y y m).1 ∧ ((advM M Y y m).1 ≤ y + 1 ∨ (advM M Y y m).1 ≤ 900000) ∧ 1 ≤ (advM M Y y m).2 ∧ (advM M Y y m).2 ≤ 12 := by
 have a := cnext_m h.m (m := m) (by omega) m1
 have b := cnext_y h.y y0 y1
 unfold advM
 split
 ·exact ⟨b.1, b.2, a.1, a.2⟩
 ·exact ⟨y0, .inl (by simp; omega), a.1, a.2⟩
set_option maxHeartbeats 1600000 in
set_option maxRecDepth 1000000 in
theorem day_adv {p : DayIs} {aM : Option Addr} {cM : Nat} {M : List Int} {aY : Option Addr} {cY : Nat} {Y : List Int} {S : Int → Int → Int → World → Prop} (hS : DayS p aM cM M aY cY Y S) (y m d : Int) (y0 : 1900 ≤ y) (y1 : y ≤ 999990) (m0 : 1 ≤ m) (m1 : m ≤ 12) (w : World) (h : S y m d w) :
 Calls Tryz.prog 205 #[.pointer (some ⟨p.B, 0, none⟩)] w fun e w' => e = .returned (.tuple #[]) ∧ S (advM M Y y m).1 (advM M Y y m).2 d w' := by
 have HN : Hid (∀ W, S y m d W → Calls Tryz.prog 194 #[.pointer (some ⟨p.M, 0, none⟩)] W fun e w' => e = .returned (.bool (Csm.cnext 1 12 M m).2) ∧ S y (Csm.cnext 1 12 M m).1 d w') := fun W hW => node_next (hS.nM y d) m (by omega) (by omega) W hW
 have HYY : Hid (∀ mm W, S y mm d W → Calls Tryz.prog 194 #[.pointer (some ⟨p.Y, 0, none⟩)] W fun e w' => e = .returned (.bool (Csm.cnext 0 999999 Y y).2) ∧ S (Csm.cnext 0 999999 Y y).1 mm d w') := fun mm W hW => node_next (hS.nY mm d) y (by omega) (by omega) W hW
 unfold advM
 generalize Csm.cnext 1 12 M m = r at *
 generalize Csm.cnext 0 999999 Y y = s at *
 obtain ⟨r1, r2⟩ := r
 obtain ⟨s1, s2⟩ := s
 simp only at HN HYY ⊢
 have hat := hS.at_ _ _ _ _ h
 have h6 := hat.mo
 have v1 := m_next ⟨p.M, 0, none⟩
 have v2 := m_next ⟨p.Y, 0, none⟩
 have HS := Lib.hid hS
 have H := Lib.hid h
 clear hat h hS
 rcases r2
 ·go_enter Tryz.func205, Tryz.ntmps205
  go_wp2_with fail
  go_at_call 194
  refine (HN.out _ H.out).mono ?_
  rintro e w1 ⟨rfl, h1⟩
  have H1 := Lib.hid h1
  clear h1 h6
  go_wp2_with fail
  go_end0
  exact ⟨rfl, H1.out⟩
 ·go_enter Tryz.func205, Tryz.ntmps205
  go_wp2_with fail
  go_at_call 194
  refine (HN.out _ H.out).mono ?_
  rintro e w1 ⟨rfl, h1⟩
  have h7 := (HS.out.at_ _ _ _ _ h1).yr
  have H1 := Lib.hid h1
  clear h1 h6
  go_wp2_with fail
  go_at_call 194
  refine (HYY.out _ _ H1.out).mono ?_
  rintro e w2 ⟨rfl, h2⟩
  have H2 := Lib.hid h2
  clear h2 h7
  go_wp2_with fail
  go_end0
  exact ⟨rfl, H2.out⟩
end Go.Proofs.YtmaffdhcmdhjfaaGreatDoor
