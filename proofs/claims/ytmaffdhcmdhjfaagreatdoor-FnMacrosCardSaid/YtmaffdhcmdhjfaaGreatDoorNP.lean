/- The day's node of package csm: nextDayN, Next: Csm.dayNext. The day's node of package csm: isValidWeekday, isValidDayOfMonth, isValid: Csm.dvalid. The day's node of package csm: isValidDayOfMonth. The day's node of package csm: findForward, Reset. -/
import Derived.Test.YtmaffdhcmdhjfaaGreatDoorNO
set_option linter.unusedSimpArgs false
set_option linter.unusedVariables false
namespace Go.Proofs.YtmaffdhcmdhjfaaGreatDoor
open Go.RowKit Go.Lib
structure Link (p : DayIs) (M Y : List Int) (c : Csm.Cfg) : Prop where
 W : p.W = c.W
 n : p.n = c.n
 eqM : M = c.M
 eqY : Y = c.Y
 D : p.D = if c.W.isEmpty then c.D else []
 ok : ListsOk M Y
theorem advM_eq {c : Csm.Cfg} {y m : Int} : advM c.M c.Y y m = Csm.advMonth c y m := by
 unfold advM Csm.advMonth
 rcases h : Csm.cnext 1 12 c.M m with ⟨a, b⟩
 rcases b <;> simp
set_option maxHeartbeats 3200000 in
set_option maxRecDepth 1000000 in
theorem day_nextN {p : DayIs} {aM : Option Addr} {cM : Nat} {M : List Int} {aY : Option Addr} {cY : Nat} {Y : List Int} {S : Int → Int → Int → World → Prop} (hS : DayS p aM cM M aY cY Y S) {c : Csm.Cfg} (lk : Link p M Y c) (hg : Csm.Good c) (hW : c.W = []) (hn : c.n ≠ 0) (y m d : Int) (hs : Sane y m d) (y9 : y ≤ 999980) (w : World) (h : S y m d w) :
 Calls Tryz.prog 181 #[.pointer (some ⟨p.B, 0, none⟩)] w fun e w' => e = .returned (.bool false) ∧ S (Csm.dayNext c y m d).1.1 (Csm.dayNext c y m d).1.2.1 (Csm.dayNext c y m d).1.2.2 w' := by
 have hk := hg.kD hW
 have hT : Csm.dayNext c y m d = if d ≥ Csm.tgt c y m then (((Csm.advMonth c y m).1, (Csm.advMonth c y m).2, Csm.tgt c (Csm.advMonth c y m).1 (Csm.advMonth c y m).2), false) else ((y, m, Csm.tgt c y m), false) := by
  unfold Csm.dayNext; rw [if_neg hn]
 have hadv : advM M Y y m = Csm.advMonth c y m := by rw [lk.eqM, lk.eqY]; exact advM_eq
 have hD : p.D = c.D := by rw [lk.D, hW]; rfl
 by_cases hwk : c.n = 2 ∨ c.n = 3
 ·obtain ⟨a, ha, hab⟩ : ∃ a, p.D.head? = some a ∧ ((c.n = 3 ∨ 1 ≤ a) ∧ -1000 ≤ a ∧ a ≤ 1000) := by
   rw [hD]
   rcases hk with h | ⟨h, _⟩ | ⟨_, h, _⟩ | ⟨h, a, hd, a1, a2, _⟩ | ⟨h, hd⟩
   ·exact absurd h hn
   ·omega
   ·omega
   ·exact ⟨a, by rw [hd]; rfl, .inr a1, by omega, by omega⟩
   ·exact ⟨0, by rw [hd]; rfl, .inl h, by omega, by omega⟩
  have hn2 : p.n = 2 ∨ p.n = 3 := by rw [lk.n]; exact hwk
  have ha3 : p.n = 3 ∨ 1 ≤ a := by rw [lk.n]; exact hab.1
  have htg : ∀ y m, Csm.tgt c y m = wkT a p.n y m := by
   intro y m
   unfold Csm.tgt wkT
   rw [hW, lk.n]
   simp only
   by_cases h3 : c.n = 3
   ·rw [if_pos h3, if_pos h3]
   ·have h2 : c.n = 2 := by omega
    rw [if_neg h3, if_pos h2, if_neg h3]
    rw [hD] at ha
    cases hcd : c.D with
    | nil => rw [hcd] at ha; cases ha
    | cons b t => rw [hcd] at ha; simp at ha; subst ha; rfl
  have H195 : Hid (∀ W, S y m d W → Calls Tryz.prog 195 #[.pointer (some ⟨p.B, 0, none⟩)] W fun e w' => e = .returned (.tuple #[]) ∧ S (Csm.dayNext c y m d).1.1 (Csm.dayNext c y m d).1.2.1 (Csm.dayNext c y m d).1.2.2 w') := fun W hW2 => by
   rw [hT, htg, htg, ← hadv]
   by_cases hlt : d < wkT a p.n y m
   ·rw [if_neg (by omega)]
    exact week_low hS a hn2 ha ha3 hab.2 y m d hs W hW2 hlt
   ·rw [if_pos (by omega)]
    exact week_high hS lk.ok a hn2 ha ha3 hab.2 y m d hs (by omega) W hW2 (by omega)
  generalize Csm.dayNext c y m d = r at *
  have h5 := (hS.at_ _ _ _ _ h).n
  have H := Lib.hid h
  have u1 : bits BinOp.and IntKind.i64 2 2 = 2 := by decide +kernel
  have u2 : bits BinOp.and IntKind.i64 3 2 = 2 := by decide +kernel
  clear hk hT hadv hD ha ha3 htg hab h hS hwk
  rcases hn2 with hn2 | hn2
  all_goals (
   rw [hn2] at h5
   clear hn2
   go_enter Tryz.func181, Tryz.ntmps181
   go_wp2_with fail
   go_at_call 195
   refine (H195.out _ H.out).mono ?_
   rintro e w1 ⟨rfl, h1⟩
   have H1 := Lib.hid h1
   clear h1
   go_wp2_with fail
   go_ret
   exact ⟨rfl, H1.out⟩)
 ·have hn2 : p.n = 1 ∨ (-27 ≤ p.n ∧ p.n ≤ -1) := by
   rw [lk.n]
   rcases hk with h | ⟨h, _⟩ | ⟨h1, h2, _⟩ | ⟨h, _⟩ | ⟨h, _⟩
   ·exact absurd h hn
   ·exact .inl h
   ·exact .inr ⟨h1, h2⟩
   ·exact absurd (.inl h) hwk
   ·exact absurd (.inr h) hwk
  have htg : ∀ y m, Csm.tgt c y m = lastT p.n y m := by
   intro y m
   unfold Csm.tgt lastT
   rw [hW, lk.n]
   simp only
   rw [if_neg (by omega), if_neg (by omega)]
  have H196 : Hid (∀ W, S y m d W → Calls Tryz.prog 196 #[.pointer (some ⟨p.B, 0, none⟩)] W fun e w' => e = .returned (.tuple #[]) ∧ S (Csm.dayNext c y m d).1.1 (Csm.dayNext c y m d).1.2.1 (Csm.dayNext c y m d).1.2.2 w') := fun W hW2 => by
   rw [hT, htg, htg, ← hadv]
   by_cases hlt : d < lastT p.n y m
   ·rw [if_neg (by omega)]
    exact last_low hS hn2 y m d hs (by omega) W hW2 hlt
   ·rw [if_pos (by omega)]
    exact last_high hS lk.ok hn2 y m d hs (by omega) (by omega) W hW2 (by omega)
  generalize Csm.dayNext c y m d = r at *
  have h5 := (hS.at_ _ _ _ _ h).n
  have H := Lib.hid h
  have u1 : bits BinOp.and IntKind.i64 1 2 = 0 := by decide +kernel
  clear hk hT hadv hD htg h hS hwk
  generalize p.n = n at *
  rcases hn2 with hn2 | ⟨hn2, hn3⟩
  ·subst hn2
   go_enter Tryz.func181, Tryz.ntmps181
   go_wp2_with fail
   go_at_call 196
   refine (H196.out _ H.out).mono ?_
   rintro e w1 ⟨rfl, h1⟩
   have H1 := Lib.hid h1
   clear h1
   go_wp2_with fail
   go_ret
   exact ⟨rfl, H1.out⟩
  ·go_enter Tryz.func181, Tryz.ntmps181
   go_wp2_with fail
   go_at_call 196
   refine (H196.out _ H.out).mono ?_
   rintro e w1 ⟨rfl, h1⟩
   have H1 := Lib.hid h1
   clear h1
   go_wp2_with fail
   go_ret
   exact ⟨rfl, H1.out⟩
set_option maxHeartbeats 3200000 in
set_option maxRecDepth 1000000 in
theorem day_next {p : DayIs} {aM : Option Addr} {cM : Nat} {M : List Int} {aY : Option Addr} {cY : Nat} {Y : List Int} {S : Int → Int → Int → World → Prop} (hS : DayS p aM cM M aY cY Y S) {c : Csm.Cfg} (lk : Link p M Y c) (hg : Csm.Good c) (y m d : Int) (hs : Sane y m d) (y9 : y ≤ 999980) (hv : c.W ≠ [] → c.n = 0 → 1 ≤ d ∧ d ≤ Cal.mlen y m) (w : World) (h : S y m d w) :
 Calls Tryz.prog 163 #[.pointer (some ⟨p.B, 0, none⟩)] w fun e w' => e = .returned (.bool (Csm.dayNext c y m d).2) ∧ S (Csm.dayNext c y m d).1.1 (Csm.dayNext c y m d).1.2.1 (Csm.dayNext c y m d).1.2.2 w' := by
 have HK : Hid (∀ W, S y m d W → Calls Tryz.prog 177 #[.pointer (some ⟨p.B, 0, none⟩)] W fun e w' => e = .returned (.bool (decide (0 < p.W.length))) ∧ W = w') := fun W hW => day_kind p y m d W (hS.at_ _ _ _ _ hW)
 have h5 := (hS.at_ _ _ _ _ h).n
 rw [lk.n] at h5
 by_cases hW : c.W = []
 ·have hl : p.W.length = 0 := by rw [lk.W, hW]; rfl
  rw [hl] at HK
  by_cases hn : c.n = 0
  ·have hD : p.D = c.D := by rw [lk.D, hW]; rfl
   have hT : Csm.dayNext c y m d = ((y, m, (Csm.cnext 1 31 c.D d).1), (Csm.cnext 1 31 c.D d).2) := by
    unfold Csm.dayNext; rw [if_pos hn, hW]
   have H180 : Hid (∀ W, S y m d W → Calls Tryz.prog 180 #[.pointer (some ⟨p.B, 0, none⟩)] W fun e w' => e = .returned (.bool (Csm.dayNext c y m d).2) ∧ S (Csm.dayNext c y m d).1.1 (Csm.dayNext c y m d).1.2.1 (Csm.dayNext c y m d).1.2.2 w') := fun W hW2 => by
    rw [hT]
    have := day_plain hS y m d hs W hW2
    rw [hD] at this
    exact this
   generalize Csm.dayNext c y m d = r at *
   rw [hn] at h5
   have H := Lib.hid h
   clear hT hD h hS lk hg hs hv
   go_enter Tryz.func163, Tryz.ntmps163
   go_wp2_with fail
   go_at_call 177
   refine (HK.out _ H.out).mono ?_
   rintro e w1 ⟨rfl, rfl⟩
   go_wp2_with fail
   go_at_call 180
   refine (H180.out _ H.out).mono ?_
   rintro e w2 ⟨rfl, h2⟩
   have H2 := Lib.hid h2
   clear h2
   go_wp2_with fail
   go_ret
   exact ⟨rfl, H2.out⟩
  ·have H181 : Hid (∀ W, S y m d W → Calls Tryz.prog 181 #[.pointer (some ⟨p.B, 0, none⟩)] W fun e w' => e = .returned (.bool (Csm.dayNext c y m d).2) ∧ S (Csm.dayNext c y m d).1.1 (Csm.dayNext c y m d).1.2.1 (Csm.dayNext c y m d).1.2.2 w') := fun W hW2 => by
    have e2 : (Csm.dayNext c y m d).2 = false := by unfold Csm.dayNext; rw [if_neg hn]; split <;> rfl
    rw [e2]
    exact day_nextN hS lk hg hW hn y m d hs y9 W hW2
   generalize Csm.dayNext c y m d = r at *
   have hb : (c.n == 0) = false := by simp [hn]
   have H := Lib.hid h
   clear h hS lk hg hs hv
   generalize c.n = n at *
   go_enter Tryz.func163, Tryz.ntmps163
   go_wp2_with fail
   go_at_call 177
   refine (HK.out _ H.out).mono ?_
   rintro e w1 ⟨rfl, rfl⟩
   go_wp2_with fail
   go_at_call 181
   refine (H181.out _ H.out).mono ?_
   rintro e w2 ⟨rfl, h2⟩
   have H2 := Lib.hid h2
   clear h2
   go_wp2_with fail
   go_ret
   exact ⟨rfl, H2.out⟩
 ·have hl : decide (0 < p.W.length) = true := by rw [lk.W]; simpa using List.length_pos_iff.mpr hW
  rw [hl] at HK
  have hWp : p.W ≠ [] := by rw [lk.W]; exact hW
  by_cases hn : c.n = 0
  ·have hT : Csm.dayNext c y m d = ((y, m, if d + Csm.dowOff c.W (Csm.wday y m d) > Cal.mlen y m then d + Csm.dowOff c.W (Csm.wday y m d) - Cal.mlen y m else d + Csm.dowOff c.W (Csm.wday y m d)), decide (d + Csm.dowOff c.W (Csm.wday y m d) > Cal.mlen y m)) := by
    unfold Csm.dayNext
    rw [if_pos hn]
    cases hcw : c.W with
    | nil => exact absurd hcw hW
    | cons a t => rfl
   have H178 : Hid (∀ W, S y m d W → Calls Tryz.prog 178 #[.pointer (some ⟨p.B, 0, none⟩)] W fun e w' => e = .returned (.bool (Csm.dayNext c y m d).2) ∧ S (Csm.dayNext c y m d).1.1 (Csm.dayNext c y m d).1.2.1 (Csm.dayNext c y m d).1.2.2 w') := fun W hW2 => by
    rw [hT]
    have := day_nextWeek hS y m d hs (hv hW hn).1 (hv hW hn).2 hWp (by rw [lk.W]; exact hg.hW) W hW2
    rw [lk.W] at this
    exact this
   generalize Csm.dayNext c y m d = r at *
   rw [hn] at h5
   have H := Lib.hid h
   clear hT h hS lk hg hs hv
   go_enter Tryz.func163, Tryz.ntmps163
   go_wp2_with fail
   go_at_call 177
   refine (HK.out _ H.out).mono ?_
   rintro e w1 ⟨rfl, rfl⟩
   go_wp2_with fail
   go_at_call 178
   refine (H178.out _ H.out).mono ?_
   rintro e w2 ⟨rfl, h2⟩
   have H2 := Lib.hid h2
   clear h2
   go_wp2_with fail
   go_ret
   exact ⟨rfl, H2.out⟩
  ·have hkw := (hg.kW hW).2
   obtain ⟨⟨wd, hwd⟩, hnn⟩ : (∃ w, c.W = [w]) ∧ (c.n = -1 ∨ (1 ≤ c.n ∧ c.n ≤ 4)) := by
    rcases hkw with ⟨h0, _⟩ | h0
    ·exact absurd h0 hn
    ·exact h0
   have hwdb : 0 ≤ wd ∧ wd ≤ 6 := ⟨hg.hW.low wd (by rw [hwd]; simp), hg.hW.high wd (by rw [hwd]; simp)⟩
   have htg : ∀ y m, Csm.tgt c y m = Csm.dowN y m wd p.n := by
    intro y m
    unfold Csm.tgt
    rw [hwd, lk.n]
   have hadv : advM M Y y m = Csm.advMonth c y m := by rw [lk.eqM, lk.eqY]; exact advM_eq
   have hT : Csm.dayNext c y m d = (nthNext M Y wd p.n y m d, false) := by
    unfold Csm.dayNext nthNext
    rw [if_neg hn]
    simp only [htg, hadv]
    by_cases hlt : Csm.dowN y m wd p.n ≤ d
    ·rw [if_pos hlt, if_pos hlt]
    ·rw [if_neg hlt, if_neg hlt]
   have H179 : Hid (∀ W, S y m d W → Calls Tryz.prog 179 #[.pointer (some ⟨p.B, 0, none⟩)] W fun e w' => e = .returned (.bool (Csm.dayNext c y m d).2) ∧ S (Csm.dayNext c y m d).1.1 (Csm.dayNext c y m d).1.2.1 (Csm.dayNext c y m d).1.2.2 w') := fun W hW2 => by
    rw [hT]
    exact day_nextNth hS lk.ok ⟨by rw [lk.n]; exact hnn⟩ wd (by rw [lk.W, hwd]; rfl) hwdb.1 hwdb.2 y m d hs (by omega) W hW2
   generalize Csm.dayNext c y m d = r at *
   have hb : (c.n == 0) = false := by simp [hn]
   have H := Lib.hid h
   clear h hS hg hs hv hkw hnn hwd hwdb htg hadv hT lk
   generalize c.n = n at *
   go_enter Tryz.func163, Tryz.ntmps163
   go_wp2_with fail
   go_at_call 177
   refine (HK.out _ H.out).mono ?_
   rintro e w1 ⟨rfl, rfl⟩
   go_wp2_with fail
   go_at_call 179
   refine (H179.out _ H.out).mono ?_
   rintro e w2 ⟨rfl, h2⟩
   have H2 := Lib.hid h2
   clear h2
   go_wp2_with fail
   go_ret
   exact ⟨rfl, H2.out⟩
end Go.Proofs.YtmaffdhcmdhjfaaGreatDoor
namespace Go.Proofs.YtmaffdhcmdhjfaaGreatDoor
open Go.RowKit Go.Lib
set_option maxHeartbeats 3200000 in
set_option maxRecDepth 1000000 in
theorem valid_week {p : DayIs} {aM : Option Addr} {cM : Nat} {M : List Int} {aY : Option Addr} {cY : Nat} {Y : List Int} {S : Int → Int → Int → World → Prop} (hS : DayS p aM cM M aY cY Y S) (wd : Int) (hW : p.W.head? = some wd) (w0 : 0 ≤ wd) (w6 : wd ≤ 6) (hn : p.n = 0 ∨ NthIs p.n) (y m d : Int) (hs : Sane y m d) (w : World) (h : S y m d w) :
 Calls Tryz.prog 183 #[.pointer (some ⟨p.B, 0, none⟩)] w fun e w' => e = .returned (.bool (if p.n = 0 then p.W.contains (Csm.wday y m d) else decide (d = Csm.dowN y m wd p.n))) ∧ S y m d w' := by
 have hlw := hS.lW
 have hat := hS.at_ _ _ _ _ h
 have h5 := hat.n
 have HCC : Hid (∀ W, S y m d W → W.cell? ⟨p.B, 4, none⟩ = some (.slice p.aW p.W.length p.cW) ∧ W.cell? ⟨p.B, 5, none⟩ = some (.int .i64 p.n)) := fun W hW => ⟨(hS.at_ _ _ _ _ hW).wk, (hS.at_ _ _ _ _ hW).n⟩
 rcases hn with hn | hn
 ·rw [if_pos hn]
  have HWK : Hid (∀ W, S y m d W → Calls Tryz.prog 190 #[.pointer (some ⟨p.B, 0, none⟩)] W fun e w' => e = .returned (.int .i64 (Csm.wday y m d)) ∧ S y m d w') := fun W hW2 => by
   refine (day_week p y m d hs W (hS.at_ _ _ _ _ hW2)).mono ?_
   rintro e w' ⟨rfl, x⟩
   exact ⟨rfl, hS.ext _ _ _ _ _ hW2 x⟩
  have HCT : Hid (∀ W, S y m d W → Calls Tryz.prog 198 #[.slice p.aW p.W.length p.cW, .int .i64 (Csm.wday y m d)] W fun e w' => e = .returned (.bool (p.W.contains (Csm.wday y m d))) ∧ S y m d w') := fun W hW2 => by
   refine (contains_any p.aW p.cW p.W _ hlw W (hS.at_ _ _ _ _ hW2).lw).mono ?_
   rintro e w' ⟨rfl, rfl⟩
   exact ⟨rfl, hW2⟩
  have HEX : Hid (∀ W W', S y m d W → Ext W W' → S y m d W') := fun W W' hW x => hS.ext _ _ _ _ _ hW x
  generalize p.W.contains (Csm.wday y m d) = r at *
  generalize Csm.wday y m d = wk at *
  rw [hn] at h5
  have H := Lib.hid h
  clear h hS hs hat hn hW
  generalize p.W.length = n at *
  go_enter Tryz.func183, Tryz.ntmps183
  go_wp2_with fail
  obtain ⟨T, g, hT, h0, hS2, hI⟩ := cls_intro (S y m d) _ (HEX.out _ _ H.out (Ext.drew w))
  have q4 := fun t => (HCC.out _ (hS2 t)).1
  have HS2 := Lib.hid hS2
  have HI := Lib.hid hI
  clear hS2 hI
  refine wp_region_cls g (by kernel_rfl) (by kernel_rfl) h0 ?_
  clear h0
  repeat (go_big_quiet_step (first
   | (go_at_call 190; exact calls_cls HI.out (HWK.out _ (HS2.out _)))
   | (go_at_call 198; exact calls_cls HI.out (HCT.out _ (HS2.out _)))))
  refine wpQuiet_nil ?_
  rintro _ ⟨t, rfl⟩
  clear q4
  have h4 := Lib.hid (HS2.out t)
  generalize g t = w4 at h4 ⊢
  go_wp2_with fail
  go_ret
  exact ⟨rfl, h4.out⟩
 ·have hn0 : p.n ≠ 0 := by rcases hn.is with h | h <;> omega
  rw [if_neg hn0]
  have HDT : Hid (∀ W, S y m d W → Calls Tryz.prog 193 #[.pointer (some ⟨p.B, 0, none⟩)] W fun e w' => ∃ g cap len, e = .returned (.slice (some ⟨g, 0, none⟩) len cap) ∧ DatesAt w' g p.n len (Csm.dowN y m wd p.n) ∧ S y m d w') := fun W hW2 => by
   refine (day_dates p y m d wd hs hW hlw W (hS.at_ _ _ _ _ hW2)).mono ?_
   rintro e w' ⟨v, rfl, hI, x⟩
   obtain ⟨g, cap, len, rfl, hD⟩ := dates_at hn w0 w6 hI
   exact ⟨g, cap, len, rfl, hD, hS.ext _ _ _ _ _ hW2 x⟩
  have HV : Hid (∀ (w2 : World) W, S y m d W → Ext w2 W → Calls Tryz.prog 146 #[.pointer (some ⟨p.B, 0, none⟩)] W fun e w' => e = .returned (.int .i64 d) ∧ (S y m d w' ∧ Ext w2 w')) := fun w2 W hW2 x => by
   refine (day_value p y m d W (hS.at_ _ _ _ _ hW2)).mono ?_
   rintro e w' ⟨rfl, rfl⟩
   exact ⟨rfl, hW2, x⟩
  have HEX : Hid (∀ W W', S y m d W → Ext W W' → S y m d W') := fun W W' hW x => hS.ext _ _ _ _ _ hW x
  generalize Csm.dowN y m wd p.n = t at *
  have H := Lib.hid h
  obtain ⟨hn⟩ := hn
  clear h hS hs hat hW w0 w6
  generalize p.n = n at *
  have hb0 : (n == 0) = false := by simp [hn0]
  rcases hn with rfl | ⟨n1, n4⟩
  ·go_enter Tryz.func183, Tryz.ntmps183
   go_wp2_with fail
   go_at_call 193
   refine (HDT.out _ H.out).mono ?_
   rintro e w2 ⟨gg, cap, len, rfl, ⟨l0, l1, hc⟩, h2⟩
   rw [if_neg (by omega)] at hc
   have c5 := (HCC.out _ h2).2
   have HC := Lib.hid hc
   have H2 := Lib.hid h2
   clear h2 hc h5
   go_wp2_with fail
   obtain ⟨T, g, hT, h0, hS2, hI⟩ := cls_intro (fun W => S y m d W ∧ Ext w2 W) _ ⟨HEX.out _ _ H2.out (Ext.drew w2), Ext.drew w2⟩
   have q5 := fun t => (HCC.out _ (hS2 t).1).2
   have q6 := fun t => (hS2 t).2.cell HC.out
   have HS2 := Lib.hid hS2
   have HI := Lib.hid hI
   clear hS2 hI c5
   refine wp_region_cls g (by kernel_rfl) (by kernel_rfl) h0 ?_
   clear h0
   repeat (go_big_quiet_step (first
    | (go_at_call 146; exact calls_cls HI.out (HV.out w2 _ (HS2.out _).1 (HS2.out _).2))))
   refine wpQuiet_nil ?_
   rintro _ ⟨tt, rfl⟩
   clear q5 q6
   have h4 := Lib.hid (HS2.out tt).1
   generalize g tt = w4 at h4 ⊢
   go_wp2_with fail
   go_ret
   exact ⟨by first | rfl | exact ret_bool (by rw [Bool.eq_iff_iff]; simp), h4.out⟩
  ·obtain ⟨k, hk⟩ : ∃ k : Nat, n = (k : Int) + 1 := ⟨(n - 1).toNat, by omega⟩
   subst hk
   have ek : ((k : Int) + 1 - 1).toNat = k := by omega
   go_enter Tryz.func183, Tryz.ntmps183
   go_wp2_with fail
   go_at_call 193
   refine (HDT.out _ H.out).mono ?_
   rintro e w2 ⟨gg, cap, len, rfl, ⟨l0, l1, hc⟩, h2⟩
   rw [if_pos (by omega), ek] at hc
   have c5 := (HCC.out _ h2).2
   have HC := Lib.hid hc
   have H2 := Lib.hid h2
   clear h2 hc h5
   have e1 : IntKind.i64.wrap ((k : Int) + 1 - 1) = (k : Int) := by rw [IntWalk.i64_in _ (by omega)]; omega
   have e2 : (k : Int) < (len : Int) := by omega
   have e3 : k < len := by omega
   go_wp2_with fail
   obtain ⟨T, g, hT, h0, hS2, hI⟩ := cls_intro (fun W => S y m d W ∧ Ext w2 W) _ ⟨HEX.out _ _ H2.out (Ext.drew w2), Ext.drew w2⟩
   have q5 := fun t => (HCC.out _ (hS2 t).1).2
   have q6 := fun t => (hS2 t).2.cell HC.out
   have HS2 := Lib.hid hS2
   have HI := Lib.hid hI
   clear hS2 hI c5
   refine wp_region_cls g (by kernel_rfl) (by kernel_rfl) h0 ?_
   clear h0
   repeat (go_big_quiet_step (first
    | (go_at_call 146; exact calls_cls HI.out (HV.out w2 _ (HS2.out _).1 (HS2.out _).2))))
   refine wpQuiet_nil ?_
   rintro _ ⟨tt, rfl⟩
   clear q5 q6
   have h4 := Lib.hid (HS2.out tt).1
   generalize g tt = w4 at h4 ⊢
   go_wp2_with fail
   go_ret
   exact ⟨by first | rfl | exact ret_bool (by rw [Bool.eq_iff_iff]; simp), h4.out⟩
end Go.Proofs.YtmaffdhcmdhjfaaGreatDoor
namespace Go.Proofs.YtmaffdhcmdhjfaaGreatDoor
open Go.RowKit Go.Lib
def domB (n y m d : Int) : Bool :=
 if n = 0 then true else if n < 0 then decide (d = Cal.mlen y m + n) else if n = 1 then decide (d = Cal.mlen y m) else if n = 3 then decide (d = Cal.mlen y m) && Csm.isWork y m d else Csm.isWork y m d
set_option maxHeartbeats 3200000 in
set_option maxRecDepth 1000000 in
theorem valid_dom {p : DayIs} {aM : Option Addr} {cM : Nat} {M : List Int} {aY : Option Addr} {cY : Nat} {Y : List Int} {S : Int → Int → Int → World → Prop} (hS : DayS p aM cM M aY cY Y S) (hn : p.n = 0 ∨ p.n = 1 ∨ (-27 ≤ p.n ∧ p.n ≤ -1) ∨ p.n = 2 ∨ p.n = 3) (y m d : Int) (hs : Sane y m d) (w : World) (h : S y m d w) :
 Calls Tryz.prog 184 #[.pointer (some ⟨p.B, 0, none⟩)] w fun e w' => e = .returned (.bool (domB p.n y m d)) ∧ S y m d w' := by
 have hb := Cal.mlen_bd y m
 have h5 := (hS.at_ _ _ _ _ h).n
 have HCC : Hid (∀ W, S y m d W → W.cell? ⟨p.B, 5, none⟩ = some (.int .i64 p.n)) := fun W hW => (hS.at_ _ _ _ _ hW).n
 have HEX : Hid (∀ W W', S y m d W → Ext W W' → S y m d W') := fun W W' hW x => hS.ext _ _ _ _ _ hW x
 have HV : Hid (∀ W, S y m d W → Calls Tryz.prog 146 #[.pointer (some ⟨p.B, 0, none⟩)] W fun e w' => e = .returned (.int .i64 d) ∧ S y m d w') := fun W hW2 => by
  refine (day_value p y m d W (hS.at_ _ _ _ _ hW2)).mono ?_
  rintro e w' ⟨rfl, rfl⟩
  exact ⟨rfl, hW2⟩
 have HVX : Hid (∀ w2 W, S y m d W → Ext w2 W → Calls Tryz.prog 146 #[.pointer (some ⟨p.B, 0, none⟩)] W fun e w' => e = .returned (.int .i64 d) ∧ S y m d w' ∧ Ext w2 w') := fun w2 W hW2 x => by
  refine (day_value p y m d W (hS.at_ _ _ _ _ hW2)).mono ?_
  rintro e w' ⟨rfl, rfl⟩
  exact ⟨rfl, hW2, x⟩
 have HM : Hid (∀ W, S y m d W → Calls Tryz.prog 176 #[.pointer (some ⟨p.B, 0, none⟩)] W fun e w' => e = .returned (.int .i64 (Cal.mlen y m)) ∧ S y m d w') := fun W hW => by
  refine (day_max p y m d hs.y0 hs.y1 hs.m0 hs.m1 W (hS.at_ _ _ _ _ hW)).mono ?_
  rintro e w' ⟨rfl, x⟩
  exact ⟨rfl, hS.ext _ _ _ _ _ hW x⟩
 have HMX : Hid (∀ w2 W, S y m d W → Ext w2 W → Calls Tryz.prog 176 #[.pointer (some ⟨p.B, 0, none⟩)] W fun e w' => e = .returned (.int .i64 (Cal.mlen y m)) ∧ S y m d w' ∧ Ext w2 w') := fun w2 W hW x2 => by
  refine (day_max p y m d hs.y0 hs.y1 hs.m0 hs.m1 W (hS.at_ _ _ _ _ hW)).mono ?_
  rintro e w' ⟨rfl, x⟩
  exact ⟨rfl, hS.ext _ _ _ _ _ hW x, x2.trans x⟩
 have HDD : Hid (∀ W, S y m d W → Calls Tryz.prog 199 #[.pointer (some ⟨p.B, 0, none⟩)] W fun e w' => e = .returned (.agg #[.int .i64 (Cal.dayNum y m d)]) ∧ S y m d w') := fun W hW => by
  have := hs.d0
  have := hs.d1
  refine (day_date p y m d hs.y0 hs.y1 hs.m0 hs.m1 (by omega) (by omega) W (hS.at_ _ _ _ _ hW)).mono ?_
  rintro e w' ⟨rfl, x⟩
  exact ⟨rfl, hS.ext _ _ _ _ _ hW x⟩
 have HWK : Hid (∀ W, S y m d W → Calls Tryz.prog 200 #[.agg #[.int .i64 (Cal.dayNum y m d)]] W fun e w' => e = .returned (.bool (Csm.isWork y m d)) ∧ S y m d w') := fun W hW => by
  obtain ⟨y0, y1, m0, m1, d0, d1⟩ := hs
  refine (work_any (Cal.dayNum y m d) (dayIn_of (by omega) (by omega) (by omega) (by omega) (by omega) (by omega)) W).mono ?_
  rintro e w' ⟨rfl, x⟩
  exact ⟨rfl, hS.ext _ _ _ _ _ hW x⟩
 obtain ⟨r, hr⟩ : ∃ r, r = domB p.n y m d := ⟨_, rfl⟩
 rw [← hr]
 unfold domB at hr
 generalize Cal.mlen y m = L at *
 generalize Csm.isWork y m d = wk at *
 generalize Cal.dayNum y m d = k at *
 generalize p.n = n at *
 have hdb : -40 ≤ d ∧ d ≤ 80 := ⟨hs.d0, hs.d1⟩
 obtain ⟨d0, d1⟩ := hdb
 have H := Lib.hid h
 clear h hS hs
 rcases hn with rfl | rfl | ⟨n1, n2⟩ | rfl | rfl
 ·have HR : Hid (r = true) := by show _ = _; rw [hr]; rfl
  clear hr
  go_enter Tryz.func184, Tryz.ntmps184
  go_wp2_with fail
  go_ret
  exact ⟨ret_bool HR.out.symm, H.out⟩
 ·have HR : Hid (r = decide (d = L)) := by show _ = _; rw [hr]; rfl
  clear hr
  go_enter Tryz.func184, Tryz.ntmps184
  go_wp2_with fail
  go_at_call 146
  refine (HV.out _ H.out).mono ?_
  rintro e w1 ⟨rfl, h1⟩
  have H1 := Lib.hid h1
  clear h1
  go_wp2_with fail
  go_at_call 176
  refine (HM.out _ H1.out).mono ?_
  rintro e w2 ⟨rfl, h2⟩
  have H2 := Lib.hid h2
  clear h2
  go_wp2_with fail
  go_ret
  exact ⟨ret_bool (by rw [HR.out]; first | rfl | (rw [Bool.eq_iff_iff]; simp)), H2.out⟩
 ·have HR : Hid (r = decide (d = L + n)) := by show _ = _; rw [hr, if_neg (by omega), if_pos (by omega)]
  clear hr
  have hb0 : (n == 0) = false := by rw [beq_eq_false_iff_ne]; omega
  go_enter Tryz.func184, Tryz.ntmps184
  go_wp2_with fail
  obtain ⟨T, g, hT, h0, hS2, hI⟩ := cls_intro (S y m d) _ (HEX.out _ _ H.out (Ext.drew w))
  have q5 := fun t => HCC.out _ (hS2 t)
  have HS2 := Lib.hid hS2
  have HI := Lib.hid hI
  clear hS2 hI
  refine wp_region_cls g (by kernel_rfl) (by kernel_rfl) h0 ?_
  clear h0
  have e1 : IntKind.i64.wrap (L + n) = L + n := IntWalk.i64_in _ (by omega)
  repeat (go_big_quiet_step (first
   | (go_at_call 146; exact calls_cls HI.out (HV.out _ (HS2.out _)))
   | (go_at_call 176; exact calls_cls HI.out (HM.out _ (HS2.out _)))))
  refine wpQuiet_nil ?_
  rintro _ ⟨t, rfl⟩
  clear q5
  have h4 := Lib.hid (HS2.out t)
  generalize g t = w4 at h4 ⊢
  clear e1
  go_wp2_with fail
  go_ret
  exact ⟨ret_bool (by rw [HR.out]; first | rfl | (rw [Bool.eq_iff_iff]; simp)), h4.out⟩
 ·have HR : Hid (r = wk) := by show _ = _; rw [hr]; rfl
  have u1 : bits BinOp.and IntKind.i64 2 2 = 2 := by decide +kernel
  have u2 : bits BinOp.and IntKind.i64 2 1 = 0 := by decide +kernel
  clear hr
  go_enter Tryz.func184, Tryz.ntmps184
  go_wp2_with fail
  go_at_call 199
  refine (HDD.out _ H.out).mono ?_
  rintro e w1 ⟨rfl, h1⟩
  have h2 := HEX.out _ _ h1 (Ext.alloc w1 (.cells #[.int .i64 k] 170))
  have c5 := HCC.out _ h2
  have H2 := Lib.hid h2
  clear h1 h2 h5
  go_wp2_with fail
  go_at_call 200
  refine (HWK.out _ H2.out).mono ?_
  rintro e w3 ⟨rfl, h3⟩
  have H3 := Lib.hid h3
  clear h3 c5
  go_wp2_with fail
  go_ret
  exact ⟨ret_bool HR.out.symm, H3.out⟩
 ·have HR : Hid (r = (decide (d = L) && wk)) := by show _ = _; rw [hr]; rfl
  have u1 : bits BinOp.and IntKind.i64 3 2 = 2 := by decide +kernel
  have u2 : bits BinOp.and IntKind.i64 3 1 = 1 := by decide +kernel
  clear hr
  rcases hdl : (d == L)
  all_goals (
   have HDL : Hid (decide (d = L) = (d == L)) := rfl
   have HDL2 := Lib.hid (HDL.out.trans hdl)
   go_enter Tryz.func184, Tryz.ntmps184
   go_wp2_with fail
   go_at_call 199
   refine (HDD.out _ H.out).mono ?_
   rintro e w1 ⟨rfl, h1⟩
   have h2 := HEX.out _ _ h1 (Ext.alloc w1 (.cells #[.int .i64 k] 170))
   have c5 := HCC.out _ h2
   have hc : (w1.alloc (.cells #[.int .i64 k] 170)).cell? ⟨w1.heap.size, 0, none⟩ = some (.int .i64 k) := by simp
   have HC := Lib.hid hc
   have H2 := Lib.hid h2
   clear h1 h2 h5 hc
   go_wp2_with fail
   go_at_call 146
   refine (HVX.out (w1.alloc (.cells #[.int .i64 k] 170)) _ H2.out (Ext.refl _)).mono ?_
   rintro e w3 ⟨rfl, h3, x3⟩
   have H3 := Lib.hid h3
   have X3 := Lib.hid x3
   clear h3 x3 c5
   go_wp2_with fail
   go_at_call 176
   refine (HMX.out (w1.alloc (.cells #[.int .i64 k] 170)) _ H3.out X3.out).mono ?_
   rintro e w4 ⟨rfl, h4, x4⟩
   have c8 := x4.cell HC.out
   have H4 := Lib.hid h4
   clear h4 x4
   first
    | (go_wp2_with fail
       go_at_call 200
       refine (HWK.out _ H4.out).mono ?_
       rintro e w5 ⟨rfl, h5⟩
       have H5 := Lib.hid h5
       clear h5
       go_wp2_with fail
       go_ret
       exact ⟨ret_bool (by rw [HR.out, HDL2.out]; rfl), H5.out⟩)
    | (go_wp2_with fail
       go_ret
       exact ⟨ret_bool (by rw [HR.out, HDL2.out]; rfl), H4.out⟩))
set_option maxHeartbeats 3200000 in
set_option maxRecDepth 1000000 in
theorem day_valid {p : DayIs} {aM : Option Addr} {cM : Nat} {M : List Int} {aY : Option Addr} {cY : Nat} {Y : List Int} {S : Int → Int → Int → World → Prop} (hS : DayS p aM cM M aY cY Y S) {c : Csm.Cfg} (lk : Link p M Y c) (hg : Csm.Good c) (y m d : Int) (hs : Sane y m d) (w : World) (h : S y m d w) :
 Calls Tryz.prog 164 #[.pointer (some ⟨p.B, 0, none⟩)] w fun e w' => e = .returned (.bool (Csm.dvalid c y m d)) ∧ S y m d w' := by
 have H182 : Hid (∀ W, S y m d W → Calls Tryz.prog 182 #[.pointer (some ⟨p.B, 0, none⟩)] W fun e w' => e = .returned (.bool (Csm.cvalid 1 31 p.D d && decide (d ≤ Cal.mlen y m))) ∧ S y m d w') := fun W hW => day_inMonth hS y m d hs W hW
 have HK : Hid (∀ W, S y m d W → Calls Tryz.prog 177 #[.pointer (some ⟨p.B, 0, none⟩)] W fun e w' => e = .returned (.bool (decide (0 < p.W.length))) ∧ W = w') := fun W hW => day_kind p y m d W (hS.at_ _ _ _ _ hW)
 obtain ⟨r, hr⟩ : ∃ r, r = Csm.dvalid c y m d := ⟨_, rfl⟩
 rw [← hr]
 have hD : p.D = if c.W.isEmpty then c.D else [] := lk.D
 by_cases hW : c.W = []
 ·have hl : p.W.length = 0 := by rw [lk.W, hW]; rfl
  rw [hl] at HK
  have hk := hg.kD hW
  have hn : p.n = 0 ∨ p.n = 1 ∨ (-27 ≤ p.n ∧ p.n ≤ -1) ∨ p.n = 2 ∨ p.n = 3 := by
   rw [lk.n]
   rcases hk with h | ⟨h, _⟩ | ⟨h1, h2, _⟩ | ⟨h, _⟩ | ⟨h, _⟩
   ·exact .inl h
   ·exact .inr (.inl h)
   ·exact .inr (.inr (.inl ⟨h1, h2⟩))
   ·exact .inr (.inr (.inr (.inl h)))
   ·exact .inr (.inr (.inr (.inr h)))
  have H184 : Hid (∀ W, S y m d W → Calls Tryz.prog 184 #[.pointer (some ⟨p.B, 0, none⟩)] W fun e w' => e = .returned (.bool (domB p.n y m d)) ∧ S y m d w') := fun W hW2 => valid_dom hS hn y m d hs W hW2
  have HR : Hid (r = ((Csm.cvalid 1 31 p.D d && decide (d ≤ Cal.mlen y m)) && domB p.n y m d)) := by
   show _ = _
   rw [hr, hD, lk.n]
   unfold Csm.dvalid domB
   rw [hW]
  generalize (Csm.cvalid 1 31 p.D d && decide (d ≤ Cal.mlen y m)) = b at *
  generalize domB p.n y m d = b2 at *
  have H := Lib.hid h
  clear h hS lk hg hs hr hk hn hl hD
  go_enter Tryz.func164, Tryz.ntmps164
  go_wp2_with fail
  go_at_call 182
  refine (H182.out _ H.out).mono ?_
  rintro e w1 ⟨rfl, h1⟩
  have H1 := Lib.hid h1
  clear h1
  rcases b
  ·go_wp2_with fail
   go_ret
   exact ⟨ret_bool (by rw [HR.out]; rfl), H1.out⟩
  ·go_wp2_with fail
   go_at_call 177
   refine (HK.out _ H1.out).mono ?_
   rintro e w2 ⟨rfl, rfl⟩
   go_wp2_with fail
   go_at_call 184
   refine (H184.out _ H1.out).mono ?_
   rintro e w3 ⟨rfl, h3⟩
   have H3 := Lib.hid h3
   clear h3
   go_wp2_with fail
   go_ret
   exact ⟨ret_bool (by rw [HR.out]; rfl), H3.out⟩
 ·have hl : decide (0 < p.W.length) = true := by rw [lk.W]; simpa using List.length_pos_iff.mpr hW
  rw [hl] at HK
  obtain ⟨wd, t, hwt⟩ := List.exists_cons_of_ne_nil hW
  have hwdb : 0 ≤ wd ∧ wd ≤ 6 := ⟨hg.hW.low wd (by rw [hwt]; simp), hg.hW.high wd (by rw [hwt]; simp)⟩
  have hn : p.n = 0 ∨ NthIs p.n := by
   rw [lk.n]
   rcases (hg.kW hW).2 with ⟨h0, _⟩ | ⟨_, h0⟩
   ·exact .inl h0
   ·exact .inr ⟨h0⟩
  have H183 : Hid (∀ W, S y m d W → Calls Tryz.prog 183 #[.pointer (some ⟨p.B, 0, none⟩)] W fun e w' => e = .returned (.bool (if p.n = 0 then p.W.contains (Csm.wday y m d) else decide (d = Csm.dowN y m wd p.n))) ∧ S y m d w') := fun W hW2 =>
   valid_week hS wd (by rw [lk.W, hwt]; rfl) hwdb.1 hwdb.2 hn y m d hs W hW2
  have HR : Hid (r = ((Csm.cvalid 1 31 p.D d && decide (d ≤ Cal.mlen y m)) && (if p.n = 0 then p.W.contains (Csm.wday y m d) else decide (d = Csm.dowN y m wd p.n)))) := by
   show _ = _
   rw [hr, hD, lk.n, lk.W]
   unfold Csm.dvalid Csm.tgt
   rw [hwt]
  generalize (Csm.cvalid 1 31 p.D d && decide (d ≤ Cal.mlen y m)) = b at *
  generalize (if p.n = 0 then p.W.contains (Csm.wday y m d) else decide (d = Csm.dowN y m wd p.n)) = b2 at *
  have H := Lib.hid h
  clear h hS lk hg hs hr hn hl hD hwt hwdb hW
  go_enter Tryz.func164, Tryz.ntmps164
  go_wp2_with fail
  go_at_call 182
  refine (H182.out _ H.out).mono ?_
  rintro e w1 ⟨rfl, h1⟩
  have H1 := Lib.hid h1
  clear h1
  rcases b
  ·go_wp2_with fail
   go_ret
   exact ⟨ret_bool (by rw [HR.out]; rfl), H1.out⟩
  ·go_wp2_with fail
   go_at_call 177
   refine (HK.out _ H1.out).mono ?_
   rintro e w2 ⟨rfl, rfl⟩
   go_wp2_with fail
   go_at_call 183
   refine (H183.out _ H1.out).mono ?_
   rintro e w3 ⟨rfl, h3⟩
   have H3 := Lib.hid h3
   clear h3
   go_wp2_with fail
   go_ret
   exact ⟨ret_bool (by rw [HR.out]; rfl), H3.out⟩
end Go.Proofs.YtmaffdhcmdhjfaaGreatDoor
namespace Go.Proofs.YtmaffdhcmdhjfaaGreatDoor
open Go.RowKit Go.Lib
def dfind (c : Csm.Cfg) (y m d : Int) : (Int × Int × Int) × Int :=
 if Csm.dvalid c y m d then ((y, m, d), 0) else ((Csm.dayNext c y m d).1, if (Csm.dayNext c y m d).2 then 2 else 1)
set_option maxHeartbeats 1600000 in
set_option maxRecDepth 1000000 in
theorem day_find {p : DayIs} {aM : Option Addr} {cM : Nat} {M : List Int} {aY : Option Addr} {cY : Nat} {Y : List Int} {S : Int → Int → Int → World → Prop} (hS : DayS p aM cM M aY cY Y S) {c : Csm.Cfg} (lk : Link p M Y c) (hg : Csm.Good c) (y m d : Int) (hs : Sane y m d) (y9 : y ≤ 999980) (hv : c.W ≠ [] → c.n = 0 → 1 ≤ d ∧ d ≤ Cal.mlen y m) (w : World) (h : S y m d w) :
 Calls Tryz.prog 185 #[.pointer (some ⟨p.B, 0, none⟩)] w fun e w' => e = .returned (.int .i64 (dfind c y m d).2) ∧ S (dfind c y m d).1.1 (dfind c y m d).1.2.1 (dfind c y m d).1.2.2 w' := by
 have HV : Hid (∀ W, S y m d W → Calls Tryz.prog 164 #[.pointer (some ⟨p.B, 0, none⟩)] W fun e w' => e = .returned (.bool (Csm.dvalid c y m d)) ∧ S y m d w') := fun W hW => day_valid hS lk hg y m d hs W hW
 have HN : Hid (∀ W, S y m d W → Calls Tryz.prog 163 #[.pointer (some ⟨p.B, 0, none⟩)] W fun e w' => e = .returned (.bool (Csm.dayNext c y m d).2) ∧ S (Csm.dayNext c y m d).1.1 (Csm.dayNext c y m d).1.2.1 (Csm.dayNext c y m d).1.2.2 w') := fun W hW => day_next hS lk hg y m d hs y9 hv W hW
 obtain ⟨r, hr⟩ : ∃ r, r = dfind c y m d := ⟨_, rfl⟩
 rw [← hr]
 have HR : Hid (r = if Csm.dvalid c y m d then ((y, m, d), 0) else ((Csm.dayNext c y m d).1, if (Csm.dayNext c y m d).2 then 2 else 1)) := hr
 generalize Csm.dvalid c y m d = b at *
 generalize Csm.dayNext c y m d = q at *
 obtain ⟨q1, q2⟩ := q
 simp only at HN HR
 have H := Lib.hid h
 clear hS h hr lk hg hs hv
 go_enter Tryz.func185, Tryz.ntmps185
 go_wp2_with fail
 go_at_call 164
 refine (HV.out _ H.out).mono ?_
 rintro e w1 ⟨rfl, h1⟩
 have H1 := Lib.hid h1
 clear h1
 rcases b
 ·go_wp2_with fail
  go_at_call 163
  refine (HN.out _ H1.out).mono ?_
  rintro e w2 ⟨rfl, h2⟩
  have H2 := Lib.hid h2
  clear h2
  rcases q2
  ·have HB : Hid (r = (q1, 1)) := by show _ = _; rw [HR.out]; rfl
   go_wp2_with fail
   go_ret
   exact ⟨by rw [HB.out]; rfl, by rw [HB.out]; exact H2.out⟩
  ·have HB : Hid (r = (q1, 2)) := by show _ = _; rw [HR.out]; rfl
   go_wp2_with fail
   go_ret
   exact ⟨by rw [HB.out]; rfl, by rw [HB.out]; exact H2.out⟩
 ·have HB : Hid (r = ((y, m, d), 0)) := by show _ = _; rw [HR.out]; rfl
  go_wp2_with fail
  go_ret
  exact ⟨by rw [HB.out]; rfl, by rw [HB.out]; exact H1.out⟩
theorem dfind_reset (c : Csm.Cfg) (y m : Int) : (dfind c y m 1).1 = Csm.dayReset c y m := by
 unfold dfind Csm.dayReset
 split <;> rfl
set_option maxHeartbeats 1600000 in
set_option maxRecDepth 1000000 in
theorem day_reset {p : DayIs} {aM : Option Addr} {cM : Nat} {M : List Int} {aY : Option Addr} {cY : Nat} {Y : List Int} {S : Int → Int → Int → World → Prop} (hS : DayS p aM cM M aY cY Y S) {c : Csm.Cfg} (lk : Link p M Y c) (hg : Csm.Good c) (y m d : Int) (y0 : 1900 ≤ y) (y9 : y ≤ 999980) (m0 : 1 ≤ m) (m1 : m ≤ 12) (w : World) (h : S y m d w) :
 Calls Tryz.prog 165 #[.pointer (some ⟨p.B, 0, none⟩)] w fun e w' => e = .returned (.tuple #[]) ∧ S (Csm.dayReset c y m).1 (Csm.dayReset c y m).2.1 (Csm.dayReset c y m).2.2 w' := by
 have hb := Cal.mlen_bd y m
 have HF : Hid (∀ W, S y m 1 W → Calls Tryz.prog 185 #[.pointer (some ⟨p.B, 0, none⟩)] W fun e w' => (∃ o, e = .returned (.int .i64 o)) ∧ S (Csm.dayReset c y m).1 (Csm.dayReset c y m).2.1 (Csm.dayReset c y m).2.2 w') := fun W hW => by
  have := day_find hS lk hg y m 1 ⟨y0, by omega, m0, m1, by omega, by omega⟩ y9 (fun _ _ => ⟨by omega, by omega⟩) W hW
  rw [dfind_reset] at this
  refine this.mono ?_
  rintro e w' ⟨rfl, h2⟩
  exact ⟨⟨_, rfl⟩, h2⟩
 have hat := (hS.nD y m).at_ _ _ h
 have c0 := hat.v
 have c1 := hat.lo
 have cf := hat.fz
 have H1 := Lib.hid ((hS.nD y m).set d 1 w h)
 generalize Csm.dayReset c y m = r at *
 clear hat h hS lk hg
 go_enter Tryz.func165, Tryz.ntmps165
 go_wp2_with fail
 go_at_call 185
 refine (HF.out _ H1.out).mono ?_
 rintro e w1 ⟨⟨o, rfl⟩, h1⟩
 have H2 := Lib.hid h1
 clear h1
 go_wp2_with fail
 go_end0
 exact ⟨rfl, H2.out⟩
end Go.Proofs.YtmaffdhcmdhjfaaGreatDoor
