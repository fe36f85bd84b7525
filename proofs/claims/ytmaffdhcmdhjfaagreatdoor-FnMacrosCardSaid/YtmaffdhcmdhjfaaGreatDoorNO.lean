/- The day's node of package csm: getDayInMonth, nextWeekdayN. Package csm's closestWeekday. Package csm's closestWeekday. The day's node of package csm: nextLastDayOfMonth. The day's node of package csm: nextWeekdayOfMonth. -/
import Derived.Test.YtmaffdhcmdhjfaaGreatDoorNN
set_option linter.unusedSimpArgs false
set_option linter.unusedVariables false
namespace Go.Proofs.YtmaffdhcmdhjfaaGreatDoor
open Go.RowKit Go.Lib
structure NthIs (n : Int) : Prop where
 is : n = -1 ∨ (1 ≤ n ∧ n ≤ 4)
structure DatesAt (W : World) (g : Nat) (n : Int) (len : Nat) (t : Int) : Prop where
 l0 : 4 ≤ len
 l1 : len ≤ 5
 c : W.cell? ⟨g, if 0 < n then (n - 1).toNat else len - 1, none⟩ = some (.int .i64 t)
theorem dates_at {W : World} {base : Nat} {v : Value} {y m wd n : Int} (hn : NthIs n) (h0 : 0 ≤ wd) (h6 : wd ≤ 6) (h : Ints W base v (datesL y m wd (Cal.mlen y m).toNat)) :
 ∃ g cap len, v = .slice (some ⟨g, 0, none⟩) len cap ∧ DatesAt W g n len (Csm.dowN y m wd n) := by
 obtain ⟨l4, l5, hi, hl⟩ := dates_month h0 h6 (y := y) (m := m)
 obtain ⟨g, cap, rfl, _, _, hc⟩ := h.form (by omega)
 refine ⟨g, cap, _, rfl, l4, l5, ?_⟩
 rcases hn.is with rfl | ⟨a, b⟩
 ·rw [if_neg (by omega)]
  exact hc _ _ hl
 ·rw [if_pos (by omega)]
  have := hi (n - 1).toNat (by omega)
  have e : (((n - 1).toNat : Nat) : Int) + 1 = n := by omega
  rw [e] at this
  exact hc _ _ this
set_option maxHeartbeats 1600000 in
set_option maxRecDepth 1000000 in
theorem day_pick0 (p : DayIs) (hn : NthIs p.n) (d t : Int) (g cap len : Nat) (w : World) (h5 : w.cell? ⟨p.B, 5, none⟩ = some (.int .i64 p.n)) (hd : w.cell? ⟨p.B, 0, none⟩ = some (.int .i64 d)) (hD : DatesAt w g p.n len t) (hlt : d < t) :
 Calls Tryz.prog 192 #[.pointer (some ⟨p.B, 0, none⟩), .slice (some ⟨g, 0, none⟩) len cap] w fun e w' => e = .returned (.int .i64 t) ∧ w = w' := by
 obtain ⟨l0, l1, hc⟩ := hD
 obtain ⟨hn⟩ := hn
 generalize p.n = n at *
 rcases hn with rfl | ⟨a, b⟩
 ·rw [if_neg (by omega)] at hc
  go_enter Tryz.func192, Tryz.ntmps192
  go_wp2_with fail
  go_ret
  exact ⟨rfl, rfl⟩
 ·rw [if_pos (by omega)] at hc
  obtain ⟨k, hk⟩ : ∃ k : Nat, n = (k : Int) + 1 := ⟨(n - 1).toNat, by omega⟩
  subst hk
  have e : ((k : Int) + 1 - 1).toNat = k := by omega
  rw [e] at hc
  go_enter Tryz.func192, Tryz.ntmps192
  go_wp2_with fail
  go_ret
  exact ⟨rfl, rfl⟩
def nthNext (M Y : List Int) (wd n : Int) (y m d : Int) : Int × Int × Int :=
 if Csm.dowN y m wd n ≤ d then ((advM M Y y m).1, (advM M Y y m).2, Csm.dowN (advM M Y y m).1 (advM M Y y m).2 wd n) else (y, m, Csm.dowN y m wd n)
set_option maxHeartbeats 3200000 in
set_option maxRecDepth 1000000 in
theorem day_pick {p : DayIs} {aM : Option Addr} {cM : Nat} {M : List Int} {aY : Option Addr} {cY : Nat} {Y : List Int} {S : Int → Int → Int → World → Prop} (hS : DayS p aM cM M aY cY Y S) (hLs : ListsOk M Y) (hn : NthIs p.n) (wd : Int) (hW : p.W.head? = some wd) (w0 : 0 ≤ wd) (w6 : wd ≤ 6) (y m d : Int) (hs : Sane y m d) (y9 : y ≤ 999990)
 (g cap len : Nat) (w : World) (h : S y m d w) (hD : DatesAt w g p.n len (Csm.dowN y m wd p.n)) :
 Calls Tryz.prog 192 #[.pointer (some ⟨p.B, 0, none⟩), .slice (some ⟨g, 0, none⟩) len cap] w fun e w' =>
  e = .returned (.int .i64 (nthNext M Y wd p.n y m d).2.2) ∧ S (nthNext M Y wd p.n y m d).1 (nthNext M Y wd p.n y m d).2.1 (if Csm.dowN y m wd p.n ≤ d then 0 else d) w' := by
 by_cases hlt : d < Csm.dowN y m wd p.n
 ·have e : nthNext M Y wd p.n y m d = (y, m, Csm.dowN y m wd p.n) := by unfold nthNext; rw [if_neg (by omega)]
  rw [e, if_neg (by omega)]
  have hat := hS.at_ _ _ _ _ h
  refine (day_pick0 p hn d _ g cap len w hat.n hat.d hD hlt).mono ?_
  rintro e w' ⟨rfl, rfl⟩
  exact ⟨rfl, h⟩
 ·obtain ⟨t, ht⟩ : ∃ t, t = Csm.dowN y m wd p.n := ⟨_, rfl⟩
  obtain ⟨y', hy'⟩ : ∃ y', y' = (advM M Y y m).1 := ⟨_, rfl⟩
  obtain ⟨m', hm'⟩ : ∃ m', m' = (advM M Y y m).2 := ⟨_, rfl⟩
  have hbd := advM_bd hLs hs.y0 y9 hs.m0 hs.m1
  rw [← hy', ← hm'] at hbd
  have e : nthNext M Y wd p.n y m d = (y', m', Csm.dowN y' m' wd p.n) := by unfold nthNext; rw [if_pos (by omega), hy', hm']
  rw [e, if_pos (by omega)]
  have hse : Sane y' m' 0 := ⟨hbd.1, by omega, hbd.2.2.1, hbd.2.2.2, by omega, by omega⟩
  have HADV : Hid (∀ W, S y m 0 W → Calls Tryz.prog 205 #[.pointer (some ⟨p.B, 0, none⟩)] W fun e w' => e = .returned (.tuple #[]) ∧ S y' m' 0 w') := fun W hW => by
   rw [hy', hm']
   exact day_adv hS y m 0 hs.y0 y9 hs.m0 hs.m1 W hW
  have hlw := hS.lW
  have HDT : Hid (∀ W, S y' m' 0 W → Calls Tryz.prog 193 #[.pointer (some ⟨p.B, 0, none⟩)] W fun e w' => ∃ g cap len, e = .returned (.slice (some ⟨g, 0, none⟩) len cap) ∧ DatesAt w' g p.n len (Csm.dowN y' m' wd p.n) ∧ S y' m' 0 w') := fun W hW2 => by
   refine (day_dates p y' m' 0 wd hse hW hlw W (hS.at_ _ _ _ _ hW2)).mono ?_
   rintro e w' ⟨v, rfl, hI, x⟩
   obtain ⟨g, cap, len, rfl, hD⟩ := dates_at hn w0 w6 hI
   exact ⟨g, cap, len, rfl, hD, hS.ext _ _ _ _ _ hW2 x⟩
  have hdb : 1 ≤ Csm.dowN y' m' wd p.n := (Csm.dowN_bd (y := y') (m := m') (w := wd) hn.is).1
  have HPK : Hid (∀ g cap len W, S y' m' 0 W → DatesAt W g p.n len (Csm.dowN y' m' wd p.n) → Calls Tryz.prog 192 #[.pointer (some ⟨p.B, 0, none⟩), .slice (some ⟨g, 0, none⟩) len cap] W fun e w' => e = .returned (.int .i64 (Csm.dowN y' m' wd p.n)) ∧ S y' m' 0 w') := fun g cap len W hW2 hD2 => by
   have hat := hS.at_ _ _ _ _ hW2
   refine (day_pick0 p hn 0 _ g cap len W hat.n hat.d hD2 (by omega)).mono ?_
   rintro e w' ⟨rfl, rfl⟩
   exact ⟨rfl, hW2⟩
  rw [← ht] at hD hlt
  generalize Csm.dowN y' m' wd p.n = t' at *
  have hat := hS.at_ _ _ _ _ h
  have h5 := hat.n
  have hd := hat.d
  have hf := hat.fz
  have H0 := Lib.hid ((hS.nD y m).set d 0 w h)
  obtain ⟨l0, l1, hc⟩ := hD
  obtain ⟨hn⟩ := hn
  clear h hat hS hs hse hbd e hy' hm' ht hLs hW w0 w6
  generalize p.n = n at *
  rcases hn with rfl | ⟨a, b⟩
  ·rw [if_neg (by omega)] at hc
   go_enter Tryz.func192, Tryz.ntmps192
   go_wp2_with fail
   go_at_call 205
   refine (HADV.out _ H0.out).mono ?_
   rintro e w1 ⟨rfl, h1⟩
   have H1 := Lib.hid h1
   clear h1
   go_wp2_with fail
   go_at_call 193
   refine (HDT.out _ H1.out).mono ?_
   rintro e w2 ⟨g2, cap2, len2, rfl, hD2, h2⟩
   have H2 := Lib.hid h2
   have HD2 := Lib.hid hD2
   clear h2 hD2
   go_wp2_with fail
   go_at_call 192
   refine (HPK.out _ _ _ _ H2.out HD2.out).mono ?_
   rintro e w3 ⟨rfl, h3⟩
   have H3 := Lib.hid h3
   clear h3
   go_wp2_with fail
   go_ret
   exact ⟨rfl, H3.out⟩
  ·rw [if_pos (by omega)] at hc
   obtain ⟨k, hk⟩ : ∃ k : Nat, n = (k : Int) + 1 := ⟨(n - 1).toNat, by omega⟩
   subst hk
   have e : ((k : Int) + 1 - 1).toNat = k := by omega
   rw [e] at hc
   go_enter Tryz.func192, Tryz.ntmps192
   go_wp2_with fail
   go_at_call 205
   refine (HADV.out _ H0.out).mono ?_
   rintro e w1 ⟨rfl, h1⟩
   have H1 := Lib.hid h1
   clear h1
   go_wp2_with fail
   go_at_call 193
   refine (HDT.out _ H1.out).mono ?_
   rintro e w2 ⟨g2, cap2, len2, rfl, hD2, h2⟩
   have H2 := Lib.hid h2
   have HD2 := Lib.hid hD2
   clear h2 hD2
   go_wp2_with fail
   go_at_call 192
   refine (HPK.out _ _ _ _ H2.out HD2.out).mono ?_
   rintro e w3 ⟨rfl, h3⟩
   have H3 := Lib.hid h3
   clear h3
   go_wp2_with fail
   go_ret
   exact ⟨rfl, H3.out⟩
set_option maxHeartbeats 3200000 in
set_option maxRecDepth 1000000 in
theorem day_nextNth {p : DayIs} {aM : Option Addr} {cM : Nat} {M : List Int} {aY : Option Addr} {cY : Nat} {Y : List Int} {S : Int → Int → Int → World → Prop} (hS : DayS p aM cM M aY cY Y S) (hLs : ListsOk M Y) (hn : NthIs p.n) (wd : Int) (hW : p.W.head? = some wd) (w0 : 0 ≤ wd) (w6 : wd ≤ 6) (y m d : Int) (hs : Sane y m d) (y9 : y ≤ 999990) (w : World) (h : S y m d w) :
 Calls Tryz.prog 179 #[.pointer (some ⟨p.B, 0, none⟩)] w fun e w' =>
  e = .returned (.bool false) ∧ S (nthNext M Y wd p.n y m d).1 (nthNext M Y wd p.n y m d).2.1 (nthNext M Y wd p.n y m d).2.2 w' := by
 have hlw := hS.lW
 have HDT : Hid (∀ W, S y m d W → Calls Tryz.prog 193 #[.pointer (some ⟨p.B, 0, none⟩)] W fun e w' => ∃ g cap len, e = .returned (.slice (some ⟨g, 0, none⟩) len cap) ∧ DatesAt w' g p.n len (Csm.dowN y m wd p.n) ∧ S y m d w') := fun W hW2 => by
  refine (day_dates p y m d wd hs hW hlw W (hS.at_ _ _ _ _ hW2)).mono ?_
  rintro e w' ⟨v, rfl, hI, x⟩
  obtain ⟨g, cap, len, rfl, hD⟩ := dates_at hn w0 w6 hI
  exact ⟨g, cap, len, rfl, hD, hS.ext _ _ _ _ _ hW2 x⟩
 have HPK : Hid (∀ g cap len W, S y m d W → DatesAt W g p.n len (Csm.dowN y m wd p.n) → Calls Tryz.prog 192 #[.pointer (some ⟨p.B, 0, none⟩), .slice (some ⟨g, 0, none⟩) len cap] W fun e w' =>
  e = .returned (.int .i64 (nthNext M Y wd p.n y m d).2.2) ∧ ∃ dd, S (nthNext M Y wd p.n y m d).1 (nthNext M Y wd p.n y m d).2.1 dd w') := fun g cap len W hW2 hD2 => by
  refine (day_pick hS hLs hn wd hW w0 w6 y m d hs y9 g cap len W hW2 hD2).mono ?_
  rintro e w' ⟨rfl, h2⟩
  exact ⟨rfl, _, h2⟩
 generalize nthNext M Y wd p.n y m d = r at *
 obtain ⟨r1, r2, r3⟩ := r
 simp only at HPK ⊢
 have HS := Lib.hid hS
 have H := Lib.hid h
 clear h hS hs hLs hn hW w0 w6 hlw
 go_enter Tryz.func179, Tryz.ntmps179
 go_wp2_with fail
 go_at_call 193
 refine (HDT.out _ H.out).mono ?_
 rintro e w2 ⟨g2, cap2, len2, rfl, hD2, h2⟩
 have H2 := Lib.hid h2
 have HD2 := Lib.hid hD2
 clear h2 hD2
 go_wp2_with fail
 go_at_call 192
 refine (HPK.out _ _ _ _ H2.out HD2.out).mono ?_
 rintro e w3 ⟨rfl, dd, h3⟩
 have hd := (HS.out.at_ _ _ _ _ h3).d
 have hf := (HS.out.at_ _ _ _ _ h3).fz
 have H4 := Lib.hid ((HS.out.nD r1 r2).set dd r3 _ h3)
 clear h3
 go_wp2_with fail
 go_ret
 exact ⟨rfl, H4.out⟩
end Go.Proofs.YtmaffdhcmdhjfaaGreatDoor
namespace Go.Proofs.YtmaffdhcmdhjfaaGreatDoor
open Go.RowKit Go.Lib
theorem civil_near {y m j : Int} (m0 : 1 ≤ m) (m1 : m ≤ 12) (j0 : -1 ≤ j) (j1 : j ≤ Cal.mlen y m + 2) :
 ((Cal.civil (Cal.dayNum y m j)).2.1 == m) = (decide (1 ≤ j) && decide (j ≤ Cal.mlen y m)) ∧ (1 ≤ j → j ≤ Cal.mlen y m → Cal.civil (Cal.dayNum y m j) = (y, m, j)) := by
 have hb := Cal.mlen_bd y m
 refine ⟨?_, fun h1 h2 => Cal.civil_dayNum ⟨m0, m1, h1, h2⟩⟩
 by_cases h1 : 1 ≤ j
 ·by_cases h2 : j ≤ Cal.mlen y m
  ·rw [Cal.civil_dayNum ⟨m0, m1, h1, h2⟩]
   simp [h1, h2]
  ·obtain ⟨k, hk⟩ : ∃ k, k = j - Cal.mlen y m := ⟨_, rfl⟩
   have e0 : j = Cal.mlen y m + k := by omega
   have e1 := Cal.dayNum_add y m (Cal.mlen y m) k
   have e2 := month_end (y := y) m0 m1
   have e3 := Cal.dayNum_add y (m + 1) 0 k
   rw [Int.zero_add] at e3
   have e4 : Cal.dayNum y m j = Cal.dayNum y (m + 1) k := by rw [e0]; omega
   rw [e4]
   have hr : (decide (1 ≤ j) && decide (j ≤ Cal.mlen y m)) = false := by simp; omega
   rw [hr]
   by_cases h12 : m = 12
   ·subst h12
    have e5 : Cal.dayNum y (12 + 1) k = Cal.dayNum (y + 1) 1 k := Cal.dayNum_13 y k
    have hb2 := Cal.mlen_bd (y + 1) 1
    rw [e5, Cal.civil_dayNum ⟨by omega, by omega, by omega, by omega⟩]
    rfl
   ·have hb2 := Cal.mlen_bd y (m + 1)
    rw [Cal.civil_dayNum ⟨by omega, by omega, by omega, by omega⟩]
    rw [beq_eq_false_iff_ne]
    simp only
    omega
 ·have hr : (decide (1 ≤ j) && decide (j ≤ Cal.mlen y m)) = false := by simp; omega
  rw [hr]
  by_cases h12 : m = 1
  ·subst h12
   have e5 : Cal.dayNum (y - 1) 13 j = Cal.dayNum (y - 1 + 1) 1 j := Cal.dayNum_13 (y - 1) j
   have e6 := month_end (y := y - 1) (m := 12) (by omega) (by omega)
   have e7 := Cal.dayNum_add (y - 1) 13 0 j
   have e8 := Cal.dayNum_add (y - 1) 12 (Cal.mlen (y - 1) 12) j
   rw [Int.zero_add] at e7
   have e9 : (12 : Int) + 1 = 13 := by omega
   rw [e9] at e6
   have e10 : y - 1 + 1 = y := by omega
   rw [e10] at e5
   have hb2 := Cal.mlen_bd (y - 1) 12
   have e11 : Cal.dayNum y 1 j = Cal.dayNum (y - 1) 12 (Cal.mlen (y - 1) 12 + j) := by omega
   rw [e11, Cal.civil_dayNum ⟨by omega, by omega, by omega, by omega⟩]
   rfl
  ·have e6 := month_end (y := y) (m := m - 1) (by omega) (by omega)
   have e10 : m - 1 + 1 = m := by omega
   rw [e10] at e6
   have e7 := Cal.dayNum_add y m 0 j
   have e8 := Cal.dayNum_add y (m - 1) (Cal.mlen y (m - 1)) j
   rw [Int.zero_add] at e7
   have hb2 := Cal.mlen_bd y (m - 1)
   have e11 : Cal.dayNum y m j = Cal.dayNum y (m - 1) (Cal.mlen y (m - 1) + j) := by omega
   rw [e11, Cal.civil_dayNum ⟨by omega, by omega, by omega, by omega⟩]
   rw [beq_eq_false_iff_ne]
   simp only
   omega
def nearB (y m j : Int) : Bool := (decide (1 ≤ j) && decide (j ≤ Cal.mlen y m)) && Csm.isWork y m j
theorem closest_chain {y m d : Int} (d0 : 1 ≤ d) (d1 : d ≤ Cal.mlen y m) (hn : Csm.isWork y m d = false) :
 Csm.closestW y m d = (if nearB y m (d - 1) = true then d - 1 else if nearB y m (d + 1) = true then d + 1 else if nearB y m (d - 2) = true then d - 2 else d + 2) ∧
 (nearB y m (d - 1) = false → nearB y m (d + 1) = false → nearB y m (d - 2) = true ∨ nearB y m (d + 2) = true) := by
 have hb := Cal.mlen_bd y m
 have hw := Csm.wday_bd y m d
 have e1 := Csm.wday_from y m d (d - 1)
 have e2 := Csm.wday_from y m d (d + 1)
 have e3 := Csm.wday_from y m d (d - 2)
 have e4 := Csm.wday_from y m d (d + 2)
 have i0 := Csm.isWork_iff y m d
 have i1 := Csm.isWork_iff y m (d - 1)
 have i2 := Csm.isWork_iff y m (d + 1)
 have i3 := Csm.isWork_iff y m (d - 2)
 have i4 := Csm.isWork_iff y m (d + 2)
 have hd : Csm.wday y m d = 6 ∨ Csm.wday y m d = 0 := by
  rcases Classical.em (Csm.wday y m d = 6) with h | h
  ·exact .inl h
  ·rcases Classical.em (Csm.wday y m d = 0) with h' | h'
   ·exact .inr h'
   ·rw [i0.mpr ⟨h, h'⟩] at hn; cases hn
 have nb : ∀ j, nearB y m j = true ↔ (1 ≤ j ∧ j ≤ Cal.mlen y m) ∧ Csm.isWork y m j = true := fun j => by unfold nearB; simp
 have key : nearB y m (d - 1) = false → nearB y m (d + 1) = false → nearB y m (d - 2) = true ∨ nearB y m (d + 2) = true := by
  intro h1 h2
  have h1' : ¬ ((1 ≤ d - 1 ∧ d - 1 ≤ Cal.mlen y m) ∧ Csm.isWork y m (d - 1) = true) := fun h => by rw [(nb _).mpr h] at h1; cases h1
  have h2' : ¬ ((1 ≤ d + 1 ∧ d + 1 ≤ Cal.mlen y m) ∧ Csm.isWork y m (d + 1) = true) := fun h => by rw [(nb _).mpr h] at h2; cases h2
  rcases hd with h | h
  ·have hw1 : Csm.isWork y m (d - 1) = true := i1.mpr (by omega)
   have hd1 : d = 1 := by
    rcases Classical.em (1 ≤ d - 1) with hh | hh
    ·exact absurd ⟨⟨hh, by omega⟩, hw1⟩ h1'
    ·omega
   right
   exact (nb _).mpr ⟨by omega, i4.mpr (by omega)⟩
  ·have hw1 : Csm.isWork y m (d + 1) = true := i2.mpr (by omega)
   have hd1 : d = Cal.mlen y m := by
    rcases Classical.em (d + 1 ≤ Cal.mlen y m) with hh | hh
    ·exact absurd ⟨⟨by omega, hh⟩, hw1⟩ h2'
    ·omega
   left
   exact (nb _).mpr ⟨by omega, i3.mpr (by omega)⟩
 refine ⟨?_, key⟩
 unfold Csm.closestW
 rw [hn, if_neg (by decide)]
 by_cases h1 : nearB y m (d - 1) = true
 ·have := (nb _).mp h1
  rw [if_pos h1, if_pos ⟨this.1.1, this.2⟩]
 ·have h1' := fun h => h1 ((nb (d - 1)).mpr h)
  rw [if_neg h1, if_neg (fun h => h1' ⟨⟨h.1, by omega⟩, h.2⟩)]
  by_cases h2 : nearB y m (d + 1) = true
  ·have := (nb _).mp h2
   rw [if_pos h2, if_pos ⟨this.1.2, this.2⟩]
  ·have h2' := fun h => h2 ((nb (d + 1)).mpr h)
   rw [if_neg h2, if_neg (fun h => h2' ⟨⟨by omega, h.1⟩, h.2⟩)]
   by_cases h3 : nearB y m (d - 2) = true
   ·have := (nb _).mp h3
    rw [if_pos h3, if_pos ⟨this.1.1, this.2⟩]
   ·have h3' := fun h => h3 ((nb (d - 2)).mpr h)
    rw [if_neg h3, if_neg (fun h => h3' ⟨⟨h.1, by omega⟩, h.2⟩)]
    have h4 : nearB y m (d + 2) = true := by
     rcases key (by simpa using h1) (by simpa using h2) with h | h
     ·exact absurd h h3
     ·exact h
    have := (nb _).mp h4
    rw [if_pos ⟨this.1.2, this.2⟩]
end Go.Proofs.YtmaffdhcmdhjfaaGreatDoor
namespace Go.Proofs.YtmaffdhcmdhjfaaGreatDoor
open Go.RowKit Go.Lib
set_option maxHeartbeats 6400000 in
set_option maxRecDepth 1000000 in
theorem closest_any (y m d : Int) (y0 : 1900 ≤ y) (y1 : y ≤ 1000000) (m0 : 1 ≤ m) (m1 : m ≤ 12) (d0 : 1 ≤ d) (d1 : d ≤ Cal.mlen y m) (w : World) :
 Calls Tryz.prog 211 #[.agg #[.int .i64 (Cal.dayNum y m d)]] w fun e w' => e = .returned (.int .i64 (Csm.closestW y m d)) ∧ Ext w w' := by
 have hb := Cal.mlen_bd y m
 have hcd : Cal.civil (Cal.dayNum y m d) = (y, m, d) := Cal.civil_dayNum ⟨m0, m1, d0, d1⟩
 have HADD : Hid (∀ (k : Int) W, -2 ≤ k → k ≤ 2 → Calls Tryz.prog 204 #[.agg #[.int .i64 (Cal.dayNum y m d)], .int .i64 0, .int .i64 0, .int .i64 k] W fun e w' => e = .returned (.agg #[.int .i64 (Cal.dayNum y m (d + k))]) ∧ Ext W w') := fun k W k0 k1 => by
  have := add_date (Cal.dayNum y m d) 0 0 k (dayIn_of (by omega) (by omega) (by omega) (by omega) (by omega) (by omega)) y m d hcd (by omega) (by omega) (by omega) (by omega) (by omega) (by omega) W
  rw [Int.add_zero, Int.add_zero] at this
  exact this
 obtain ⟨MM, hMM⟩ : ∃ MM : Int → Int, ∀ j, MM j = (Cal.civil (Cal.dayNum y m j)).2.1 := ⟨fun j => (Cal.civil (Cal.dayNum y m j)).2.1, fun _ => rfl⟩
 have HMON : Hid (∀ (w2 : World) (j : Int) W, d - 2 ≤ j → j ≤ d + 2 → Ext w2 W → Calls Tryz.prog 206 #[.agg #[.int .i64 (Cal.dayNum y m j)]] W fun e w' => e = .returned (.int .i64 (MM j)) ∧ Ext w2 w') := fun w2 j W j0 j1 x => by
  rw [hMM]
  refine (month_any (Cal.dayNum y m j) (dayIn_of (by omega) (by omega) (by omega) (by omega) (by omega) (by omega)) W).mono ?_
  rintro e w' ⟨rfl, x2⟩
  exact ⟨rfl, x.trans x2⟩
 have HWRK : Hid (∀ (w2 : World) (j : Int) W, d - 2 ≤ j → j ≤ d + 2 → Ext w2 W → Calls Tryz.prog 200 #[.agg #[.int .i64 (Cal.dayNum y m j)]] W fun e w' => e = .returned (.bool (Csm.isWork y m j)) ∧ Ext w2 w') := fun w2 j W j0 j1 x => by
  refine (work_any (Cal.dayNum y m j) (dayIn_of (by omega) (by omega) (by omega) (by omega) (by omega) (by omega)) W).mono ?_
  rintro e w' ⟨rfl, x2⟩
  exact ⟨rfl, x.trans x2⟩
 have HDAY : Hid (∀ (j : Int) W, 1 ≤ j → j ≤ Cal.mlen y m → Calls Tryz.prog 189 #[.agg #[.int .i64 (Cal.dayNum y m j)]] W fun e w' => e = .returned (.int .i64 j) ∧ Ext W w') := fun j W j0 j1 => by
  have := day_any (Cal.dayNum y m j) (dayIn_of (by omega) (by omega) (by omega) (by omega) (by omega) (by omega)) W
  rw [Cal.civil_dayNum ⟨m0, m1, j0, j1⟩] at this
  exact this
 have HIN0 : Hid (∀ j, -1 ≤ j → j ≤ Cal.mlen y m + 2 → (MM j == m) = (decide (1 ≤ j) && decide (j ≤ Cal.mlen y m))) := fun j j0 j1 => by rw [hMM]; exact (civil_near m0 m1 j0 j1).1
 have HMD : Hid (MM d = m) := by show _ = _; rw [hMM, hcd]
 clear hMM
 have HCH : Hid (Csm.isWork y m d = false → Csm.closestW y m d = (if nearB y m (d - 1) = true then d - 1 else if nearB y m (d + 1) = true then d + 1 else if nearB y m (d - 2) = true then d - 2 else d + 2) ∧
  (nearB y m (d - 1) = false → nearB y m (d + 1) = false → nearB y m (d - 2) = true ∨ nearB y m (d + 2) = true)) := closest_chain d0 d1
 have HCW : Hid (Csm.isWork y m d = true → Csm.closestW y m d = d) := by
  intro h; unfold Csm.closestW; rw [if_pos h]
 have HNB : Hid (∀ j, nearB y m j = ((decide (1 ≤ j) && decide (j ≤ Cal.mlen y m)) && Csm.isWork y m j)) := fun j => rfl
 generalize nearB y m = NB at *
 generalize Csm.closestW y m d = R at *
 generalize Csm.isWork y m = WK at *
 generalize Cal.mlen y m = L at *
 generalize Cal.dayNum y m = D at *
 have HC1 : Hid ((w.alloc (.cells #[.int .i64 (D d)] 170)).cell? ⟨w.heap.size, 0, none⟩ = some (.int .i64 (D d))) := by show _ = _; simp
 have X0 : Hid (Ext w (w.alloc (.cells #[.int .i64 (D d)] 170))) := Ext.alloc _ _
 obtain ⟨w0, hw0⟩ : ∃ w0, w0 = w.alloc (.cells #[.int .i64 (D d)] 170) := ⟨_, rfl⟩
 rw [← hw0] at HC1 X0
 have HW0 := Lib.hid hw0
 clear hcd hw0
 rcases hwk : WK d
 ·obtain ⟨HR, HK⟩ := HCH.out hwk
  have HRR := Lib.hid HR
  have HKK := Lib.hid HK
  have HWKD := Lib.hid hwk
  clear HR HK HCW HCH hwk
  go_enter Tryz.func211, Tryz.ntmps211
  go_wp2_with fail
  go_at_call 200
  rw [← HW0.out]
  refine (HWRK.out w0 d _ (by omega) (by omega) (Ext.refl _)).mono ?_
  rintro e w1 ⟨rfl, x1⟩
  rw [HWKD.out]
  have X := Lib.hid x1
  clear x1
  go_wp2_with fail
  obtain ⟨wr, rfl⟩ : ∃ wr : World, wr = w1 := ⟨_, rfl⟩
  go_loopw [3, 4, 5] (fun v3 _ _ wr => ∃ i : Nat, 1 ≤ i ∧ i ≤ 2 ∧ v3 = .int .i64 i ∧ Hid (i = 2 → NB (d - 1) = false ∧ NB (d + 1) = false) ∧ Hid (Ext w0 wr)) (fun v3 _ _ _ => 3 - (RowKit.intOf v3).toNat)
  case atStart => exact ⟨1, by omega, by omega, rfl, fun h => absurd h (by decide), X.out⟩
  case round =>
   clear X
   obtain ⟨i, i0, i1, rfl, HI2, X⟩ := hrel
   have hc1 := X.out.cell HC1.out
   rcases (show i = 1 ∨ i = 2 by omega) with rfl | rfl
   ·go_wp2_with fail
    go_at_call 204
    refine (HADD.out (-1) _ (by omega) (by omega)).mono ?_
    rintro e wa ⟨rfl, xa⟩
    obtain ⟨j1, hj1⟩ : ∃ j1, j1 = d + (-1) := ⟨_, rfl⟩
    rw [← hj1]
    have bj10 : d - 2 ≤ j1 := by omega
    have bj11 : j1 ≤ d + 2 := by omega
    have HNBJ : Hid (j1 = d - 1) := by show _ = _; omega
    clear hj1
    obtain ⟨wb, hwb⟩ : ∃ wb, wb = wa.alloc (.cells #[.int .i64 (D j1)] 170) := ⟨_, rfl⟩
    have XB : Hid (Ext w0 wb) := by show Ext _ _; rw [hwb]; exact (X.out.trans xa).trans (Ext.alloc _ _)
    have HCB : Hid (wb.cell? ⟨wa.heap.size, 0, none⟩ = some (.int .i64 (D j1))) := by show _ = _; rw [hwb]; simp
    have HC1B : Hid (wb.cell? ⟨w.heap.size, 0, none⟩ = some (.int .i64 (D d))) := XB.out.cell HC1.out
    have HBB := Lib.hid hwb
    clear xa hwb
    go_wp2_with fail
    rw [← HBB.out]
    obtain ⟨T, g, hT, h0, hS2, hI⟩ := cls_intro (fun W => Ext wb W) _ (Ext.drew wb)
    have q1 := fun t => (hS2 t).cell HC1B.out
    have q4 := fun t => (hS2 t).cell HCB.out
    have HS2 := Lib.hid hS2
    have HI := Lib.hid hI
    clear hS2 hI
    have HIN := HIN0.out j1 (by omega) (by omega)
    have HNBN := HNB.out j1
    rcases hin : (decide (1 ≤ j1) && decide (j1 ≤ L))
    ·have hmm := HIN.trans hin
     have HF : Hid (NB (d - 1) = false) := by show _ = _; rw [← HNBJ.out, HNBN, hin]; rfl
     have hmd := HMD.out
     clear hin HIN HNBN
     refine wp_region_cls g (by kernel_rfl) (by kernel_rfl) h0 ?_
     clear h0
     repeat (go_big_quiet_step (first
      | (go_at_call_of 206 (Value.agg #[.int .i64 (D j1)]); exact calls_cls HI.out (HMON.out wb j1 _ (by omega) (by omega) (HS2.out _)))
      | (go_at_call_of 206 (Value.agg #[.int .i64 (D d)]); exact calls_cls HI.out (HMON.out wb d _ (by omega) (by omega) (HS2.out _)))))
     refine wpQuiet_nil ?_
     rintro _ ⟨t, rfl⟩
     clear q1 q4 hmm hmd
     have XGj1 : Hid (Ext w0 (g t)) := XB.out.trans (HS2.out t)
     have q4 := (HS2.out t).cell HCB.out
     have p1 := (HS2.out t).cell HC1B.out
     generalize g t = wg at *
     clear q4
     have HF1 := HF
     clear HF
     go_wp2_with fail
     go_at_call 204
     refine (HADD.out (1) _ (by omega) (by omega)).mono ?_
     rintro e wa ⟨rfl, xa⟩
     obtain ⟨j2, hj2⟩ : ∃ j2, j2 = d + (1) := ⟨_, rfl⟩
     rw [← hj2]
     have bj20 : d - 2 ≤ j2 := by omega
     have bj21 : j2 ≤ d + 2 := by omega
     have HNBJ : Hid (j2 = d + 1) := by show _ = _; omega
     clear hj2
     obtain ⟨wb, hwb⟩ : ∃ wb, wb = wa.alloc (.cells #[.int .i64 (D j2)] 170) := ⟨_, rfl⟩
     have XB : Hid (Ext w0 wb) := by show Ext _ _; rw [hwb]; exact (XGj1.out.trans xa).trans (Ext.alloc _ _)
     have HCB : Hid (wb.cell? ⟨wa.heap.size, 0, none⟩ = some (.int .i64 (D j2))) := by show _ = _; rw [hwb]; simp
     have HC1B : Hid (wb.cell? ⟨w.heap.size, 0, none⟩ = some (.int .i64 (D d))) := XB.out.cell HC1.out
     have HBB := Lib.hid hwb
     clear xa hwb
     go_wp2_with fail
     rw [← HBB.out]
     obtain ⟨T, g, hT, h0, hS2, hI⟩ := cls_intro (fun W => Ext wb W) _ (Ext.drew wb)
     have q1 := fun t => (hS2 t).cell HC1B.out
     have q4 := fun t => (hS2 t).cell HCB.out
     have HS2 := Lib.hid hS2
     have HI := Lib.hid hI
     clear hS2 hI
     have HIN := HIN0.out j2 (by omega) (by omega)
     have HNBN := HNB.out j2
     rcases hin : (decide (1 ≤ j2) && decide (j2 ≤ L))
     ·have hmm := HIN.trans hin
      have HF : Hid (NB (d + 1) = false) := by show _ = _; rw [← HNBJ.out, HNBN, hin]; rfl
      have hmd := HMD.out
      clear hin HIN HNBN
      refine wp_region_cls g (by kernel_rfl) (by kernel_rfl) h0 ?_
      clear h0
      repeat (go_big_quiet_step (first
       | (go_at_call_of 206 (Value.agg #[.int .i64 (D j2)]); exact calls_cls HI.out (HMON.out wb j2 _ (by omega) (by omega) (HS2.out _)))
       | (go_at_call_of 206 (Value.agg #[.int .i64 (D d)]); exact calls_cls HI.out (HMON.out wb d _ (by omega) (by omega) (HS2.out _)))))
      refine wpQuiet_nil ?_
      rintro _ ⟨t, rfl⟩
      clear q1 q4 hmm hmd
      have XGj2 : Hid (Ext w0 (g t)) := XB.out.trans (HS2.out t)
      have q4 := (HS2.out t).cell HCB.out
      have p1 := (HS2.out t).cell HC1B.out
      generalize g t = wg at *
      clear q4
      have HG2 : Hid (NB (d - 1) = false ∧ NB (d + 1) = false) := ⟨HF1.out, HF.out⟩
      go_wp2_with fail
      go_roundw
      case rel => exact ⟨2, by omega, by omega, by go_num, fun _ => HG2.out, XGj2.out⟩
      case measure => simp [RowKit.intOf]
     ·have hmm := HIN.trans hin
      have hin2 : 1 ≤ j2 ∧ j2 ≤ L := by simpa using hin
      rcases hwk : WK j2
      ·have HF : Hid (NB (d + 1) = false) := by show _ = _; rw [← HNBJ.out, HNBN, hin, hwk]; rfl
       have HWF := Lib.hid hwk
       have hmd := HMD.out
       clear hin HIN HNBN hwk hin2
       refine wp_region_cls g (by kernel_rfl) (by kernel_rfl) h0 ?_
       clear h0
       repeat (go_big_quiet_step (first
        | (go_at_call_of 206 (Value.agg #[.int .i64 (D j2)]); exact calls_cls HI.out (HMON.out wb j2 _ (by omega) (by omega) (HS2.out _)))
        | (go_at_call_of 206 (Value.agg #[.int .i64 (D d)]); exact calls_cls HI.out (HMON.out wb d _ (by omega) (by omega) (HS2.out _)))
        | (go_at_call 200; exact calls_cls HI.out (HWRK.out wb j2 _ (by omega) (by omega) (HS2.out _)))))
       refine wpQuiet_nil ?_
       rintro _ ⟨t, rfl⟩
       clear q1 q4 hmm hmd
       rw [HWF.out]
       have XGj2 : Hid (Ext w0 (g t)) := XB.out.trans (HS2.out t)
       have q4 := (HS2.out t).cell HCB.out
       have p1 := (HS2.out t).cell HC1B.out
       generalize g t = wg at *
       clear q4
       have HG2 : Hid (NB (d - 1) = false ∧ NB (d + 1) = false) := ⟨HF1.out, HF.out⟩
       go_wp2_with fail
       go_roundw
       case rel => exact ⟨2, by omega, by omega, by go_num, fun _ => HG2.out, XGj2.out⟩
       case measure => simp [RowKit.intOf]
      ·have HT : Hid (NB (d + 1) = true) := by show _ = _; rw [← HNBJ.out, HNBN, hin, hwk]; rfl
       have HWF := Lib.hid hwk
       have hmd := HMD.out
       clear hin HIN HNBN hwk
       obtain ⟨in1, in2⟩ := hin2
       refine wp_region_cls g (by kernel_rfl) (by kernel_rfl) h0 ?_
       clear h0
       repeat (go_big_quiet_step (first
        | (go_at_call_of 206 (Value.agg #[.int .i64 (D j2)]); exact calls_cls HI.out (HMON.out wb j2 _ (by omega) (by omega) (HS2.out _)))
        | (go_at_call_of 206 (Value.agg #[.int .i64 (D d)]); exact calls_cls HI.out (HMON.out wb d _ (by omega) (by omega) (HS2.out _)))
        | (go_at_call 200; exact calls_cls HI.out (HWRK.out wb j2 _ (by omega) (by omega) (HS2.out _)))))
       refine wpQuiet_nil ?_
       rintro _ ⟨t, rfl⟩
       clear q1 q4 hmm hmd
       rw [HWF.out]
       have XGj2 : Hid (Ext w0 (g t)) := XB.out.trans (HS2.out t)
       have q4 := (HS2.out t).cell HCB.out
       have p1 := (HS2.out t).cell HC1B.out
       generalize g t = wg at *
       go_wp2_with fail
       go_at_call 189
       refine (HDAY.out j2 _ in1 in2).mono ?_
       rintro e wh ⟨rfl, xh⟩
       go_wp2_with fail
       go_ret
       exact ⟨by rw [← show R = j2 from (by rw [HRR.out, HF1.out, if_neg (by decide), HT.out, if_pos rfl]; exact HNBJ.out.symm)]; rfl, (X0.out.trans XGj2.out).trans xh⟩
    ·have hmm := HIN.trans hin
     have hin2 : 1 ≤ j1 ∧ j1 ≤ L := by simpa using hin
     rcases hwk : WK j1
     ·have HF : Hid (NB (d - 1) = false) := by show _ = _; rw [← HNBJ.out, HNBN, hin, hwk]; rfl
      have HWF := Lib.hid hwk
      have hmd := HMD.out
      clear hin HIN HNBN hwk hin2
      refine wp_region_cls g (by kernel_rfl) (by kernel_rfl) h0 ?_
      clear h0
      repeat (go_big_quiet_step (first
       | (go_at_call_of 206 (Value.agg #[.int .i64 (D j1)]); exact calls_cls HI.out (HMON.out wb j1 _ (by omega) (by omega) (HS2.out _)))
       | (go_at_call_of 206 (Value.agg #[.int .i64 (D d)]); exact calls_cls HI.out (HMON.out wb d _ (by omega) (by omega) (HS2.out _)))
       | (go_at_call 200; exact calls_cls HI.out (HWRK.out wb j1 _ (by omega) (by omega) (HS2.out _)))))
      refine wpQuiet_nil ?_
      rintro _ ⟨t, rfl⟩
      clear q1 q4 hmm hmd
      rw [HWF.out]
      have XGj1 : Hid (Ext w0 (g t)) := XB.out.trans (HS2.out t)
      have q4 := (HS2.out t).cell HCB.out
      have p1 := (HS2.out t).cell HC1B.out
      generalize g t = wg at *
      clear q4
      have HF1 := HF
      clear HF
      go_wp2_with fail
      go_at_call 204
      refine (HADD.out (1) _ (by omega) (by omega)).mono ?_
      rintro e wa ⟨rfl, xa⟩
      obtain ⟨j2, hj2⟩ : ∃ j2, j2 = d + (1) := ⟨_, rfl⟩
      rw [← hj2]
      have bj20 : d - 2 ≤ j2 := by omega
      have bj21 : j2 ≤ d + 2 := by omega
      have HNBJ : Hid (j2 = d + 1) := by show _ = _; omega
      clear hj2
      obtain ⟨wb, hwb⟩ : ∃ wb, wb = wa.alloc (.cells #[.int .i64 (D j2)] 170) := ⟨_, rfl⟩
      have XB : Hid (Ext w0 wb) := by show Ext _ _; rw [hwb]; exact (XGj1.out.trans xa).trans (Ext.alloc _ _)
      have HCB : Hid (wb.cell? ⟨wa.heap.size, 0, none⟩ = some (.int .i64 (D j2))) := by show _ = _; rw [hwb]; simp
      have HC1B : Hid (wb.cell? ⟨w.heap.size, 0, none⟩ = some (.int .i64 (D d))) := XB.out.cell HC1.out
      have HBB := Lib.hid hwb
      clear xa hwb
      go_wp2_with fail
      rw [← HBB.out]
      obtain ⟨T, g, hT, h0, hS2, hI⟩ := cls_intro (fun W => Ext wb W) _ (Ext.drew wb)
      have q1 := fun t => (hS2 t).cell HC1B.out
      have q4 := fun t => (hS2 t).cell HCB.out
      have HS2 := Lib.hid hS2
      have HI := Lib.hid hI
      clear hS2 hI
      have HIN := HIN0.out j2 (by omega) (by omega)
      have HNBN := HNB.out j2
      rcases hin : (decide (1 ≤ j2) && decide (j2 ≤ L))
      ·have hmm := HIN.trans hin
       have HF : Hid (NB (d + 1) = false) := by show _ = _; rw [← HNBJ.out, HNBN, hin]; rfl
       have hmd := HMD.out
       clear hin HIN HNBN
       refine wp_region_cls g (by kernel_rfl) (by kernel_rfl) h0 ?_
       clear h0
       repeat (go_big_quiet_step (first
        | (go_at_call_of 206 (Value.agg #[.int .i64 (D j2)]); exact calls_cls HI.out (HMON.out wb j2 _ (by omega) (by omega) (HS2.out _)))
        | (go_at_call_of 206 (Value.agg #[.int .i64 (D d)]); exact calls_cls HI.out (HMON.out wb d _ (by omega) (by omega) (HS2.out _)))))
       refine wpQuiet_nil ?_
       rintro _ ⟨t, rfl⟩
       clear q1 q4 hmm hmd
       have XGj2 : Hid (Ext w0 (g t)) := XB.out.trans (HS2.out t)
       have q4 := (HS2.out t).cell HCB.out
       have p1 := (HS2.out t).cell HC1B.out
       generalize g t = wg at *
       clear q4
       have HG2 : Hid (NB (d - 1) = false ∧ NB (d + 1) = false) := ⟨HF1.out, HF.out⟩
       go_wp2_with fail
       go_roundw
       case rel => exact ⟨2, by omega, by omega, by go_num, fun _ => HG2.out, XGj2.out⟩
       case measure => simp [RowKit.intOf]
      ·have hmm := HIN.trans hin
       have hin2 : 1 ≤ j2 ∧ j2 ≤ L := by simpa using hin
       rcases hwk : WK j2
       ·have HF : Hid (NB (d + 1) = false) := by show _ = _; rw [← HNBJ.out, HNBN, hin, hwk]; rfl
        have HWF := Lib.hid hwk
        have hmd := HMD.out
        clear hin HIN HNBN hwk hin2
        refine wp_region_cls g (by kernel_rfl) (by kernel_rfl) h0 ?_
        clear h0
        repeat (go_big_quiet_step (first
         | (go_at_call_of 206 (Value.agg #[.int .i64 (D j2)]); exact calls_cls HI.out (HMON.out wb j2 _ (by omega) (by omega) (HS2.out _)))
         | (go_at_call_of 206 (Value.agg #[.int .i64 (D d)]); exact calls_cls HI.out (HMON.out wb d _ (by omega) (by omega) (HS2.out _)))
         | (go_at_call 200; exact calls_cls HI.out (HWRK.out wb j2 _ (by omega) (by omega) (HS2.out _)))))
        refine wpQuiet_nil ?_
        rintro _ ⟨t, rfl⟩
        clear q1 q4 hmm hmd
        rw [HWF.out]
        have XGj2 : Hid (Ext w0 (g t)) := XB.out.trans (HS2.out t)
        have q4 := (HS2.out t).cell HCB.out
        have p1 := (HS2.out t).cell HC1B.out
        generalize g t = wg at *
        clear q4
        have HG2 : Hid (NB (d - 1) = false ∧ NB (d + 1) = false) := ⟨HF1.out, HF.out⟩
        go_wp2_with fail
        go_roundw
        case rel => exact ⟨2, by omega, by omega, by go_num, fun _ => HG2.out, XGj2.out⟩
        case measure => simp [RowKit.intOf]
       ·have HT : Hid (NB (d + 1) = true) := by show _ = _; rw [← HNBJ.out, HNBN, hin, hwk]; rfl
        have HWF := Lib.hid hwk
        have hmd := HMD.out
        clear hin HIN HNBN hwk
        obtain ⟨in1, in2⟩ := hin2
        refine wp_region_cls g (by kernel_rfl) (by kernel_rfl) h0 ?_
        clear h0
        repeat (go_big_quiet_step (first
         | (go_at_call_of 206 (Value.agg #[.int .i64 (D j2)]); exact calls_cls HI.out (HMON.out wb j2 _ (by omega) (by omega) (HS2.out _)))
         | (go_at_call_of 206 (Value.agg #[.int .i64 (D d)]); exact calls_cls HI.out (HMON.out wb d _ (by omega) (by omega) (HS2.out _)))
         | (go_at_call 200; exact calls_cls HI.out (HWRK.out wb j2 _ (by omega) (by omega) (HS2.out _)))))
        refine wpQuiet_nil ?_
        rintro _ ⟨t, rfl⟩
        clear q1 q4 hmm hmd
        rw [HWF.out]
        have XGj2 : Hid (Ext w0 (g t)) := XB.out.trans (HS2.out t)
        have q4 := (HS2.out t).cell HCB.out
        have p1 := (HS2.out t).cell HC1B.out
        generalize g t = wg at *
        go_wp2_with fail
        go_at_call 189
        refine (HDAY.out j2 _ in1 in2).mono ?_
        rintro e wh ⟨rfl, xh⟩
        go_wp2_with fail
        go_ret
        exact ⟨by rw [← show R = j2 from (by rw [HRR.out, HF1.out, if_neg (by decide), HT.out, if_pos rfl]; exact HNBJ.out.symm)]; rfl, (X0.out.trans XGj2.out).trans xh⟩
     ·have HT : Hid (NB (d - 1) = true) := by show _ = _; rw [← HNBJ.out, HNBN, hin, hwk]; rfl
      have HWF := Lib.hid hwk
      have hmd := HMD.out
      clear hin HIN HNBN hwk
      obtain ⟨in1, in2⟩ := hin2
      refine wp_region_cls g (by kernel_rfl) (by kernel_rfl) h0 ?_
      clear h0
      repeat (go_big_quiet_step (first
       | (go_at_call_of 206 (Value.agg #[.int .i64 (D j1)]); exact calls_cls HI.out (HMON.out wb j1 _ (by omega) (by omega) (HS2.out _)))
       | (go_at_call_of 206 (Value.agg #[.int .i64 (D d)]); exact calls_cls HI.out (HMON.out wb d _ (by omega) (by omega) (HS2.out _)))
       | (go_at_call 200; exact calls_cls HI.out (HWRK.out wb j1 _ (by omega) (by omega) (HS2.out _)))))
      refine wpQuiet_nil ?_
      rintro _ ⟨t, rfl⟩
      clear q1 q4 hmm hmd
      rw [HWF.out]
      have XGj1 : Hid (Ext w0 (g t)) := XB.out.trans (HS2.out t)
      have q4 := (HS2.out t).cell HCB.out
      have p1 := (HS2.out t).cell HC1B.out
      generalize g t = wg at *
      go_wp2_with fail
      go_at_call 189
      refine (HDAY.out j1 _ in1 in2).mono ?_
      rintro e wh ⟨rfl, xh⟩
      go_wp2_with fail
      go_ret
      exact ⟨by rw [← show R = j1 from (by rw [HRR.out, HT.out, if_pos rfl]; exact HNBJ.out.symm)]; rfl, (X0.out.trans XGj1.out).trans xh⟩
   ·have HN12 : Hid (NB (d - 1) = false ∧ NB (d + 1) = false) := HI2.out (by first | rfl | trivial)
    go_wp2_with fail
    go_at_call 204
    refine (HADD.out (-2) _ (by omega) (by omega)).mono ?_
    rintro e wa ⟨rfl, xa⟩
    obtain ⟨j1, hj1⟩ : ∃ j1, j1 = d + (-2) := ⟨_, rfl⟩
    rw [← hj1]
    have bj10 : d - 2 ≤ j1 := by omega
    have bj11 : j1 ≤ d + 2 := by omega
    have HNBJ : Hid (j1 = d - 2) := by show _ = _; omega
    clear hj1
    obtain ⟨wb, hwb⟩ : ∃ wb, wb = wa.alloc (.cells #[.int .i64 (D j1)] 170) := ⟨_, rfl⟩
    have XB : Hid (Ext w0 wb) := by show Ext _ _; rw [hwb]; exact (X.out.trans xa).trans (Ext.alloc _ _)
    have HCB : Hid (wb.cell? ⟨wa.heap.size, 0, none⟩ = some (.int .i64 (D j1))) := by show _ = _; rw [hwb]; simp
    have HC1B : Hid (wb.cell? ⟨w.heap.size, 0, none⟩ = some (.int .i64 (D d))) := XB.out.cell HC1.out
    have HBB := Lib.hid hwb
    clear xa hwb
    go_wp2_with fail
    rw [← HBB.out]
    obtain ⟨T, g, hT, h0, hS2, hI⟩ := cls_intro (fun W => Ext wb W) _ (Ext.drew wb)
    have q1 := fun t => (hS2 t).cell HC1B.out
    have q4 := fun t => (hS2 t).cell HCB.out
    have HS2 := Lib.hid hS2
    have HI := Lib.hid hI
    clear hS2 hI
    have HIN := HIN0.out j1 (by omega) (by omega)
    have HNBN := HNB.out j1
    rcases hin : (decide (1 ≤ j1) && decide (j1 ≤ L))
    ·have hmm := HIN.trans hin
     have HF : Hid (NB (d - 2) = false) := by show _ = _; rw [← HNBJ.out, HNBN, hin]; rfl
     have hmd := HMD.out
     clear hin HIN HNBN
     refine wp_region_cls g (by kernel_rfl) (by kernel_rfl) h0 ?_
     clear h0
     repeat (go_big_quiet_step (first
      | (go_at_call_of 206 (Value.agg #[.int .i64 (D j1)]); exact calls_cls HI.out (HMON.out wb j1 _ (by omega) (by omega) (HS2.out _)))
      | (go_at_call_of 206 (Value.agg #[.int .i64 (D d)]); exact calls_cls HI.out (HMON.out wb d _ (by omega) (by omega) (HS2.out _)))))
     refine wpQuiet_nil ?_
     rintro _ ⟨t, rfl⟩
     clear q1 q4 hmm hmd
     have XGj1 : Hid (Ext w0 (g t)) := XB.out.trans (HS2.out t)
     have q4 := (HS2.out t).cell HCB.out
     have p1 := (HS2.out t).cell HC1B.out
     generalize g t = wg at *
     clear q4
     have HF1 := HF
     clear HF
     go_wp2_with fail
     go_at_call 204
     refine (HADD.out (2) _ (by omega) (by omega)).mono ?_
     rintro e wa ⟨rfl, xa⟩
     obtain ⟨j2, hj2⟩ : ∃ j2, j2 = d + (2) := ⟨_, rfl⟩
     rw [← hj2]
     have bj20 : d - 2 ≤ j2 := by omega
     have bj21 : j2 ≤ d + 2 := by omega
     have HNBJ : Hid (j2 = d + 2) := by show _ = _; omega
     clear hj2
     obtain ⟨wb, hwb⟩ : ∃ wb, wb = wa.alloc (.cells #[.int .i64 (D j2)] 170) := ⟨_, rfl⟩
     have XB : Hid (Ext w0 wb) := by show Ext _ _; rw [hwb]; exact (XGj1.out.trans xa).trans (Ext.alloc _ _)
     have HCB : Hid (wb.cell? ⟨wa.heap.size, 0, none⟩ = some (.int .i64 (D j2))) := by show _ = _; rw [hwb]; simp
     have HC1B : Hid (wb.cell? ⟨w.heap.size, 0, none⟩ = some (.int .i64 (D d))) := XB.out.cell HC1.out
     have HBB := Lib.hid hwb
     clear xa hwb
     go_wp2_with fail
     rw [← HBB.out]
     obtain ⟨T, g, hT, h0, hS2, hI⟩ := cls_intro (fun W => Ext wb W) _ (Ext.drew wb)
     have q1 := fun t => (hS2 t).cell HC1B.out
     have q4 := fun t => (hS2 t).cell HCB.out
     have HS2 := Lib.hid hS2
     have HI := Lib.hid hI
     clear hS2 hI
     have HIN := HIN0.out j2 (by omega) (by omega)
     have HNBN := HNB.out j2
     rcases hin : (decide (1 ≤ j2) && decide (j2 ≤ L))
     ·have hmm := HIN.trans hin
      have HF : Hid (NB (d + 2) = false) := by show _ = _; rw [← HNBJ.out, HNBN, hin]; rfl
      have hmd := HMD.out
      clear hin HIN HNBN
      refine wp_region_cls g (by kernel_rfl) (by kernel_rfl) h0 ?_
      clear h0
      repeat (go_big_quiet_step (first
       | (go_at_call_of 206 (Value.agg #[.int .i64 (D j2)]); exact calls_cls HI.out (HMON.out wb j2 _ (by omega) (by omega) (HS2.out _)))
       | (go_at_call_of 206 (Value.agg #[.int .i64 (D d)]); exact calls_cls HI.out (HMON.out wb d _ (by omega) (by omega) (HS2.out _)))))
      refine wpQuiet_nil ?_
      rintro _ ⟨t, rfl⟩
      clear q1 q4 hmm hmd
      have XGj2 : Hid (Ext w0 (g t)) := XB.out.trans (HS2.out t)
      have q4 := (HS2.out t).cell HCB.out
      have p1 := (HS2.out t).cell HC1B.out
      generalize g t = wg at *
      clear q4
      exfalso
      rcases HKK.out HN12.out.1 HN12.out.2 with h | h
      ·rw [HF1.out] at h; cases h
      ·rw [HF.out] at h; cases h
     ·have hmm := HIN.trans hin
      have hin2 : 1 ≤ j2 ∧ j2 ≤ L := by simpa using hin
      rcases hwk : WK j2
      ·have HF : Hid (NB (d + 2) = false) := by show _ = _; rw [← HNBJ.out, HNBN, hin, hwk]; rfl
       have HWF := Lib.hid hwk
       have hmd := HMD.out
       clear hin HIN HNBN hwk hin2
       refine wp_region_cls g (by kernel_rfl) (by kernel_rfl) h0 ?_
       clear h0
       repeat (go_big_quiet_step (first
        | (go_at_call_of 206 (Value.agg #[.int .i64 (D j2)]); exact calls_cls HI.out (HMON.out wb j2 _ (by omega) (by omega) (HS2.out _)))
        | (go_at_call_of 206 (Value.agg #[.int .i64 (D d)]); exact calls_cls HI.out (HMON.out wb d _ (by omega) (by omega) (HS2.out _)))
        | (go_at_call 200; exact calls_cls HI.out (HWRK.out wb j2 _ (by omega) (by omega) (HS2.out _)))))
       refine wpQuiet_nil ?_
       rintro _ ⟨t, rfl⟩
       clear q1 q4 hmm hmd
       rw [HWF.out]
       have XGj2 : Hid (Ext w0 (g t)) := XB.out.trans (HS2.out t)
       have q4 := (HS2.out t).cell HCB.out
       have p1 := (HS2.out t).cell HC1B.out
       generalize g t = wg at *
       clear q4
       exfalso
       rcases HKK.out HN12.out.1 HN12.out.2 with h | h
       ·rw [HF1.out] at h; cases h
       ·rw [HF.out] at h; cases h
      ·have HT : Hid (NB (d + 2) = true) := by show _ = _; rw [← HNBJ.out, HNBN, hin, hwk]; rfl
       have HWF := Lib.hid hwk
       have hmd := HMD.out
       clear hin HIN HNBN hwk
       obtain ⟨in1, in2⟩ := hin2
       refine wp_region_cls g (by kernel_rfl) (by kernel_rfl) h0 ?_
       clear h0
       repeat (go_big_quiet_step (first
        | (go_at_call_of 206 (Value.agg #[.int .i64 (D j2)]); exact calls_cls HI.out (HMON.out wb j2 _ (by omega) (by omega) (HS2.out _)))
        | (go_at_call_of 206 (Value.agg #[.int .i64 (D d)]); exact calls_cls HI.out (HMON.out wb d _ (by omega) (by omega) (HS2.out _)))
        | (go_at_call 200; exact calls_cls HI.out (HWRK.out wb j2 _ (by omega) (by omega) (HS2.out _)))))
       refine wpQuiet_nil ?_
       rintro _ ⟨t, rfl⟩
       clear q1 q4 hmm hmd
       rw [HWF.out]
       have XGj2 : Hid (Ext w0 (g t)) := XB.out.trans (HS2.out t)
       have q4 := (HS2.out t).cell HCB.out
       have p1 := (HS2.out t).cell HC1B.out
       generalize g t = wg at *
       go_wp2_with fail
       go_at_call 189
       refine (HDAY.out j2 _ in1 in2).mono ?_
       rintro e wh ⟨rfl, xh⟩
       go_wp2_with fail
       go_ret
       exact ⟨by rw [← show R = j2 from (by rw [HRR.out, HN12.out.1, if_neg (by decide), HN12.out.2, if_neg (by decide), HF1.out, if_neg (by decide)]; exact HNBJ.out.symm)]; rfl, (X0.out.trans XGj2.out).trans xh⟩
    ·have hmm := HIN.trans hin
     have hin2 : 1 ≤ j1 ∧ j1 ≤ L := by simpa using hin
     rcases hwk : WK j1
     ·have HF : Hid (NB (d - 2) = false) := by show _ = _; rw [← HNBJ.out, HNBN, hin, hwk]; rfl
      have HWF := Lib.hid hwk
      have hmd := HMD.out
      clear hin HIN HNBN hwk hin2
      refine wp_region_cls g (by kernel_rfl) (by kernel_rfl) h0 ?_
      clear h0
      repeat (go_big_quiet_step (first
       | (go_at_call_of 206 (Value.agg #[.int .i64 (D j1)]); exact calls_cls HI.out (HMON.out wb j1 _ (by omega) (by omega) (HS2.out _)))
       | (go_at_call_of 206 (Value.agg #[.int .i64 (D d)]); exact calls_cls HI.out (HMON.out wb d _ (by omega) (by omega) (HS2.out _)))
       | (go_at_call 200; exact calls_cls HI.out (HWRK.out wb j1 _ (by omega) (by omega) (HS2.out _)))))
      refine wpQuiet_nil ?_
      rintro _ ⟨t, rfl⟩
      clear q1 q4 hmm hmd
      rw [HWF.out]
      have XGj1 : Hid (Ext w0 (g t)) := XB.out.trans (HS2.out t)
      have q4 := (HS2.out t).cell HCB.out
      have p1 := (HS2.out t).cell HC1B.out
      generalize g t = wg at *
      clear q4
      have HF1 := HF
      clear HF
      go_wp2_with fail
      go_at_call 204
      refine (HADD.out (2) _ (by omega) (by omega)).mono ?_
      rintro e wa ⟨rfl, xa⟩
      obtain ⟨j2, hj2⟩ : ∃ j2, j2 = d + (2) := ⟨_, rfl⟩
      rw [← hj2]
      have bj20 : d - 2 ≤ j2 := by omega
      have bj21 : j2 ≤ d + 2 := by omega
      have HNBJ : Hid (j2 = d + 2) := by show _ = _; omega
      clear hj2
      obtain ⟨wb, hwb⟩ : ∃ wb, wb = wa.alloc (.cells #[.int .i64 (D j2)] 170) := ⟨_, rfl⟩
      have XB : Hid (Ext w0 wb) := by show Ext _ _; rw [hwb]; exact (XGj1.out.trans xa).trans (Ext.alloc _ _)
      have HCB : Hid (wb.cell? ⟨wa.heap.size, 0, none⟩ = some (.int .i64 (D j2))) := by show _ = _; rw [hwb]; simp
      have HC1B : Hid (wb.cell? ⟨w.heap.size, 0, none⟩ = some (.int .i64 (D d))) := XB.out.cell HC1.out
      have HBB := Lib.hid hwb
      clear xa hwb
      go_wp2_with fail
      rw [← HBB.out]
      obtain ⟨T, g, hT, h0, hS2, hI⟩ := cls_intro (fun W => Ext wb W) _ (Ext.drew wb)
      have q1 := fun t => (hS2 t).cell HC1B.out
      have q4 := fun t => (hS2 t).cell HCB.out
      have HS2 := Lib.hid hS2
      have HI := Lib.hid hI
      clear hS2 hI
      have HIN := HIN0.out j2 (by omega) (by omega)
      have HNBN := HNB.out j2
      rcases hin : (decide (1 ≤ j2) && decide (j2 ≤ L))
      ·have hmm := HIN.trans hin
       have HF : Hid (NB (d + 2) = false) := by show _ = _; rw [← HNBJ.out, HNBN, hin]; rfl
       have hmd := HMD.out
       clear hin HIN HNBN
       refine wp_region_cls g (by kernel_rfl) (by kernel_rfl) h0 ?_
       clear h0
       repeat (go_big_quiet_step (first
        | (go_at_call_of 206 (Value.agg #[.int .i64 (D j2)]); exact calls_cls HI.out (HMON.out wb j2 _ (by omega) (by omega) (HS2.out _)))
        | (go_at_call_of 206 (Value.agg #[.int .i64 (D d)]); exact calls_cls HI.out (HMON.out wb d _ (by omega) (by omega) (HS2.out _)))))
       refine wpQuiet_nil ?_
       rintro _ ⟨t, rfl⟩
       clear q1 q4 hmm hmd
       have XGj2 : Hid (Ext w0 (g t)) := XB.out.trans (HS2.out t)
       have q4 := (HS2.out t).cell HCB.out
       have p1 := (HS2.out t).cell HC1B.out
       generalize g t = wg at *
       clear q4
       exfalso
       rcases HKK.out HN12.out.1 HN12.out.2 with h | h
       ·rw [HF1.out] at h; cases h
       ·rw [HF.out] at h; cases h
      ·have hmm := HIN.trans hin
       have hin2 : 1 ≤ j2 ∧ j2 ≤ L := by simpa using hin
       rcases hwk : WK j2
       ·have HF : Hid (NB (d + 2) = false) := by show _ = _; rw [← HNBJ.out, HNBN, hin, hwk]; rfl
        have HWF := Lib.hid hwk
        have hmd := HMD.out
        clear hin HIN HNBN hwk hin2
        refine wp_region_cls g (by kernel_rfl) (by kernel_rfl) h0 ?_
        clear h0
        repeat (go_big_quiet_step (first
         | (go_at_call_of 206 (Value.agg #[.int .i64 (D j2)]); exact calls_cls HI.out (HMON.out wb j2 _ (by omega) (by omega) (HS2.out _)))
         | (go_at_call_of 206 (Value.agg #[.int .i64 (D d)]); exact calls_cls HI.out (HMON.out wb d _ (by omega) (by omega) (HS2.out _)))
         | (go_at_call 200; exact calls_cls HI.out (HWRK.out wb j2 _ (by omega) (by omega) (HS2.out _)))))
        refine wpQuiet_nil ?_
        rintro _ ⟨t, rfl⟩
        clear q1 q4 hmm hmd
        rw [HWF.out]
        have XGj2 : Hid (Ext w0 (g t)) := XB.out.trans (HS2.out t)
        have q4 := (HS2.out t).cell HCB.out
        have p1 := (HS2.out t).cell HC1B.out
        generalize g t = wg at *
        clear q4
        exfalso
        rcases HKK.out HN12.out.1 HN12.out.2 with h | h
        ·rw [HF1.out] at h; cases h
        ·rw [HF.out] at h; cases h
       ·have HT : Hid (NB (d + 2) = true) := by show _ = _; rw [← HNBJ.out, HNBN, hin, hwk]; rfl
        have HWF := Lib.hid hwk
        have hmd := HMD.out
        clear hin HIN HNBN hwk
        obtain ⟨in1, in2⟩ := hin2
        refine wp_region_cls g (by kernel_rfl) (by kernel_rfl) h0 ?_
        clear h0
        repeat (go_big_quiet_step (first
         | (go_at_call_of 206 (Value.agg #[.int .i64 (D j2)]); exact calls_cls HI.out (HMON.out wb j2 _ (by omega) (by omega) (HS2.out _)))
         | (go_at_call_of 206 (Value.agg #[.int .i64 (D d)]); exact calls_cls HI.out (HMON.out wb d _ (by omega) (by omega) (HS2.out _)))
         | (go_at_call 200; exact calls_cls HI.out (HWRK.out wb j2 _ (by omega) (by omega) (HS2.out _)))))
        refine wpQuiet_nil ?_
        rintro _ ⟨t, rfl⟩
        clear q1 q4 hmm hmd
        rw [HWF.out]
        have XGj2 : Hid (Ext w0 (g t)) := XB.out.trans (HS2.out t)
        have q4 := (HS2.out t).cell HCB.out
        have p1 := (HS2.out t).cell HC1B.out
        generalize g t = wg at *
        go_wp2_with fail
        go_at_call 189
        refine (HDAY.out j2 _ in1 in2).mono ?_
        rintro e wh ⟨rfl, xh⟩
        go_wp2_with fail
        go_ret
        exact ⟨by rw [← show R = j2 from (by rw [HRR.out, HN12.out.1, if_neg (by decide), HN12.out.2, if_neg (by decide), HF1.out, if_neg (by decide)]; exact HNBJ.out.symm)]; rfl, (X0.out.trans XGj2.out).trans xh⟩
     ·have HT : Hid (NB (d - 2) = true) := by show _ = _; rw [← HNBJ.out, HNBN, hin, hwk]; rfl
      have HWF := Lib.hid hwk
      have hmd := HMD.out
      clear hin HIN HNBN hwk
      obtain ⟨in1, in2⟩ := hin2
      refine wp_region_cls g (by kernel_rfl) (by kernel_rfl) h0 ?_
      clear h0
      repeat (go_big_quiet_step (first
       | (go_at_call_of 206 (Value.agg #[.int .i64 (D j1)]); exact calls_cls HI.out (HMON.out wb j1 _ (by omega) (by omega) (HS2.out _)))
       | (go_at_call_of 206 (Value.agg #[.int .i64 (D d)]); exact calls_cls HI.out (HMON.out wb d _ (by omega) (by omega) (HS2.out _)))
       | (go_at_call 200; exact calls_cls HI.out (HWRK.out wb j1 _ (by omega) (by omega) (HS2.out _)))))
      refine wpQuiet_nil ?_
      rintro _ ⟨t, rfl⟩
      clear q1 q4 hmm hmd
      rw [HWF.out]
      have XGj1 : Hid (Ext w0 (g t)) := XB.out.trans (HS2.out t)
      have q4 := (HS2.out t).cell HCB.out
      have p1 := (HS2.out t).cell HC1B.out
      generalize g t = wg at *
      go_wp2_with fail
      go_at_call 189
      refine (HDAY.out j1 _ in1 in2).mono ?_
      rintro e wh ⟨rfl, xh⟩
      go_wp2_with fail
      go_ret
      exact ⟨by rw [← show R = j1 from (by rw [HRR.out, HN12.out.1, if_neg (by decide), HN12.out.2, if_neg (by decide), HT.out, if_pos rfl]; exact HNBJ.out.symm)]; rfl, (X0.out.trans XGj1.out).trans xh⟩
 ·have HR := Lib.hid (HCW.out hwk)
  have HWKD := Lib.hid hwk
  clear HCW HCH hwk
  go_enter Tryz.func211, Tryz.ntmps211
  go_wp2_with fail
  go_at_call 200
  rw [← HW0.out]
  refine (HWRK.out w0 d _ (by omega) (by omega) (Ext.refl _)).mono ?_
  rintro e w1 ⟨rfl, x1⟩
  rw [HWKD.out]
  have c1 := x1.cell HC1.out
  have X := Lib.hid x1
  clear x1
  go_wp2_with fail
  go_at_call 189
  refine (HDAY.out d _ (by omega) (by omega)).mono ?_
  rintro e w2 ⟨rfl, x2⟩
  go_wp2_with fail
  go_ret
  exact ⟨by rw [HR.out]; rfl, (X0.out.trans X.out).trans x2⟩
end Go.Proofs.YtmaffdhcmdhjfaaGreatDoor
namespace Go.Proofs.YtmaffdhcmdhjfaaGreatDoor
open Go.RowKit Go.Lib
def lastT (n y m : Int) : Int := if n = 1 then Cal.mlen y m else Cal.mlen y m + n
theorem lastT_bd {n y m : Int} (hn : n = 1 ∨ (-27 ≤ n ∧ n ≤ -1)) : 1 ≤ lastT n y m ∧ lastT n y m ≤ Cal.mlen y m := by
 have hb := Cal.mlen_bd y m
 unfold lastT
 split <;> omega
theorem last_num {n y m off : Int} (m0 : 1 ≤ m) (m1 : m ≤ 12) (ho : off = if n = 1 then 0 else n) : Cal.dayNum y (m + 1) (1 + (off - 1)) = Cal.dayNum y m (lastT n y m) := by
 have e2 := month_end (y := y) m0 m1
 have e1 := Cal.dayNum_add y (m + 1) 0 off
 have e3 := Cal.dayNum_add y m (Cal.mlen y m) off
 rw [Int.zero_add] at e1
 have e4 : 1 + (off - 1) = off := by omega
 rw [e4]
 have e5 : lastT n y m = Cal.mlen y m + off := by
  unfold lastT
  split
  ·rename_i h; rw [if_pos h] at ho; omega
  ·rename_i h; rw [if_neg h] at ho; omega
 rw [e5]
 omega
set_option maxHeartbeats 3200000 in
set_option maxRecDepth 1000000 in
theorem last_low {p : DayIs} {aM : Option Addr} {cM : Nat} {M : List Int} {aY : Option Addr} {cY : Nat} {Y : List Int} {S : Int → Int → Int → World → Prop} (hS : DayS p aM cM M aY cY Y S) (hn : p.n = 1 ∨ (-27 ≤ p.n ∧ p.n ≤ -1)) (y m d : Int) (hs : Sane y m d) (y9 : y ≤ 999990) (w : World) (h : S y m d w) (hlt : d < lastT p.n y m) :
 Calls Tryz.prog 196 #[.pointer (some ⟨p.B, 0, none⟩)] w fun e w' => e = .returned (.tuple #[]) ∧ S y m (lastT p.n y m) w' := by
 have hb := Cal.mlen_bd y m
 have hTb := lastT_bd (y := y) (m := m) hn
 obtain ⟨y0, y1, m0, m1, dd0, dd1⟩ := hs
 have HCC : Hid (∀ y m d W, S y m d W → W.cell? ⟨p.B, 5, none⟩ = some (.int .i64 p.n) ∧ W.cell? ⟨p.B, 6, none⟩ = some (.iface 146 (.pointer (some ⟨p.M, 0, none⟩))) ∧ W.cell? ⟨p.B, 7, none⟩ = some (.iface 146 (.pointer (some ⟨p.Y, 0, none⟩))) ∧
  W.cell? ⟨p.B, 0, none⟩ = some (.int .i64 d) ∧ W.frozen? ⟨p.B, 0, none⟩ = false ∧ W.cell? ⟨p.M, 0, none⟩ = some (.int .i64 m) ∧ W.cell? ⟨p.Y, 0, none⟩ = some (.int .i64 y)) := fun y m d W hW => by
  have hat := hS.at_ _ _ _ _ hW
  exact ⟨hat.n, hat.mo, hat.yr, hat.d, hat.fz, hat.m, hat.y⟩
 obtain ⟨off, hoff⟩ : ∃ off, off = if p.n = 1 then 0 else p.n := ⟨_, rfl⟩
 have hofb : -27 ≤ off ∧ off ≤ 0 := by rw [hoff]; split <;> omega
 have hln := last_num (y := y) m0 m1 hoff
 have hcd : Cal.civil (Cal.dayNum y m 1) = (y, m, 1) := Cal.civil_dayNum ⟨m0, m1, by omega, by omega⟩
 have HMK : Hid (∀ W, S y m d W → Calls Tryz.prog 145 #[.int .i64 y, .int .i64 m, .int .i64 1] W fun e w' => e = .returned (.agg #[.int .i64 (Cal.dayNum y m 1)]) ∧ S y m d w') := fun W hW => by
  refine (make_date y m 1 (by omega) (by omega) (by omega) (by omega) (by omega) (by omega) W).mono ?_
  rintro e w' ⟨rfl, x⟩
  exact ⟨rfl, hS.ext _ _ _ _ _ hW x⟩
 have HAD : Hid (∀ W, S y m d W → Calls Tryz.prog 204 #[.agg #[.int .i64 (Cal.dayNum y m 1)], .int .i64 0, .int .i64 1, .int .i64 (off - 1)] W fun e w' => e = .returned (.agg #[.int .i64 (Cal.dayNum y m (lastT p.n y m))]) ∧ S y m d w') := fun W hW => by
  have := add_date (Cal.dayNum y m 1) 0 1 (off - 1) (dayIn_of (by omega) (by omega) (by omega) (by omega) (by omega) (by omega)) y m 1 hcd (by omega) (by omega) (by omega) (by omega) (by omega) (by omega) W
  rw [Int.add_zero, hln] at this
  refine this.mono ?_
  rintro e w' ⟨rfl, x⟩
  exact ⟨rfl, hS.ext _ _ _ _ _ hW x⟩
 have HDY : Hid (∀ (w2 : World) W, Ext w2 W → Calls Tryz.prog 189 #[.agg #[.int .i64 (Cal.dayNum y m (lastT p.n y m))]] W fun e w' => e = .returned (.int .i64 (lastT p.n y m)) ∧ Ext w2 w') := fun w2 W x => by
  have := day_any (Cal.dayNum y m (lastT p.n y m)) (dayIn_of (by omega) (by omega) (by omega) (by omega) (by omega) (by omega)) W
  rw [Cal.civil_dayNum ⟨m0, m1, hTb.1, hTb.2⟩] at this
  refine this.mono ?_
  rintro e w' ⟨rfl, x2⟩
  exact ⟨rfl, x.trans x2⟩
 have HSET : Hid (∀ v W, S y m d W → S y m v (W.setCell ⟨p.B, 0, none⟩ (.int .i64 v))) := fun v W hW => (hS.nD y m).set d v W hW
 have HEX : Hid (∀ W W', S y m d W → Ext W W' → S y m d W') := fun W W' hW x => hS.ext _ _ _ _ _ hW x
 generalize lastT p.n y m = t at *
 generalize Cal.dayNum y m 1 = k1 at *
 generalize Cal.dayNum y m t = k2 at *
 generalize p.n = n at *
 have v1 := m_value ⟨p.M, 0, none⟩
 have v2 := m_value ⟨p.Y, 0, none⟩
 have H := Lib.hid h
 obtain ⟨of0, of1⟩ := hofb
 have hcase : (n = 1 ∧ off = 0) ∨ ((n == 1) = false ∧ n = off) := by
  by_cases h1 : n = 1
  ·rw [if_pos h1] at hoff; exact .inl ⟨h1, hoff⟩
  ·rw [if_neg h1] at hoff; exact .inr ⟨by simp [h1], hoff.symm⟩
 clear h hS hoff hln hcd hn hTb
 rcases hcase with ⟨hn, ho⟩ | ⟨hn, ho⟩
 all_goals (
  subst ho
  obtain ⟨c5, c6, c7, cd, cf, cm, cy⟩ := HCC.out _ _ _ _ H.out
  try rw [hn] at c5
  try rw [hn] at HCC
  have HM := Lib.hid cm
  have HY := Lib.hid cy
  clear cm cy
  go_enter Tryz.func196, Tryz.ntmps196
  go_wp2_with fail
  go_at_call 167
  refine (node_value p.Y y _ HY.out).mono ?_
  rintro e w1 ⟨rfl, rfl⟩
  go_wp2_with fail
  go_at_call 167
  refine (node_value p.M m _ HM.out).mono ?_
  rintro e w1 ⟨rfl, rfl⟩
  clear c5 c6 c7 cd cf
  go_wp2_with fail
  go_at_call 145
  refine (HMK.out _ H.out).mono ?_
  rintro e w2 ⟨rfl, h2⟩
  have h3 := HEX.out _ _ h2 (Ext.alloc w2 (.cells #[.int .i64 k1] 170))
  obtain ⟨c5, c6, c7, cd, cf, cm, cy⟩ := HCC.out _ _ _ _ h3
  have H3 := Lib.hid h3
  clear h2 h3 cm cy
  go_wp2_with fail
  go_at_call 204
  refine (HAD.out _ H3.out).mono ?_
  rintro e w4 ⟨rfl, h4⟩
  clear c5 c6 c7 cd cf
  obtain ⟨wb, hwb⟩ : ∃ wb, wb = w4.alloc (.cells #[.int .i64 k2] 170) := ⟨_, rfl⟩
  have HB : Hid (S y m d wb) := by show S _ _ _ _; rw [hwb]; exact HEX.out _ _ h4 (Ext.alloc _ _)
  have HCB : Hid (wb.cell? ⟨w4.heap.size, 0, none⟩ = some (.int .i64 k2)) := by show _ = _; rw [hwb]; simp
  have HBB := Lib.hid hwb
  clear h4 hwb
  go_wp2_with fail
  rw [← HBB.out]
  obtain ⟨T, g, hT, h0, hS2, hI⟩ := cls_intro (fun W => Ext wb W) _ (Ext.drew wb)
  have q1 := fun t => (HCC.out _ _ _ _ (HEX.out _ _ HB.out (hS2 t))).2.2.2.1
  have q4 := fun t => (hS2 t).cell HCB.out
  have HS2 := Lib.hid hS2
  have HI := Lib.hid hI
  clear hS2 hI
  refine wp_region_cls g (by kernel_rfl) (by kernel_rfl) h0 ?_
  clear h0
  repeat (go_big_quiet_step (first
   | (go_at_call 189; exact calls_cls HI.out (HDY.out wb _ (HS2.out _)))))
  refine wpQuiet_nil ?_
  rintro _ ⟨tt, rfl⟩
  clear q1 q4
  have h5 := HEX.out _ _ HB.out (HS2.out tt)
  have c8 := (HS2.out tt).cell HCB.out
  generalize g tt = w5 at *
  obtain ⟨c5, c6, c7, cd, cf, cm, cy⟩ := HCC.out _ _ _ _ h5
  have H5 := Lib.hid h5
  clear h5 cm cy c5 c6 c7 cd cf
  go_wp2_with fail
  go_at_call 189
  refine (HDY.out w5 _ (Ext.refl _)).mono ?_
  rintro e w6 ⟨rfl, x6⟩
  have h6 := HEX.out _ _ H5.out x6
  obtain ⟨c5, c6, c7, cd, cf, cm, cy⟩ := HCC.out _ _ _ _ h6
  have H7 := Lib.hid (HSET.out t _ h6)
  clear h6 cm cy
  go_wp2_with fail
  go_end0
  exact ⟨rfl, H7.out⟩)
set_option maxHeartbeats 3200000 in
set_option maxRecDepth 1000000 in
theorem last_high {p : DayIs} {aM : Option Addr} {cM : Nat} {M : List Int} {aY : Option Addr} {cY : Nat} {Y : List Int} {S : Int → Int → Int → World → Prop} (hS : DayS p aM cM M aY cY Y S) (hLs : ListsOk M Y) (hn : p.n = 1 ∨ (-27 ≤ p.n ∧ p.n ≤ -1)) (y m d : Int) (hs : Sane y m d) (y9 : y ≤ 999990) (y8 : y ≤ 999980) (w : World) (h : S y m d w) (hlt : lastT p.n y m ≤ d) :
 Calls Tryz.prog 196 #[.pointer (some ⟨p.B, 0, none⟩)] w fun e w' => e = .returned (.tuple #[]) ∧ S (advM M Y y m).1 (advM M Y y m).2 (lastT p.n (advM M Y y m).1 (advM M Y y m).2) w' := by
 obtain ⟨y', hy'⟩ : ∃ y', y' = (advM M Y y m).1 := ⟨_, rfl⟩
 obtain ⟨m', hm'⟩ : ∃ m', m' = (advM M Y y m).2 := ⟨_, rfl⟩
 have hbd := advM_bd hLs hs.y0 y9 hs.m0 hs.m1
 rw [← hy', ← hm'] at hbd ⊢
 have HADV : Hid (∀ W, S y m 0 W → Calls Tryz.prog 205 #[.pointer (some ⟨p.B, 0, none⟩)] W fun e w' => e = .returned (.tuple #[]) ∧ S y' m' 0 w') := fun W hW => by
  rw [hy', hm']
  exact day_adv hS y m 0 hs.y0 y9 hs.m0 hs.m1 W hW
 have hTb' := lastT_bd (y := y') (m := m') hn
 have hy8 := y8
 have HREC : Hid (∀ W, S y' m' 0 W → Calls Tryz.prog 196 #[.pointer (some ⟨p.B, 0, none⟩)] W fun e w' => e = .returned (.tuple #[]) ∧ S y' m' (lastT p.n y' m') w') := fun W hW =>
  last_low hS hn y' m' 0 ⟨hbd.1, by omega, hbd.2.2.1, hbd.2.2.2, by omega, by omega⟩ (by omega) W hW (by omega)
 generalize lastT p.n y' m' = t' at *
 clear hTb' hbd hy' hm' hLs
 have hb := Cal.mlen_bd y m
 have hTb := lastT_bd (y := y) (m := m) hn
 obtain ⟨y0, y1, m0, m1, dd0, dd1⟩ := hs
 have HCC : Hid (∀ y m d W, S y m d W → W.cell? ⟨p.B, 5, none⟩ = some (.int .i64 p.n) ∧ W.cell? ⟨p.B, 6, none⟩ = some (.iface 146 (.pointer (some ⟨p.M, 0, none⟩))) ∧ W.cell? ⟨p.B, 7, none⟩ = some (.iface 146 (.pointer (some ⟨p.Y, 0, none⟩))) ∧
  W.cell? ⟨p.B, 0, none⟩ = some (.int .i64 d) ∧ W.frozen? ⟨p.B, 0, none⟩ = false ∧ W.cell? ⟨p.M, 0, none⟩ = some (.int .i64 m) ∧ W.cell? ⟨p.Y, 0, none⟩ = some (.int .i64 y)) := fun y m d W hW => by
  have hat := hS.at_ _ _ _ _ hW
  exact ⟨hat.n, hat.mo, hat.yr, hat.d, hat.fz, hat.m, hat.y⟩
 obtain ⟨off, hoff⟩ : ∃ off, off = if p.n = 1 then 0 else p.n := ⟨_, rfl⟩
 have hofb : -27 ≤ off ∧ off ≤ 0 := by rw [hoff]; split <;> omega
 have hln := last_num (y := y) m0 m1 hoff
 have hcd : Cal.civil (Cal.dayNum y m 1) = (y, m, 1) := Cal.civil_dayNum ⟨m0, m1, by omega, by omega⟩
 have HMK : Hid (∀ W, S y m d W → Calls Tryz.prog 145 #[.int .i64 y, .int .i64 m, .int .i64 1] W fun e w' => e = .returned (.agg #[.int .i64 (Cal.dayNum y m 1)]) ∧ S y m d w') := fun W hW => by
  refine (make_date y m 1 (by omega) (by omega) (by omega) (by omega) (by omega) (by omega) W).mono ?_
  rintro e w' ⟨rfl, x⟩
  exact ⟨rfl, hS.ext _ _ _ _ _ hW x⟩
 have HAD : Hid (∀ W, S y m d W → Calls Tryz.prog 204 #[.agg #[.int .i64 (Cal.dayNum y m 1)], .int .i64 0, .int .i64 1, .int .i64 (off - 1)] W fun e w' => e = .returned (.agg #[.int .i64 (Cal.dayNum y m (lastT p.n y m))]) ∧ S y m d w') := fun W hW => by
  have := add_date (Cal.dayNum y m 1) 0 1 (off - 1) (dayIn_of (by omega) (by omega) (by omega) (by omega) (by omega) (by omega)) y m 1 hcd (by omega) (by omega) (by omega) (by omega) (by omega) (by omega) W
  rw [Int.add_zero, hln] at this
  refine this.mono ?_
  rintro e w' ⟨rfl, x⟩
  exact ⟨rfl, hS.ext _ _ _ _ _ hW x⟩
 have HDY : Hid (∀ (w2 : World) W, Ext w2 W → Calls Tryz.prog 189 #[.agg #[.int .i64 (Cal.dayNum y m (lastT p.n y m))]] W fun e w' => e = .returned (.int .i64 (lastT p.n y m)) ∧ Ext w2 w') := fun w2 W x => by
  have := day_any (Cal.dayNum y m (lastT p.n y m)) (dayIn_of (by omega) (by omega) (by omega) (by omega) (by omega) (by omega)) W
  rw [Cal.civil_dayNum ⟨m0, m1, hTb.1, hTb.2⟩] at this
  refine this.mono ?_
  rintro e w' ⟨rfl, x2⟩
  exact ⟨rfl, x.trans x2⟩
 have HSET : Hid (∀ v W, S y m d W → S y m v (W.setCell ⟨p.B, 0, none⟩ (.int .i64 v))) := fun v W hW => (hS.nD y m).set d v W hW
 have HEX : Hid (∀ W W', S y m d W → Ext W W' → S y m d W') := fun W W' hW x => hS.ext _ _ _ _ _ hW x
 generalize lastT p.n y m = t at *
 generalize Cal.dayNum y m 1 = k1 at *
 generalize Cal.dayNum y m t = k2 at *
 generalize p.n = n at *
 have v1 := m_value ⟨p.M, 0, none⟩
 have v2 := m_value ⟨p.Y, 0, none⟩
 have H := Lib.hid h
 obtain ⟨of0, of1⟩ := hofb
 have hcase : (n = 1 ∧ off = 0) ∨ ((n == 1) = false ∧ n = off) := by
  by_cases h1 : n = 1
  ·rw [if_pos h1] at hoff; exact .inl ⟨h1, hoff⟩
  ·rw [if_neg h1] at hoff; exact .inr ⟨by simp [h1], hoff.symm⟩
 clear h hS hoff hln hcd hn hTb
 rcases hcase with ⟨hn, ho⟩ | ⟨hn, ho⟩
 all_goals (
  subst ho
  obtain ⟨c5, c6, c7, cd, cf, cm, cy⟩ := HCC.out _ _ _ _ H.out
  try rw [hn] at c5
  try rw [hn] at HCC
  have HM := Lib.hid cm
  have HY := Lib.hid cy
  clear cm cy
  go_enter Tryz.func196, Tryz.ntmps196
  go_wp2_with fail
  go_at_call 167
  refine (node_value p.Y y _ HY.out).mono ?_
  rintro e w1 ⟨rfl, rfl⟩
  go_wp2_with fail
  go_at_call 167
  refine (node_value p.M m _ HM.out).mono ?_
  rintro e w1 ⟨rfl, rfl⟩
  clear c5 c6 c7 cd cf
  go_wp2_with fail
  go_at_call 145
  refine (HMK.out _ H.out).mono ?_
  rintro e w2 ⟨rfl, h2⟩
  have h3 := HEX.out _ _ h2 (Ext.alloc w2 (.cells #[.int .i64 k1] 170))
  obtain ⟨c5, c6, c7, cd, cf, cm, cy⟩ := HCC.out _ _ _ _ h3
  have H3 := Lib.hid h3
  clear h2 h3 cm cy
  go_wp2_with fail
  go_at_call 204
  refine (HAD.out _ H3.out).mono ?_
  rintro e w4 ⟨rfl, h4⟩
  clear c5 c6 c7 cd cf
  obtain ⟨wb, hwb⟩ : ∃ wb, wb = w4.alloc (.cells #[.int .i64 k2] 170) := ⟨_, rfl⟩
  have HB : Hid (S y m d wb) := by show S _ _ _ _; rw [hwb]; exact HEX.out _ _ h4 (Ext.alloc _ _)
  have HCB : Hid (wb.cell? ⟨w4.heap.size, 0, none⟩ = some (.int .i64 k2)) := by show _ = _; rw [hwb]; simp
  have HBB := Lib.hid hwb
  clear h4 hwb
  go_wp2_with fail
  rw [← HBB.out]
  obtain ⟨T, g, hT, h0, hS2, hI⟩ := cls_intro (fun W => Ext wb W) _ (Ext.drew wb)
  have q1 := fun t => (HCC.out _ _ _ _ (HEX.out _ _ HB.out (hS2 t))).2.2.2.1
  have q4 := fun t => (hS2 t).cell HCB.out
  have HS2 := Lib.hid hS2
  have HI := Lib.hid hI
  clear hS2 hI
  refine wp_region_cls g (by kernel_rfl) (by kernel_rfl) h0 ?_
  clear h0
  repeat (go_big_quiet_step (first
   | (go_at_call 189; exact calls_cls HI.out (HDY.out wb _ (HS2.out _)))))
  refine wpQuiet_nil ?_
  rintro _ ⟨tt, rfl⟩
  clear q1 q4
  have h5 := HEX.out _ _ HB.out (HS2.out tt)
  have c8 := (HS2.out tt).cell HCB.out
  generalize g tt = w5 at *
  obtain ⟨c5, c6, c7, cd, cf, cm, cy⟩ := HCC.out _ _ _ _ h5
  have H5 := Lib.hid (HSET.out 0 _ h5)
  clear h5 cm cy
  go_wp2_with fail
  go_at_call 205
  refine (HADV.out _ H5.out).mono ?_
  rintro e w6 ⟨rfl, h6⟩
  have H6 := Lib.hid h6
  clear h6
  go_wp2_with fail
  go_at_call 196
  refine (HREC.out _ H6.out).mono ?_
  rintro e w7 ⟨rfl, h7⟩
  have H7 := Lib.hid h7
  clear h7
  go_wp2_with fail
  refine bodyPost_ret (results_none rfl _ _ _) rfl ?_
  exact ⟨rfl, H7.out⟩)
end Go.Proofs.YtmaffdhcmdhjfaaGreatDoor
namespace Go.Proofs.YtmaffdhcmdhjfaaGreatDoor
open Go.RowKit Go.Lib
def wkT (a n y m : Int) : Int := if n = 3 then Csm.closestW y m (Cal.mlen y m) else Csm.closestW y m (if a > Cal.mlen y m then Cal.mlen y m else a)
theorem wkT_bd {a n y m : Int} (ha : n = 3 ∨ 1 ≤ a) : 1 ≤ wkT a n y m ∧ wkT a n y m ≤ Cal.mlen y m := by
 have hb := Cal.mlen_bd y m
 unfold wkT
 split
 ·have := Csm.closest_cases y m (Cal.mlen y m) (by omega) (by omega) hb.1
  exact ⟨this.1, this.2.1⟩
 ·have h1 : 1 ≤ a := by rcases ha with h | h; contradiction; exact h
  split
  ·have := Csm.closest_cases y m (Cal.mlen y m) (by omega) (by omega) hb.1
   exact ⟨this.1, this.2.1⟩
  ·have := Csm.closest_cases y m a (by omega) (by omega) hb.1
   exact ⟨this.1, this.2.1⟩
def onceNext (T : Int → Int → Int) (M Y : List Int) (y m d : Int) : Int × Int × Int :=
 if T y m ≤ d then ((advM M Y y m).1, (advM M Y y m).2, T (advM M Y y m).1 (advM M Y y m).2) else (y, m, T y m)
set_option maxHeartbeats 3200000 in
set_option maxRecDepth 1000000 in
theorem week_low {p : DayIs} {aM : Option Addr} {cM : Nat} {M : List Int} {aY : Option Addr} {cY : Nat} {Y : List Int} {S : Int → Int → Int → World → Prop} (hS : DayS p aM cM M aY cY Y S) (a : Int) (hn : p.n = 2 ∨ p.n = 3) (hD : p.D.head? = some a) (ha : p.n = 3 ∨ 1 ≤ a) (ha1 : -1000 ≤ a ∧ a ≤ 1000) (y m d : Int) (hs : Sane y m d) (w : World) (h : S y m d w) (hlt : d < wkT a p.n y m) :
 Calls Tryz.prog 195 #[.pointer (some ⟨p.B, 0, none⟩)] w fun e w' => e = .returned (.tuple #[]) ∧ S y m (wkT a p.n y m) w' := by
 have hb := Cal.mlen_bd y m
 obtain ⟨y0, y1, m0, m1, dd0, dd1⟩ := hs
 obtain ⟨g, haD⟩ : ∃ g, p.aD = some ⟨g, 0, none⟩ := by
  obtain ⟨g, hg, _⟩ := (hS.at_ _ _ _ _ h).ls (by intro e; rw [e] at hD; cases hD)
  exact ⟨g, hg⟩
 have HCC : Hid (∀ y m d W, S y m d W → W.cell? ⟨p.B, 5, none⟩ = some (.int .i64 p.n) ∧ W.cell? ⟨p.B, 6, none⟩ = some (.iface 146 (.pointer (some ⟨p.M, 0, none⟩))) ∧ W.cell? ⟨p.B, 7, none⟩ = some (.iface 146 (.pointer (some ⟨p.Y, 0, none⟩))) ∧
  W.cell? ⟨p.B, 3, none⟩ = some (.slice (some ⟨g, 0, none⟩) p.D.length p.cD) ∧ W.cell? ⟨g, 0, none⟩ = some (.int .i64 a) ∧ W.cell? ⟨p.B, 0, none⟩ = some (.int .i64 d) ∧ W.frozen? ⟨p.B, 0, none⟩ = false ∧ W.cell? ⟨p.M, 0, none⟩ = some (.int .i64 m) ∧ W.cell? ⟨p.Y, 0, none⟩ = some (.int .i64 y)) := fun y m d W hW => by
  have hat := hS.at_ _ _ _ _ hW
  have h3 := hat.dv
  rw [haD] at h3
  obtain ⟨g', hg', hcell⟩ := hat.ls (by intro e; rw [e] at hD; cases hD)
  rw [haD] at hg'
  injection hg' with hg'
  injection hg' with hg'
  subst hg'
  refine ⟨hat.n, hat.mo, hat.yr, h3, hcell 0 a ?_, hat.d, hat.fz, hat.m, hat.y⟩
  cases hp : p.D with
  | nil => rw [hp] at hD; cases hD
  | cons b t => rw [hp] at hD; simpa using hD
 have hpos : 0 < p.D.length := by cases hp : p.D with
  | nil => rw [hp] at hD; cases hD
  | cons b t => simp
 obtain ⟨dt, hdt⟩ : ∃ dt, dt = if p.n = 3 then Cal.mlen y m else if a > Cal.mlen y m then Cal.mlen y m else a := ⟨_, rfl⟩
 have hdtb : 1 ≤ dt ∧ dt ≤ Cal.mlen y m := by
  rw [hdt]; split
  ·omega
  ·have h1 : 1 ≤ a := by rcases ha with h | h; contradiction; exact h
   split <;> omega
 have hT : wkT a p.n y m = Csm.closestW y m dt := by
  unfold wkT; rw [hdt]; split <;> rfl
 rw [hT] at hlt
 try rw [hT]
 have HLD : Hid (∀ W, S y m d W → Calls Tryz.prog 210 #[.int .i64 y, .int .i64 m] W fun e w' => e = .returned (.int .i64 (Cal.mlen y m)) ∧ S y m d w') := fun W hW => by
  refine (last_day y m y0 (by omega) m0 m1 W).mono ?_
  rintro e w' ⟨rfl, x⟩
  exact ⟨rfl, hS.ext _ _ _ _ _ hW x⟩
 have HMK : Hid (∀ W, S y m d W → Calls Tryz.prog 145 #[.int .i64 y, .int .i64 m, .int .i64 dt] W fun e w' => e = .returned (.agg #[.int .i64 (Cal.dayNum y m dt)]) ∧ S y m d w') := fun W hW => by
  refine (make_date y m dt (by omega) (by omega) (by omega) (by omega) (by omega) (by omega) W).mono ?_
  rintro e w' ⟨rfl, x⟩
  exact ⟨rfl, hS.ext _ _ _ _ _ hW x⟩
 have HCL : Hid (∀ W, S y m d W → Calls Tryz.prog 211 #[.agg #[.int .i64 (Cal.dayNum y m dt)]] W fun e w' => e = .returned (.int .i64 (Csm.closestW y m dt)) ∧ S y m d w') := fun W hW => by
  refine (closest_any y m dt y0 y1 m0 m1 hdtb.1 hdtb.2 W).mono ?_
  rintro e w' ⟨rfl, x⟩
  exact ⟨rfl, hS.ext _ _ _ _ _ hW x⟩
 have HSET : Hid (∀ v W, S y m d W → S y m v (W.setCell ⟨p.B, 0, none⟩ (.int .i64 v))) := fun v W hW => (hS.nD y m).set d v W hW
 have HEX : Hid (∀ o W, S y m d W → S y m d (W.alloc o)) := fun o W hW => hS.ext _ _ _ _ _ hW (Ext.alloc _ _)
 have hcase : (p.n = 2 ∧ ¬ a > Cal.mlen y m ∧ dt = a) ∨ (p.n = 2 ∧ a > Cal.mlen y m ∧ dt = Cal.mlen y m) ∨ (p.n = 3 ∧ ¬ a > Cal.mlen y m ∧ dt = Cal.mlen y m) ∨ (p.n = 3 ∧ a > Cal.mlen y m ∧ dt = Cal.mlen y m) := by
  rcases hn with h | h
  ·rw [if_neg (by omega)] at hdt
   by_cases hg : a > Cal.mlen y m
   ·rw [if_pos hg] at hdt; exact .inr (.inl ⟨h, hg, hdt⟩)
   ·rw [if_neg hg] at hdt; exact .inl ⟨h, hg, hdt⟩
  ·rw [if_pos h] at hdt
   by_cases hg : a > Cal.mlen y m
   ·exact .inr (.inr (.inr ⟨h, hg, hdt⟩))
   ·exact .inr (.inr (.inl ⟨h, hg, hdt⟩))
 generalize Csm.closestW y m dt = t at *
 generalize Cal.dayNum y m dt = k at *
 generalize p.D.length = nD at *
 generalize Cal.mlen y m = L at *
 generalize p.n = n at *
 have v1 := m_value ⟨p.M, 0, none⟩
 have v2 := m_value ⟨p.Y, 0, none⟩
 have u1 : bits BinOp.and IntKind.i64 2 1 = 0 := by decide +kernel
 have u2 : bits BinOp.and IntKind.i64 3 1 = 1 := by decide +kernel
 obtain ⟨a0, a1⟩ := ha1
 have H := Lib.hid h
 clear h hS hdt hD haD hT hn ha
 rcases hcase with ⟨hn, hg, hdl⟩ | ⟨hn, hg, hdl⟩ | ⟨hn, hg, hdl⟩ | ⟨hn, hg, hdl⟩
 all_goals (
  subst hn
  rw [hdl] at HMK
  clear hdl
  obtain ⟨c5, c6, c7, c3, ca, cd, cf, cm, cy⟩ := HCC.out _ _ _ _ H.out
  have HM := Lib.hid cm
  have HY := Lib.hid cy
  clear cm cy
  go_enter Tryz.func195, Tryz.ntmps195
  go_wp2_with fail
  go_at_call 167
  refine (node_value p.Y y _ HY.out).mono ?_
  rintro e w1 ⟨rfl, rfl⟩
  go_wp2_with fail
  go_at_call 167
  refine (node_value p.M m _ HM.out).mono ?_
  rintro e w1 ⟨rfl, rfl⟩
  clear c5 c6 c7 c3 ca cd cf
  go_wp2_with fail
  go_at_call 210
  refine (HLD.out _ H.out).mono ?_
  rintro e w2 ⟨rfl, h2⟩
  obtain ⟨c5, c6, c7, c3, ca, cd, cf, cm, cy⟩ := HCC.out _ _ _ _ h2
  have H2 := Lib.hid h2
  clear h2 cm cy
  go_wp2_with fail
  go_at_call 145
  refine (HMK.out _ H2.out).mono ?_
  rintro e w3 ⟨rfl, h3⟩
  have H3 := Lib.hid (HEX.out (.cells #[.int .i64 k] 170) _ h3)
  clear h3 c5 c6 c7 c3 ca cd cf
  go_wp2_with fail
  go_at_call 211
  refine (HCL.out _ H3.out).mono ?_
  rintro e w4 ⟨rfl, h4⟩
  obtain ⟨c5, c6, c7, c3, ca, cd, cf, cm, cy⟩ := HCC.out _ _ _ _ h4
  have H5 := Lib.hid (HSET.out t _ h4)
  clear h4 cm cy
  go_wp2_with fail
  go_end0
  exact ⟨rfl, H5.out⟩)
set_option maxHeartbeats 3200000 in
set_option maxRecDepth 1000000 in
theorem week_high {p : DayIs} {aM : Option Addr} {cM : Nat} {M : List Int} {aY : Option Addr} {cY : Nat} {Y : List Int} {S : Int → Int → Int → World → Prop} (hS : DayS p aM cM M aY cY Y S) (hLs : ListsOk M Y) (a : Int) (hn : p.n = 2 ∨ p.n = 3) (hD : p.D.head? = some a) (ha : p.n = 3 ∨ 1 ≤ a) (ha1 : -1000 ≤ a ∧ a ≤ 1000) (y m d : Int) (hs : Sane y m d) (y9 : y ≤ 999990) (w : World) (h : S y m d w) (hlt : wkT a p.n y m ≤ d) :
 Calls Tryz.prog 195 #[.pointer (some ⟨p.B, 0, none⟩)] w fun e w' => e = .returned (.tuple #[]) ∧ S (advM M Y y m).1 (advM M Y y m).2 (wkT a p.n (advM M Y y m).1 (advM M Y y m).2) w' := by
 obtain ⟨y', hy'⟩ : ∃ y', y' = (advM M Y y m).1 := ⟨_, rfl⟩
 obtain ⟨m', hm'⟩ : ∃ m', m' = (advM M Y y m).2 := ⟨_, rfl⟩
 have hbd := advM_bd hLs hs.y0 y9 hs.m0 hs.m1
 rw [← hy', ← hm'] at hbd ⊢
 have HADV : Hid (∀ W, S y m 0 W → Calls Tryz.prog 205 #[.pointer (some ⟨p.B, 0, none⟩)] W fun e w' => e = .returned (.tuple #[]) ∧ S y' m' 0 w') := fun W hW => by
  rw [hy', hm']
  exact day_adv hS y m 0 hs.y0 y9 hs.m0 hs.m1 W hW
 have hTb := wkT_bd (y := y') (m := m') ha
 have hy1 := hs.y1
 have HREC : Hid (∀ W, S y' m' 0 W → Calls Tryz.prog 195 #[.pointer (some ⟨p.B, 0, none⟩)] W fun e w' => e = .returned (.tuple #[]) ∧ S y' m' (wkT a p.n y' m') w') := fun W hW =>
  week_low hS a hn hD ha ha1 y' m' 0 ⟨hbd.1, by omega, hbd.2.2.1, hbd.2.2.2, by omega, by omega⟩ W hW (by omega)
 generalize wkT a p.n y' m' = t' at *
 clear hTb hbd hy' hm' hLs
 have hb := Cal.mlen_bd y m
 obtain ⟨y0, y1, m0, m1, dd0, dd1⟩ := hs
 obtain ⟨g, haD⟩ : ∃ g, p.aD = some ⟨g, 0, none⟩ := by
  obtain ⟨g, hg, _⟩ := (hS.at_ _ _ _ _ h).ls (by intro e; rw [e] at hD; cases hD)
  exact ⟨g, hg⟩
 have HCC : Hid (∀ y m d W, S y m d W → W.cell? ⟨p.B, 5, none⟩ = some (.int .i64 p.n) ∧ W.cell? ⟨p.B, 6, none⟩ = some (.iface 146 (.pointer (some ⟨p.M, 0, none⟩))) ∧ W.cell? ⟨p.B, 7, none⟩ = some (.iface 146 (.pointer (some ⟨p.Y, 0, none⟩))) ∧
  W.cell? ⟨p.B, 3, none⟩ = some (.slice (some ⟨g, 0, none⟩) p.D.length p.cD) ∧ W.cell? ⟨g, 0, none⟩ = some (.int .i64 a) ∧ W.cell? ⟨p.B, 0, none⟩ = some (.int .i64 d) ∧ W.frozen? ⟨p.B, 0, none⟩ = false ∧ W.cell? ⟨p.M, 0, none⟩ = some (.int .i64 m) ∧ W.cell? ⟨p.Y, 0, none⟩ = some (.int .i64 y)) := fun y m d W hW => by
  have hat := hS.at_ _ _ _ _ hW
  have h3 := hat.dv
  rw [haD] at h3
  obtain ⟨g', hg', hcell⟩ := hat.ls (by intro e; rw [e] at hD; cases hD)
  rw [haD] at hg'
  injection hg' with hg'
  injection hg' with hg'
  subst hg'
  refine ⟨hat.n, hat.mo, hat.yr, h3, hcell 0 a ?_, hat.d, hat.fz, hat.m, hat.y⟩
  cases hp : p.D with
  | nil => rw [hp] at hD; cases hD
  | cons b t => rw [hp] at hD; simpa using hD
 have hpos : 0 < p.D.length := by cases hp : p.D with
  | nil => rw [hp] at hD; cases hD
  | cons b t => simp
 obtain ⟨dt, hdt⟩ : ∃ dt, dt = if p.n = 3 then Cal.mlen y m else if a > Cal.mlen y m then Cal.mlen y m else a := ⟨_, rfl⟩
 have hdtb : 1 ≤ dt ∧ dt ≤ Cal.mlen y m := by
  rw [hdt]; split
  ·omega
  ·have h1 : 1 ≤ a := by rcases ha with h | h; contradiction; exact h
   split <;> omega
 have hT : wkT a p.n y m = Csm.closestW y m dt := by
  unfold wkT; rw [hdt]; split <;> rfl
 rw [hT] at hlt
 try rw [hT]
 have HLD : Hid (∀ W, S y m d W → Calls Tryz.prog 210 #[.int .i64 y, .int .i64 m] W fun e w' => e = .returned (.int .i64 (Cal.mlen y m)) ∧ S y m d w') := fun W hW => by
  refine (last_day y m y0 (by omega) m0 m1 W).mono ?_
  rintro e w' ⟨rfl, x⟩
  exact ⟨rfl, hS.ext _ _ _ _ _ hW x⟩
 have HMK : Hid (∀ W, S y m d W → Calls Tryz.prog 145 #[.int .i64 y, .int .i64 m, .int .i64 dt] W fun e w' => e = .returned (.agg #[.int .i64 (Cal.dayNum y m dt)]) ∧ S y m d w') := fun W hW => by
  refine (make_date y m dt (by omega) (by omega) (by omega) (by omega) (by omega) (by omega) W).mono ?_
  rintro e w' ⟨rfl, x⟩
  exact ⟨rfl, hS.ext _ _ _ _ _ hW x⟩
 have HCL : Hid (∀ W, S y m d W → Calls Tryz.prog 211 #[.agg #[.int .i64 (Cal.dayNum y m dt)]] W fun e w' => e = .returned (.int .i64 (Csm.closestW y m dt)) ∧ S y m d w') := fun W hW => by
  refine (closest_any y m dt y0 y1 m0 m1 hdtb.1 hdtb.2 W).mono ?_
  rintro e w' ⟨rfl, x⟩
  exact ⟨rfl, hS.ext _ _ _ _ _ hW x⟩
 have HSET : Hid (∀ v W, S y m d W → S y m v (W.setCell ⟨p.B, 0, none⟩ (.int .i64 v))) := fun v W hW => (hS.nD y m).set d v W hW
 have HEX : Hid (∀ o W, S y m d W → S y m d (W.alloc o)) := fun o W hW => hS.ext _ _ _ _ _ hW (Ext.alloc _ _)
 have hcase : (p.n = 2 ∧ ¬ a > Cal.mlen y m ∧ dt = a) ∨ (p.n = 2 ∧ a > Cal.mlen y m ∧ dt = Cal.mlen y m) ∨ (p.n = 3 ∧ ¬ a > Cal.mlen y m ∧ dt = Cal.mlen y m) ∨ (p.n = 3 ∧ a > Cal.mlen y m ∧ dt = Cal.mlen y m) := by
  rcases hn with h | h
  ·rw [if_neg (by omega)] at hdt
   by_cases hg : a > Cal.mlen y m
   ·rw [if_pos hg] at hdt; exact .inr (.inl ⟨h, hg, hdt⟩)
   ·rw [if_neg hg] at hdt; exact .inl ⟨h, hg, hdt⟩
  ·rw [if_pos h] at hdt
   by_cases hg : a > Cal.mlen y m
   ·exact .inr (.inr (.inr ⟨h, hg, hdt⟩))
   ·exact .inr (.inr (.inl ⟨h, hg, hdt⟩))
 generalize Csm.closestW y m dt = t at *
 generalize Cal.dayNum y m dt = k at *
 generalize p.D.length = nD at *
 generalize Cal.mlen y m = L at *
 generalize p.n = n at *
 have v1 := m_value ⟨p.M, 0, none⟩
 have v2 := m_value ⟨p.Y, 0, none⟩
 have u1 : bits BinOp.and IntKind.i64 2 1 = 0 := by decide +kernel
 have u2 : bits BinOp.and IntKind.i64 3 1 = 1 := by decide +kernel
 obtain ⟨a0, a1⟩ := ha1
 have H := Lib.hid h
 clear h hS hdt hD haD hT hn ha
 rcases hcase with ⟨hn, hg, hdl⟩ | ⟨hn, hg, hdl⟩ | ⟨hn, hg, hdl⟩ | ⟨hn, hg, hdl⟩
 all_goals (
  subst hn
  rw [hdl] at HMK
  clear hdl
  obtain ⟨c5, c6, c7, c3, ca, cd, cf, cm, cy⟩ := HCC.out _ _ _ _ H.out
  have HM := Lib.hid cm
  have HY := Lib.hid cy
  clear cm cy
  go_enter Tryz.func195, Tryz.ntmps195
  go_wp2_with fail
  go_at_call 167
  refine (node_value p.Y y _ HY.out).mono ?_
  rintro e w1 ⟨rfl, rfl⟩
  go_wp2_with fail
  go_at_call 167
  refine (node_value p.M m _ HM.out).mono ?_
  rintro e w1 ⟨rfl, rfl⟩
  clear c5 c6 c7 c3 ca cd cf
  go_wp2_with fail
  go_at_call 210
  refine (HLD.out _ H.out).mono ?_
  rintro e w2 ⟨rfl, h2⟩
  obtain ⟨c5, c6, c7, c3, ca, cd, cf, cm, cy⟩ := HCC.out _ _ _ _ h2
  have H2 := Lib.hid h2
  clear h2 cm cy
  go_wp2_with fail
  go_at_call 145
  refine (HMK.out _ H2.out).mono ?_
  rintro e w3 ⟨rfl, h3⟩
  have H3 := Lib.hid (HEX.out (.cells #[.int .i64 k] 170) _ h3)
  clear h3 c5 c6 c7 c3 ca cd cf
  go_wp2_with fail
  go_at_call 211
  refine (HCL.out _ H3.out).mono ?_
  rintro e w4 ⟨rfl, h4⟩
  obtain ⟨c5, c6, c7, c3, ca, cd, cf, cm, cy⟩ := HCC.out _ _ _ _ h4
  have H5 := Lib.hid (HSET.out 0 _ h4)
  clear h4 cm cy
  go_wp2_with fail
  go_at_call 205
  refine (HADV.out _ H5.out).mono ?_
  rintro e w6 ⟨rfl, h6⟩
  have H6 := Lib.hid h6
  clear h6
  go_wp2_with fail
  go_at_call 195
  refine (HREC.out _ H6.out).mono ?_
  rintro e w7 ⟨rfl, h7⟩
  have H7 := Lib.hid h7
  clear h7
  go_wp2_with fail
  refine bodyPost_ret (results_none rfl _ _ _) rfl ?_
  exact ⟨rfl, H7.out⟩)
end Go.Proofs.YtmaffdhcmdhjfaaGreatDoor
