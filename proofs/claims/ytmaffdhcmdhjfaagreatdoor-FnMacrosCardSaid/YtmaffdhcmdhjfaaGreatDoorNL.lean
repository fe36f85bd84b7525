/- The calendar in plain numbers. The machine of package csm as plain functions; its steps. The machine comes to the least instant that fits, or to none. -/
import Derived.Test.YtmaffdhcmdhjfaaGreatDoorNA
set_option linter.unusedSimpArgs false
set_option linter.unusedVariables false
namespace Go.Proofs.YtmaffdhcmdhjfaaGreatDoor.Cal
def leap (y : Int) : Bool := y % 4 == 0 && (y % 100 != 0 || y % 400 == 0)
theorem leap_iff (y : Int) : leap y = true ↔ (y % 4 = 0 ∧ (y % 100 ≠ 0 ∨ y % 400 = 0)) := by
 simp [leap]
def mlen (y m : Int) : Int :=
 if m = 2 then (if leap y then 29 else 28) else if m = 4 ∨ m = 6 ∨ m = 9 ∨ m = 11 then 30 else 31
theorem mlen_bd (y m : Int) : 28 ≤ mlen y m ∧ mlen y m ≤ 31 := by
 unfold mlen; repeat' split
 all_goals omega
def dayNum (year month day : Int) : Int :=
 let m0 := month - 1
 let y0 := year + m0 / 12
 let m1 := m0 - m0 / 12 * 12
 let y := if m1 < 2 then y0 - 1 else y0
 let m := if m1 < 2 then m1 + 10 else m1 - 2
 let era := y / 400
 let off := y - era * 400
 era * 146097 + off * 365 + off / 4 - off / 100 + (153 * m + 2) / 5 + day - 1 - 719468
def civil (n : Int) : Int × Int × Int :=
 let z := n + 719468
 let era := z / 146097
 let off := z - era * 146097
 let y := (off - off / 1460 + off / 36524 - off / 146096) / 365
 let doy := off - (365 * y + y / 4 - y / 100)
 let m := (5 * doy + 2) / 153
 let day := doy - (153 * m + 2) / 5 + 1
 let y := y + era * 400
 if m < 10 then (y, m + 3, day) else (y + 1, m - 9, day)
theorem yoe' (c q r doy x : Int) (h0 : 0 ≤ c) (h1 : c ≤ 3) (q0 : 0 ≤ q) (q1 : q ≤ 24) (r0 : 0 ≤ r) (r1 : r ≤ 3) (d0 : 0 ≤ doy) (d1 : doy ≤ 365) (d2 : doy = 365 → r = 3 ∧ (q < 24 ∨ c = 3)) (hx : x = 36524*c+1461*q+365*r + doy) :
 (x - x/1460 + x/36524 - x/146096)/365 = 100*c+4*q+r := by
 have hc : c = 0 ∨ c = 1 ∨ c = 2 ∨ c = 3 := by omega
 have hr : r = 0 ∨ r = 1 ∨ r = 2 ∨ r = 3 := by omega
 by_cases hl : x = 146096
 ·subst hl; omega
 ·have e3 : x/146096 = 0 := by rcases hc with rfl | rfl | rfl | rfl <;> omega
  have e2 : x/36524 = c := by rcases hc with rfl | rfl | rfl | rfl <;> omega
  rw [e2, e3]
  have e1 : x/1460 = 25*c+q ∨ x/1460 = 25*c+q+1 := by rcases hc with rfl | rfl | rfl | rfl <;> omega
  rcases e1 with e1 | e1 <;> rw [e1]
  ·omega
  ·rcases hc with rfl | rfl | rfl | rfl <;> rcases hr with rfl | rfl | rfl | rfl <;> omega
theorem yoe (y doy : Int) (h0 : 0 ≤ y) (h1 : y ≤ 399) (d0 : 0 ≤ doy) (d1 : doy ≤ 365) (d2 : doy = 365 → (y+1)%4 = 0 ∧ ((y+1)%100 ≠ 0 ∨ y = 399)) (x : Int) (hx : x = 365*y + y/4 - y/100 + doy) :
 (x - x/1460 + x/36524 - x/146096)/365 = y := by
 obtain ⟨c, hc⟩ : ∃ c, c = y/100 := ⟨_, rfl⟩
 obtain ⟨q, hq⟩ : ∃ q, q = (y - 100*c)/4 := ⟨_, rfl⟩
 obtain ⟨r, hr⟩ : ∃ r, r = y - 100*c - 4*q := ⟨_, rfl⟩
 rw [yoe' c q r doy x (by omega) (by omega) (by omega) (by omega) (by omega) (by omega) d0 d1 (by omega) (by omega)]
 omega
theorem civil_of (y m d : Int) (hm0 : 0 ≤ m) (hm1 : m ≤ 11) (hd0 : 0 ≤ d) (hd1 : (153 * m + 2) / 5 + d < (153 * (m + 1) + 2) / 5) (hd2 : (153 * m + 2) / 5 + d ≤ 364 ∨ ((153 * m + 2) / 5 + d = 365 ∧ leap (y + 1) = true)) :
 civil (y / 400 * 146097 + (y - y / 400 * 400) * 365 + (y - y / 400 * 400) / 4 - (y - y / 400 * 400) / 100 + (153 * m + 2) / 5 + d - 719468) = if m < 10 then (y, m + 3, d + 1) else (y + 1, m - 9, d + 1) := by
 obtain ⟨era, he⟩ : ∃ era, era = y / 400 := ⟨_, rfl⟩
 obtain ⟨o, ho⟩ : ∃ o, o = y - era * 400 := ⟨_, rfl⟩
 have o0 : 0 ≤ o := by omega
 have o1 : o ≤ 399 := by omega
 obtain ⟨doy, hdoy⟩ : ∃ doy, doy = (153 * m + 2) / 5 + d := ⟨_, rfl⟩
 have doy0 : 0 ≤ doy := by omega
 have d365 : doy = 365 → (o+1)%4 = 0 ∧ ((o+1)%100 ≠ 0 ∨ o = 399) := by
  intro h
  have hl : leap (y + 1) = true := by
   rcases hd2 with h2 | h2
   ·omega
   ·exact h2.2
  rw [leap_iff] at hl
  omega
 obtain ⟨x, hx⟩ : ∃ x, x = 365*o + o/4 - o/100 + doy := ⟨_, rfl⟩
 have hyoe := yoe o doy o0 o1 doy0 (by omega) d365 x hx
 have x0 : 0 ≤ x := by omega
 have x1 : x ≤ 146096 := by
  by_cases h365 : doy = 365
  ·have := d365 h365; omega
  ·omega
 have e1 : (y / 400 * 146097 + (y - y / 400 * 400) * 365 + (y - y / 400 * 400) / 4 - (y - y / 400 * 400) / 100 + (153 * m + 2) / 5 + d - 719468) + 719468 = era * 146097 + x := by
  rw [← he, ← ho, hx, hdoy]; omega
 have e2 : (era * 146097 + x) / 146097 = era := by omega
 have e3 : era * 146097 + x - era * 146097 = x := by omega
 unfold civil
 simp only [e1, e2, e3, hyoe]
 have e4 : x - (365 * o + o / 4 - o / 100) = doy := by omega
 simp only [e4]
 have e5 : (5 * doy + 2) / 153 = m := by
  have : m = 0 ∨ m = 1 ∨ m = 2 ∨ m = 3 ∨ m = 4 ∨ m = 5 ∨ m = 6 ∨ m = 7 ∨ m = 8 ∨ m = 9 ∨ m = 10 ∨ m = 11 := by omega
  rcases this with rfl | rfl | rfl | rfl | rfl | rfl | rfl | rfl | rfl | rfl | rfl | rfl <;> omega
 simp only [e5]
 have e6 : o + era * 400 = y := by omega
 have e7 : doy - (153 * m + 2) / 5 + 1 = d + 1 := by omega
 simp only [e6, e7]
structure Valid (y m d : Int) : Prop where
 m1 : 1 ≤ m
 m12 : m ≤ 12
 d1 : 1 ≤ d
 dl : d ≤ mlen y m
theorem months {m : Int} (h1 : 1 ≤ m) (h2 : m ≤ 12) : m = 1 ∨ m = 2 ∨ m = 3 ∨ m = 4 ∨ m = 5 ∨ m = 6 ∨ m = 7 ∨ m = 8 ∨ m = 9 ∨ m = 10 ∨ m = 11 ∨ m = 12 := by omega
theorem civil_dayNum {y m d : Int} (h : Valid y m d) : civil (dayNum y m d) = (y, m, d) := by
 obtain ⟨m1, m12, d1, dl⟩ := h
 by_cases hm : m ≤ 2
 ·have e : dayNum y m d = (y-1) / 400 * 146097 + ((y-1) - (y-1) / 400 * 400) * 365 + ((y-1) - (y-1) / 400 * 400) / 4 - ((y-1) - (y-1) / 400 * 400) / 100 + (153 * (m + 9) + 2) / 5 + (d - 1) - 719468 := by
   unfold dayNum
   have a1 : (m - 1) / 12 = 0 := by omega
   simp only [a1]
   rw [if_pos (by omega), if_pos (by omega)]
   have a2 : m - 1 - 0 * 12 + 10 = m + 9 := by omega
   have a3 : y + 0 - 1 = y - 1 := by omega
   rw [a2, a3]; omega
  have hl : leap (y - 1 + 1) = leap y := by congr 1; omega
  rw [e, civil_of (y - 1) (m + 9) (d - 1) (by omega) (by omega) (by omega)]
  ·rw [if_neg (by omega)]
   congr 1
   ·omega
   ·congr 1 <;> omega
  ·rcases (show m = 1 ∨ m = 2 by omega) with rfl | rfl
   ·have : mlen y 1 = 31 := by simp [mlen]
    omega
   ·have : mlen y 2 ≤ 29 := by simp [mlen]; split <;> omega
    omega
  ·rcases (show m = 1 ∨ m = 2 by omega) with rfl | rfl
   ·have : mlen y 1 = 31 := by simp [mlen]
    omega
   ·rw [hl]
    cases hly : leap y
    ·have : mlen y 2 = 28 := by simp [mlen, hly]
     omega
    ·have : mlen y 2 = 29 := by simp [mlen, hly]
     rcases (show d ≤ 28 ∨ d = 29 by omega) with h | h
     ·omega
     ·right; exact ⟨by omega, rfl⟩
 ·have e : dayNum y m d = y / 400 * 146097 + (y - y / 400 * 400) * 365 + (y - y / 400 * 400) / 4 - (y - y / 400 * 400) / 100 + (153 * (m - 3) + 2) / 5 + (d - 1) - 719468 := by
   unfold dayNum
   have a1 : (m - 1) / 12 = 0 := by omega
   simp only [a1]
   rw [if_neg (by omega), if_neg (by omega)]
   have a2 : m - 1 - 0 * 12 - 2 = m - 3 := by omega
   have a3 : y + 0 = y := by omega
   rw [a2, a3]; omega
  rw [e, civil_of y (m - 3) (d - 1) (by omega) (by omega) (by omega)]
  ·rw [if_pos (by omega)]
   congr 1; congr 1 <;> omega
  ·rcases months m1 m12 with rfl | rfl | rfl | rfl | rfl | rfl | rfl | rfl | rfl | rfl | rfl | rfl <;> simp [mlen] at dl hm <;> omega
  ·left
   rcases months m1 m12 with rfl | rfl | rfl | rfl | rfl | rfl | rfl | rfl | rfl | rfl | rfl | rfl <;> simp [mlen] at dl hm <;> omega
theorem dayNum_add (y m d k : Int) : dayNum y m (d + k) = dayNum y m d + k := by
 simp only [dayNum]; omega
theorem dayNum_13 (y d : Int) : dayNum y 13 d = dayNum (y + 1) 1 d := by
 unfold dayNum
 simp only [show (13 - 1 : Int) / 12 = 1 by decide, show (1 - 1 : Int) / 12 = 0 by decide]
 rw [if_pos (by omega), if_pos (by omega), if_pos (by omega), if_pos (by omega)]
 simp
theorem dayNum_next {y m : Int} (h1 : 1 ≤ m) (h2 : m ≤ 11) : dayNum y (m + 1) 1 = dayNum y m 1 + mlen y m := by
 rcases (show m = 1 ∨ m = 2 ∨ m = 3 ∨ m = 4 ∨ m = 5 ∨ m = 6 ∨ m = 7 ∨ m = 8 ∨ m = 9 ∨ m = 10 ∨ m = 11 by omega) with rfl | rfl | rfl | rfl | rfl | rfl | rfl | rfl | rfl | rfl | rfl
 case inr.inl =>
  cases hl : leap y
  ·have : ¬ (y % 4 = 0 ∧ (y % 100 ≠ 0 ∨ y % 400 = 0)) := by rw [← leap_iff, hl]; simp
   simp [dayNum, mlen, hl]; omega
  ·have := (leap_iff y).1 hl
   simp [dayNum, mlen, hl]; omega
 all_goals (simp [dayNum, mlen]; try omega)
theorem dayNum_year (y : Int) : dayNum (y + 1) 1 1 = dayNum y 12 1 + 31 := by
 simp [dayNum]; omega
theorem next_day {y m d : Int} (h : Valid y m d) : ∃ y' m' d', Valid y' m' d' ∧ dayNum y' m' d' = dayNum y m d + 1 ∧ y ≤ y' ∧ y' ≤ y + 1 := by
 obtain ⟨m1, m12, d1, dl⟩ := h
 by_cases h1 : d < mlen y m
 ·exact ⟨y, m, d + 1, ⟨m1, m12, by omega, by omega⟩, dayNum_add _ _ _ _, by omega, by omega⟩
 ·have hd : d = 1 + (mlen y m - 1) := by omega
  by_cases h2 : m ≤ 11
  ·refine ⟨y, m + 1, 1, ⟨by omega, by omega, by omega, by have := mlen_bd y (m + 1); omega⟩, ?_, by omega, by omega⟩
   rw [dayNum_next m1 h2, hd, dayNum_add]; omega
  ·have : m = 12 := by omega
   subst this
   have hl : mlen y 12 = 31 := by simp [mlen]
   refine ⟨y + 1, 1, 1, ⟨by omega, by omega, by omega, by have := mlen_bd (y + 1) 1; omega⟩, ?_, by omega, by omega⟩
   rw [dayNum_year, hd, dayNum_add]; omega
theorem day_of (n : Nat) : ∃ y m d, Valid y m d ∧ dayNum y m d = n ∧ 1970 ≤ y := by
 induction n with
 | zero => exact ⟨1970, 1, 1, ⟨by omega, by omega, by omega, by decide⟩, by decide, by omega⟩
 | succ n ih =>
   obtain ⟨y, m, d, hv, hn, hy⟩ := ih
   obtain ⟨y', m', d', hv', hn', hy', _⟩ := next_day hv
   exact ⟨y', m', d', hv', by rw [hn', hn]; omega, by omega⟩
theorem civil_valid {n : Int} (h : 0 ≤ n) : ∃ y m d, civil n = (y, m, d) ∧ Valid y m d ∧ dayNum y m d = n ∧ 1970 ≤ y := by
 obtain ⟨y, m, d, hv, hn, hy⟩ := day_of n.toNat
 have e : ((n.toNat : Nat) : Int) = n := by omega
 rw [e] at hn
 exact ⟨y, m, d, by rw [← hn, civil_dayNum hv], hv, hn, hy⟩
def Lex (y m d y' m' d' : Int) : Prop := y < y' ∨ (y = y' ∧ (m < m' ∨ (m = m' ∧ d < d')))
theorem year_len (y : Int) : dayNum (y + 1) 1 1 = dayNum y 1 1 + (if leap y then 366 else 365) := by
 cases hl : leap y
 ·have : ¬ (y % 4 = 0 ∧ (y % 100 ≠ 0 ∨ y % 400 = 0)) := by rw [← leap_iff, hl]; simp
  simp [dayNum]; omega
 ·have := (leap_iff y).1 hl
  simp [dayNum]; omega
theorem year_mono (y : Int) (k : Nat) : dayNum y 1 1 + k * 365 ≤ dayNum (y + k) 1 1 := by
 induction k with
 | zero => simp
 | succ k ih =>
   have := year_len (y + k)
   have e : y + ((k + 1 : Nat) : Int) = y + k + 1 := by omega
   rw [e, this]; split <;> omega
theorem month_mono (y m : Int) (h1 : 1 ≤ m) (k : Nat) (h2 : m + k ≤ 12) : dayNum y m 1 + k * 28 ≤ dayNum y (m + k) 1 := by
 induction k with
 | zero => simp
 | succ k ih =>
   have := ih (by omega)
   have e : m + ((k + 1 : Nat) : Int) = m + k + 1 := by omega
   rw [e, dayNum_next (by omega) (by omega)]
   have := mlen_bd y (m + k)
   omega
theorem in_month {y m d m' : Int} (h : Valid y m d) (h1 : m < m') (h2 : m' ≤ 12) : dayNum y m d < dayNum y m' 1 := by
 obtain ⟨m1, m12, d1, dl⟩ := h
 have a := month_mono y (m + 1) (by omega) (m' - (m + 1)).toNat (by omega)
 have e : m + 1 + ((m' - (m + 1)).toNat : Int) = m' := by omega
 rw [e, dayNum_next m1 (by omega)] at a
 have b := dayNum_add y m 1 (d - 1)
 have e2 : 1 + (d - 1) = d := by omega
 rw [e2] at b
 omega
theorem in_year {y m d y' : Int} (h : Valid y m d) (h1 : y < y') : dayNum y m d < dayNum y' 1 1 := by
 have a := year_mono (y + 1) (y' - (y + 1)).toNat
 have e : y + 1 + ((y' - (y + 1)).toNat : Int) = y' := by omega
 rw [e] at a
 have b : dayNum y m d < dayNum (y + 1) 1 1 := by
  rw [dayNum_year]
  by_cases hm : m = 12
  ·subst hm
   have b := dayNum_add y 12 1 (d - 1)
   have e2 : 1 + (d - 1) = d := by omega
   rw [e2] at b
   have hl : mlen y 12 = 31 := by simp [mlen]
   have := h.dl
   omega
  ·have := in_month h (m' := 12) (by have := h.m12; omega) (by omega)
   omega
 omega
theorem from_first (y m d : Int) : dayNum y m d = dayNum y m 1 + (d - 1) := by
 have b := dayNum_add y m 1 (d - 1)
 have e2 : 1 + (d - 1) = d := by omega
 rw [e2] at b; exact b
theorem year_first {y m : Int} (h1 : 1 ≤ m) (h2 : m ≤ 12) : dayNum y 1 1 ≤ dayNum y m 1 := by
 have a := month_mono y 1 (by omega) (m - 1).toNat (by omega)
 have e : 1 + ((m - 1).toNat : Int) = m := by omega
 rw [e] at a; omega
theorem lex_lt {y m d y' m' d' : Int} (h : Valid y m d) (h' : Valid y' m' d') (hl : Lex y m d y' m' d') : dayNum y m d < dayNum y' m' d' := by
 have f := from_first y' m' d'
 have d1' := h'.d1
 rcases hl with hy | ⟨rfl, hm | ⟨rfl, hd⟩⟩
 ·have := in_year h hy
  have := year_first h'.m1 h'.m12 (y := y')
  omega
 ·have := in_month h hm h'.m12
  omega
 ·have := from_first y m d
  omega
theorem lex_of_lt {y m d y' m' d' : Int} (h : Valid y m d) (h' : Valid y' m' d') (hl : dayNum y m d < dayNum y' m' d') : Lex y m d y' m' d' := by
 by_cases h1 : Lex y m d y' m' d'
 ·exact h1
 ·by_cases h2 : Lex y' m' d' y m d
  ·have := lex_lt h' h h2; omega
  ·unfold Lex at h1 h2
   have : y = y' ∧ m = m' ∧ d = d' := by omega
   obtain ⟨rfl, rfl, rfl⟩ := this
   omega
end Go.Proofs.YtmaffdhcmdhjfaaGreatDoor.Cal
namespace Go.Proofs.YtmaffdhcmdhjfaaGreatDoor.Csm
open Cal
def nxt (l : List Int) (v : Int) : Option Int := l.find? (fun x => decide (v < x))
def cnext (lo hi : Int) (l : List Int) (v : Int) : Int × Bool :=
 match l with
 | [] => if v + 1 > hi then (lo, true) else (v + 1, false)
 | a :: t => match nxt (a :: t) v with | some x => (x, false) | none => (a, true)
def cvalid (lo hi : Int) (l : List Int) (v : Int) : Bool :=
 decide (lo ≤ v) && decide (v ≤ hi) && (l.isEmpty || l.contains v)
def creset (lo hi : Int) (l : List Int) : Int := (cnext lo hi l hi).1
structure Cfg where
 Y : List Int
 M : List Int
 D : List Int
 W : List Int
 n : Int
 H : List Int
 Mi : List Int
 S : List Int
def wday (y m d : Int) : Int := (dayNum y m d + 4) % 7
def isWork (y m d : Int) : Bool := decide (wday y m d ≠ 6) && decide (wday y m d ≠ 0)
def closestW (y m d : Int) : Int :=
 if isWork y m d then d
 else if 1 ≤ d - 1 ∧ isWork y m (d - 1) then d - 1
 else if d + 1 ≤ mlen y m ∧ isWork y m (d + 1) then d + 1
 else if 1 ≤ d - 2 ∧ isWork y m (d - 2) then d - 2
 else if d + 2 ≤ mlen y m ∧ isWork y m (d + 2) then d + 2
 else d
def firstW (y m w : Int) : Int := 1 + (w - wday y m 1) % 7
def dowN (y m w n : Int) : Int :=
 if 0 < n then firstW y m w + 7 * (n - 1)
 else firstW y m w + (mlen y m - firstW y m w) / 7 * 7
def tgt (c : Cfg) (y m : Int) : Int :=
 match c.W with
 | w :: _ => dowN y m w c.n
 | [] =>
   if c.n = 3 then closestW y m (mlen y m)
   else if c.n = 2 then closestW y m (match c.D with | a :: _ => if a > mlen y m then mlen y m else a | [] => mlen y m)
   else if c.n = 1 then mlen y m
   else mlen y m + c.n
def advMonth (c : Cfg) (y m : Int) : Int × Int :=
 match cnext 1 12 c.M m with
 | (m', true) => ((cnext 0 999999 c.Y y).1, m')
 | (m', false) => (y, m')
def dowOff (l : List Int) (w : Int) : Int := match nxt l w with | some v => v - w | none => 7 + l.headD 0 - w
def dayNext (c : Cfg) (y m d : Int) : (Int × Int × Int) × Bool :=
 if c.n = 0 then
  match c.W with
  | a :: t =>
    let off := dowOff (a :: t) (wday y m d)
    ((y, m, if d + off > mlen y m then d + off - mlen y m else d + off), decide (d + off > mlen y m))
  | [] => let r := cnext 1 31 c.D d; ((y, m, r.1), r.2)
 else if d ≥ tgt c y m then
  let r := advMonth c y m
  ((r.1, r.2, tgt c r.1 r.2), false)
 else ((y, m, tgt c y m), false)
def dvalid (c : Cfg) (y m d : Int) : Bool :=
 cvalid 1 31 (if c.W.isEmpty then c.D else []) d && decide (d ≤ mlen y m) &&
 match c.W with
 | a :: t => if c.n = 0 then (a :: t).contains (wday y m d) else decide (d = tgt c y m)
 | [] => if c.n = 0 then true else if c.n < 0 then decide (d = mlen y m + c.n) else if c.n = 1 then decide (d = mlen y m)
   else if c.n = 3 then decide (d = mlen y m) && isWork y m d else isWork y m d
def dayReset (c : Cfg) (y m : Int) : Int × Int × Int :=
 if dvalid c y m 1 then (y, m, 1) else (dayNext c y m 1).1
structure St where
 y : Int
 m : Int
 d : Int
 h : Int
 mi : Int
 s : Int
def resetSecs (c : Cfg) (st : St) : St := { st with s := creset 0 59 c.S }
def resetMins (c : Cfg) (st : St) : St := resetSecs c { st with mi := creset 0 59 c.Mi }
def resetHours (c : Cfg) (st : St) : St := resetMins c { st with h := creset 0 59 c.H }
def setDay (st : St) (r : Int × Int × Int) : St := { st with y := r.1, m := r.2.1, d := r.2.2 }
def resetDays (c : Cfg) (st : St) : St := resetHours c (setDay st (dayReset c st.y st.m))
def resetMonths (c : Cfg) (st : St) : St := resetDays c { st with m := creset 1 12 c.M }
def ovYears (c : Cfg) (st : St) : St :=
 let r := cnext 0 999999 c.Y st.y
 if r.2 then { st with y := r.1 } else resetMonths c { st with y := r.1 }
def ovMonths (c : Cfg) (st : St) : St :=
 let r := cnext 1 12 c.M st.m
 if r.2 then ovYears c { st with m := r.1 } else resetDays c { st with m := r.1 }
def ovDays (c : Cfg) (st : St) : St :=
 let r := dayNext c st.y st.m st.d
 if r.2 then ovMonths c (setDay st r.1) else resetHours c (setDay st r.1)
def ovHours (c : Cfg) (st : St) : St :=
 let r := cnext 0 59 c.H st.h
 if r.2 then ovDays c { st with h := r.1 } else resetMins c { st with h := r.1 }
def ovMins (c : Cfg) (st : St) : St :=
 let r := cnext 0 59 c.Mi st.mi
 if r.2 then ovHours c { st with mi := r.1 } else resetSecs c { st with mi := r.1 }
def dayRound (c : Cfg) (st : St) : St :=
 let r := dayNext c st.y st.m st.d
 let st1 := setDay st r.1
 if !r.2 then st1 else
 let r2 := cnext 1 12 c.M st1.m
 let st2 := { st1 with m := r2.1 }
 if !r2.2 then (if dvalid c st2.y st2.m st2.d then st2 else setDay st2 (dayReset c st2.y st2.m)) else
 let r3 := cnext 0 999999 c.Y st2.y
 let st3 := { st2 with y := r3.1 }
 if !r3.2 then (if dvalid c st3.y st3.m st3.d then st3 else setDay st3 (dayReset c st3.y st3.m)) else st3
def dayRounds (c : Cfg) : Nat → St → St
 | 0, st => st
 | k + 1, st => let st' := dayRound c st; if st'.d ≤ mlen st'.y st'.m then st' else dayRounds c k st'
def stepNext (c : Cfg) (st : St) : St :=
 let r := cnext 0 59 c.S st.s
 let st1 := { st with s := r.1 }
 if !r.2 then st1 else
 let r2 := cnext 0 59 c.Mi st1.mi
 let st2 := { st1 with mi := r2.1 }
 if !r2.2 then st2 else
 let r3 := cnext 0 59 c.H st2.h
 let st3 := { st2 with h := r3.1 }
 if !r3.2 then st3 else dayRounds c 40 st3
def forward (c : Cfg) (st : St) : St :=
 if !cvalid 0 999999 c.Y st.y then
  let r := cnext 0 999999 c.Y st.y
  resetMonths c { st with y := r.1 }
 else if !cvalid 1 12 c.M st.m then
  let r := cnext 1 12 c.M st.m
  let st' := resetDays c { st with m := r.1 }
  if r.2 then ovYears c st' else st'
 else if !dvalid c st.y st.m st.d then
  let r := dayNext c st.y st.m st.d
  let st' := resetHours c (setDay st r.1)
  if r.2 then ovMonths c st' else st'
 else if !cvalid 0 59 c.H st.h then
  let r := cnext 0 59 c.H st.h
  let st' := resetMins c { st with h := r.1 }
  if r.2 then ovDays c st' else st'
 else if !cvalid 0 59 c.Mi st.mi then
  let r := cnext 0 59 c.Mi st.mi
  let st' := resetSecs c { st with mi := r.1 }
  if r.2 then ovHours c st' else st'
 else if !cvalid 0 59 c.S st.s then
  let r := cnext 0 59 c.S st.s
  let st' := { st with s := r.1 }
  if r.2 then ovMins c st' else st'
 else stepNext c st
def value (st : St) : Int := ((dayNum st.y st.m st.d * 24 + st.h) * 60 + st.mi) * 60 + st.s
def InL (lo hi : Int) (l : List Int) (z : Int) : Prop := (l = [] ∧ lo ≤ z ∧ z ≤ hi) ∨ z ∈ l
structure Lst (lo hi : Int) (l : List Int) : Prop where
 sorted : l.Pairwise (· ≤ ·)
 low : ∀ z ∈ l, lo ≤ z
 high : ∀ z ∈ l, z ≤ hi
theorem nxt_some {l : List Int} {v x : Int} (hs : l.Pairwise (· ≤ ·)) (h : nxt l v = some x) : x ∈ l ∧ v < x ∧ ∀ z ∈ l, v < z → x ≤ z := by
 induction l with
 | nil => simp [nxt] at h
 | cons a t ih =>
   unfold nxt at h
   rw [List.find?_cons] at h
   rw [List.pairwise_cons] at hs
   by_cases ha : v < a
   ·simp only [ha, decide_true, Option.some.injEq] at h
    subst h
    refine ⟨by simp, ha, ?_⟩
    intro z hz _
    rcases List.mem_cons.1 hz with rfl | hz
    ·omega
    ·exact hs.1 z hz
   ·simp only [ha, decide_false] at h
    obtain ⟨h1, h2, h3⟩ := ih hs.2 h
    refine ⟨by simp [h1], h2, ?_⟩
    intro z hz hv
    rcases List.mem_cons.1 hz with rfl | hz
    ·omega
    ·exact h3 z hz hv
theorem nxt_none {l : List Int} {v : Int} (h : nxt l v = none) : ∀ z ∈ l, z ≤ v := by
 intro z hz
 unfold nxt at h
 have := List.find?_eq_none.1 h z hz
 simp at this
 exact this
theorem cnext_in {lo hi : Int} {l : List Int} {v x : Int} (hl : Lst lo hi l) (h0 : l = [] → lo - 1 ≤ v) (h : cnext lo hi l v = (x, false)) :
 InL lo hi l x ∧ v < x ∧ ∀ z, InL lo hi l z → v < z → x ≤ z := by
 unfold cnext at h
 split at h
 ·have := h0 rfl
  split at h
  ·simp at h
  ·simp only [Prod.mk.injEq, and_true] at h
   subst h
   refine ⟨.inl ⟨rfl, by omega, by omega⟩, by omega, ?_⟩
   intro z _ hv; omega
 ·rename_i a t
  split at h
  ·rename_i x' hx
   simp only [Prod.mk.injEq, and_true] at h
   subst h
   obtain ⟨h1, h2, h3⟩ := nxt_some hl.sorted hx
   refine ⟨.inr h1, h2, ?_⟩
   intro z hz hv
   rcases hz with ⟨hz, _⟩ | hz
   ·simp at hz
   ·exact h3 z hz hv
  ·simp at h
theorem cnext_over {lo hi : Int} {l : List Int} {v x : Int} (hl : Lst lo hi l) (hlh : lo ≤ hi) (h : cnext lo hi l v = (x, true)) :
 InL lo hi l x ∧ (∀ z, InL lo hi l z → z ≤ v) ∧ ∀ z, InL lo hi l z → x ≤ z := by
 unfold cnext at h
 split at h
 ·split at h
  ·simp only [Prod.mk.injEq, and_true] at h
   subst h
   refine ⟨.inl ⟨rfl, by omega, by omega⟩, ?_, ?_⟩
   ·intro z hz
    rcases hz with ⟨_, _, hz⟩ | hz
    ·omega
    ·simp at hz
   ·intro z hz
    rcases hz with ⟨_, hz, _⟩ | hz
    ·omega
    ·simp at hz
  ·simp at h
 ·rename_i a t
  split at h
  ·simp at h
  ·rename_i hn
   simp only [Prod.mk.injEq, and_true] at h
   subst h
   refine ⟨.inr (by simp), ?_, ?_⟩
   ·intro z hz
    rcases hz with ⟨hz, _⟩ | hz
    ·simp at hz
    ·exact nxt_none hn z hz
   ·intro z hz
    rcases hz with ⟨hz, _⟩ | hz
    ·simp at hz
    ·have hp := hl.sorted
     rw [List.pairwise_cons] at hp
     rcases List.mem_cons.1 hz with rfl | hz
     ·omega
     ·exact hp.1 z hz
theorem cvalid_iff {lo hi : Int} {l : List Int} {v : Int} (hl : Lst lo hi l) : cvalid lo hi l v = true ↔ InL lo hi l v := by
 unfold cvalid InL
 cases l with
 | nil => simp
 | cons a t =>
   simp only [List.isEmpty_cons, Bool.false_or, Bool.and_eq_true, decide_eq_true_eq, List.contains_iff_mem, reduceCtorEq, false_and, false_or]
   constructor
   ·exact fun h => h.2
   ·exact fun h => ⟨⟨hl.low v h, hl.high v h⟩, h⟩
theorem inL_range {lo hi : Int} {l : List Int} {v : Int} (hl : Lst lo hi l) (h : InL lo hi l v) : lo ≤ v ∧ v ≤ hi := by
 rcases h with ⟨_, h1, h2⟩ | h
 ·exact ⟨h1, h2⟩
 ·exact ⟨hl.low v h, hl.high v h⟩
theorem creset_least {lo hi : Int} {l : List Int} (hl : Lst lo hi l) (hlh : lo ≤ hi) : InL lo hi l (creset lo hi l) ∧ ∀ z, InL lo hi l z → creset lo hi l ≤ z := by
 unfold creset
 obtain ⟨x, o, h⟩ : ∃ x o, cnext lo hi l hi = (x, o) := ⟨_, _, rfl⟩
 cases o
 ·obtain ⟨h1, h2, _⟩ := cnext_in hl (by intro; omega) h
  have := (inL_range hl h1).2
  omega
 ·obtain ⟨h1, _, h3⟩ := cnext_over hl hlh h
  rw [h]; exact ⟨h1, h3⟩
theorem cnext_over_reset {lo hi : Int} {l : List Int} {v x : Int} (hl : Lst lo hi l) (hlh : lo ≤ hi) (h : cnext lo hi l v = (x, true)) : x = creset lo hi l := by
 obtain ⟨h1, _, h3⟩ := cnext_over hl hlh h
 obtain ⟨g1, g3⟩ := creset_least hl hlh
 have := h3 _ g1; have := g3 _ h1; omega
theorem wday_bd (y m d : Int) : 0 ≤ wday y m d ∧ wday y m d ≤ 6 := by unfold wday; omega
theorem wday_add (y m d k : Int) : wday y m (d + k) = (wday y m d + k) % 7 := by
 unfold wday; rw [dayNum_add]; omega
theorem wday_from (y m d e : Int) : wday y m e = (wday y m d + (e - d)) % 7 := by
 have := wday_add y m d (e - d)
 rwa [show d + (e - d) = e by omega] at this
theorem isWork_iff (y m d : Int) : isWork y m d = true ↔ (wday y m d ≠ 6 ∧ wday y m d ≠ 0) := by
 simp [isWork]
theorem firstW_bd (y m w : Int) : 1 ≤ firstW y m w ∧ firstW y m w ≤ 7 := by unfold firstW; omega
theorem wday_iff {y m w d : Int} (h0 : 0 ≤ w) (h6 : w ≤ 6) : wday y m d = w ↔ (d - firstW y m w) % 7 = 0 := by
 have h := wday_from y m 1 d
 have hb := wday_bd y m 1
 unfold firstW
 omega
theorem dowN_nth {y m w n d : Int} (h0 : 0 ≤ w) (h6 : w ≤ 6) (h1 : 1 ≤ n) (hd : 1 ≤ d) :
 (wday y m d = w ∧ (d - 1) / 7 + 1 = n) ↔ d = dowN y m w n := by
 have hf := firstW_bd y m w
 rw [wday_iff h0 h6]
 unfold dowN
 rw [if_pos (by omega)]
 omega
theorem dowN_last {y m w d : Int} (h0 : 0 ≤ w) (h6 : w ≤ 6) (hd : 1 ≤ d) (hl : d ≤ mlen y m) :
 (wday y m d = w ∧ d + 7 > mlen y m) ↔ d = dowN y m w (-1) := by
 have hf := firstW_bd y m w
 have hb := mlen_bd y m
 rw [wday_iff h0 h6]
 unfold dowN
 rw [if_neg (by omega)]
 omega
theorem dowN_bd {y m w n : Int} (hn : n = -1 ∨ (1 ≤ n ∧ n ≤ 4)) : 1 ≤ dowN y m w n ∧ dowN y m w n ≤ mlen y m := by
 have hf := firstW_bd y m w
 have hb := mlen_bd y m
 unfold dowN
 split <;> omega
theorem closest_cases (y m d : Int) (h1 : 1 ≤ d) (hl : d ≤ mlen y m) (hm : 28 ≤ mlen y m) :
 1 ≤ closestW y m d ∧ closestW y m d ≤ mlen y m ∧ isWork y m (closestW y m d) = true ∧ d - 2 ≤ closestW y m d ∧ closestW y m d ≤ d + 2 ∧
 (closestW y m d = 1 → d = 1 ∨ d = 2) := by
 have w := wday_bd y m d
 have a1 := wday_from y m d (d - 1)
 have a2 := wday_from y m d (d + 1)
 have a3 := wday_from y m d (d - 2)
 have a4 := wday_from y m d (d + 2)
 unfold closestW
 simp only [isWork_iff]
 split
 ·rename_i h; exact ⟨h1, hl, h, by omega, by omega, by omega⟩
 ·split
  ·rename_i h; exact ⟨h.1, by omega, h.2, by omega, by omega, by omega⟩
  ·split
   ·rename_i h; exact ⟨by omega, h.1, h.2, by omega, by omega, by omega⟩
   ·split
    ·rename_i h; exact ⟨h.1, by omega, h.2, by omega, by omega, by omega⟩
    ·split
     ·rename_i h; exact ⟨by omega, h.1, h.2, by omega, by omega, by omega⟩
     ·omega
structure Good (c : Cfg) : Prop where
 hY : Lst 0 999999 c.Y
 hM : Lst 1 12 c.M
 hH : Lst 0 23 c.H
 kH : c.H = [] → c.M = [] ∧ c.Y = [] ∧ c.D = [] ∧ c.W = [] ∧ c.n = 0
 hMi : Lst 0 59 c.Mi
 hS : Lst 0 59 c.S
 hD : c.W = [] → c.n = 0 → Lst 1 28 c.D
 hW : Lst 0 6 c.W
 kW : c.W ≠ [] → c.D = [] ∧ ((c.n = 0 ∧ (c.W.length ≤ 1 ∨ (c.M = [] ∧ c.Y = []))) ∨ ((∃ w, c.W = [w]) ∧ (c.n = -1 ∨ (1 ≤ c.n ∧ c.n ≤ 4))))
 kD : c.W = [] → c.n = 0 ∨ (c.n = 1 ∧ c.D = []) ∨ (-27 ≤ c.n ∧ c.n ≤ -1 ∧ c.D = []) ∨ (c.n = 2 ∧ ∃ a, c.D = [a] ∧ 1 ≤ a ∧ a ≤ 28 ∧ a ≠ 2) ∨ (c.n = 3 ∧ c.D = [0])
theorem tgt_bd {c : Cfg} (g : Good c) (hn : c.n ≠ 0) (y m : Int) : 1 ≤ tgt c y m ∧ tgt c y m ≤ mlen y m := by
 have hb := mlen_bd y m
 unfold tgt
 split
 ·rename_i w t hw
  have := (g.kW (by simp [hw])).2
  rcases this with ⟨h, _⟩ | ⟨_, h⟩
  ·exact absurd h hn
  ·exact dowN_bd h
 ·rename_i hw
  rcases g.kD hw with h | ⟨h, _⟩ | ⟨h, h', _⟩ | ⟨h, a, ha, h1, h2, _⟩ | ⟨h, _⟩
  ·exact absurd h hn
  ·simp [h]; omega
  ·rw [if_neg (by omega), if_neg (by omega), if_neg (by omega)]; omega
  ·rw [if_neg (by omega), if_pos h]
   simp only [ha]
   split
   ·have := closest_cases y m (mlen y m) (by omega) (by omega) hb.1; exact ⟨this.1, this.2.1⟩
   ·have := closest_cases y m a (by omega) (by omega) hb.1; exact ⟨this.1, this.2.1⟩
  ·rw [if_pos h]
   have := closest_cases y m (mlen y m) (by omega) (by omega) hb.1; exact ⟨this.1, this.2.1⟩
def dfit (c : Cfg) (y m d : Int) : Prop :=
 if c.n = 0 then (match c.W with | a :: t => wday y m d ∈ (a :: t) | [] => InL 1 31 c.D d) else d = tgt c y m
theorem dow_next {l : List Int} (hl : Lst 0 6 l) (hne : l ≠ []) {y m d : Int} {off : Int}
 (ho : off = dowOff l (wday y m d)) :
 1 ≤ off ∧ off ≤ 7 ∧ wday y m (d + off) ∈ l ∧ ∀ e, d < e → e < d + off → wday y m e ∉ l := by
 have w := wday_bd y m d
 unfold dowOff at ho
 cases hn : nxt l (wday y m d) with
 | some v =>
   rw [hn] at ho
   simp only at ho
   obtain ⟨h1, h2, h3⟩ := nxt_some hl.sorted hn
   have hv := hl.high v h1
   refine ⟨by omega, by omega, ?_, ?_⟩
   ·have e := wday_add y m d off
    have : wday y m (d + off) = v := by omega
    rw [this]; exact h1
   ·intro e he1 he2 hmem
    have e1 := wday_from y m d e
    have := h3 _ hmem (by omega)
    omega
 | none =>
   rw [hn] at ho
   simp only at ho
   have hmax := nxt_none hn
   cases l with
   | nil => exact absurd rfl hne
   | cons a t =>
     simp only [List.headD_cons] at ho
     have ha := hmax a (by simp)
     have ha0 := hl.low a (by simp)
     have hs := hl.sorted
     rw [List.pairwise_cons] at hs
     refine ⟨by omega, by omega, ?_, ?_⟩
     ·have e := wday_add y m d off
      have : wday y m (d + off) = a := by omega
      rw [this]; simp
     ·intro e he1 he2 hmem
      have e1 := wday_from y m d e
      have hle := hmax _ hmem
      have hge : a ≤ wday y m e := by
       rcases List.mem_cons.1 hmem with h | h
       ·omega
       ·exact hs.1 _ h
      omega
theorem isEmpty_eq_true' {l : List Int} : l.isEmpty = true ↔ l = [] := by cases l <;> simp
inductive DayRes (c : Cfg) (y m d : Int) : ((Int × Int × Int) × Bool) → Prop where
 | go (d' : Int) : d < d' → d' ≤ mlen y m → dfit c y m d' → (∀ e, d < e → e < d' → ¬ dfit c y m e) → DayRes c y m d ((y, m, d'), false)
 | past : c.n = 0 → c.W = [] → c.D = [] → d = mlen y m → d < 31 → DayRes c y m d ((y, m, d + 1), false)
 | adv : c.n ≠ 0 → tgt c y m ≤ d → DayRes c y m d (((advMonth c y m).1, (advMonth c y m).2, tgt c (advMonth c y m).1 (advMonth c y m).2), false)
 | over (d' : Int) : c.n = 0 → (∀ e, d < e → e ≤ mlen y m → ¬ dfit c y m e) → 1 ≤ d' → d' ≤ d → d' ≤ 28 →
    (c.W = [] → d' = creset 1 31 c.D) → (c.W ≠ [] → d' ≤ 7 ∧ 21 < d ∧ wday y m (d' + mlen y m) ∈ c.W ∧ ∀ e, mlen y m < e → e < d' + mlen y m → wday y m e ∉ c.W) → DayRes c y m d ((y, m, d'), true)
theorem lst_31 {l : List Int} (h : Lst 1 28 l) : Lst 1 31 l := ⟨h.sorted, h.low, fun z hz => by have := h.high z hz; omega⟩
theorem dayNext_res {c : Cfg} (g : Good c) {y m d : Int} (hv : Valid y m d) : DayRes c y m d (dayNext c y m d) := by
 have hb := mlen_bd y m
 obtain ⟨m1, m12, d1, dl⟩ := hv
 unfold dayNext
 by_cases hn : c.n = 0
 ·rw [if_pos hn]
  cases hw : c.W with
  | nil =>
    have hD := g.hD hw hn
    obtain ⟨x, o, hx⟩ : ∃ x o, cnext 1 31 c.D d = (x, o) := ⟨_, _, rfl⟩
    simp only [hx]
    cases o
    ·obtain ⟨h1, h2, h3⟩ := cnext_in (lst_31 hD) (by intro; omega) hx
     have hxd : ∀ e, InL 1 31 c.D e ↔ dfit c y m e := by intro e; simp [dfit, hn, hw]
     by_cases hxl : x ≤ mlen y m
     ·refine .go x h2 hxl ((hxd x).1 h1) ?_
      intro e he1 he2 hf
      have := h3 e ((hxd e).2 hf) he1; omega
     ·rcases h1 with ⟨h0, _, hx31⟩ | h1
      ·have hx1 : x = d + 1 := by
        have := h3 (d + 1) (.inl ⟨h0, by omega, by omega⟩) (by omega); omega
       subst hx1
       exact .past hn hw h0 (by omega) (by omega)
      ·have := hD.high x h1; omega
    ·obtain ⟨h1, h2, h3⟩ := cnext_over (lst_31 hD) (by omega) hx
     have hr := cnext_over_reset (lst_31 hD) (by omega) hx
     have hx28 : x ≤ 28 := by
      rcases h1 with ⟨h0, _⟩ | h1
      ·have := h3 1 (.inl ⟨h0, by omega, by omega⟩); omega
      ·exact hD.high x h1
     have hr1 := inL_range (lst_31 hD) h1
     refine .over x hn ?_ hr1.1 (h2 x h1) hx28 (fun _ => hr) (fun h => absurd hw h)
     intro e he1 he2 hf
     have := h2 e (by simpa [dfit, hn, hw] using hf)
     omega
  | cons a t =>
    have hW := g.hW
    rw [hw] at hW
    simp only
    obtain ⟨off, ho⟩ : ∃ off, off = dowOff (a :: t) (wday y m d) := ⟨_, rfl⟩
    obtain ⟨o1, o7, hin, hout⟩ := dow_next hW (by simp) (y := y) (m := m) (d := d) (off := off) ho
    rw [← ho]
    have hfit : ∀ e, wday y m e ∈ (a :: t) ↔ dfit c y m e := by intro e; simp [dfit, hn, hw]
    by_cases hx : d + off > mlen y m
    ·simp only [hx, if_true, decide_true]
     refine .over _ hn ?_ (by omega) (by omega) (by omega) (fun h => by simp [hw] at h) (fun _ => ⟨by omega, by omega, ?_, ?_⟩)
     ·intro e he1 he2 hf
      exact hout e he1 (by omega) ((hfit e).2 hf)
     ·rw [hw, show d + off - mlen y m + mlen y m = d + off by omega]; exact hin
     ·intro e he1 he2
      rw [hw]; exact hout e (by omega) (by omega)
    ·simp only [hx, if_false, decide_false]
     refine .go _ (by omega) (by omega) ((hfit _).1 hin) ?_
     intro e he1 he2 hf
     exact hout e he1 he2 ((hfit e).2 hf)
 ·rw [if_neg hn]
  have ht := tgt_bd g hn y m
  by_cases hd : d ≥ tgt c y m
  ·simp only [hd, if_true]
   exact .adv hn hd
  ·simp only [hd, if_false]
   refine .go _ (by omega) ht.2 (by simp [dfit, hn]) ?_
   intro e he1 he2 hf
   simp [dfit, hn] at hf
   omega
def FirstDay (c : Cfg) (y m d : Int) : Prop := 1 ≤ d ∧ d ≤ mlen y m ∧ dfit c y m d ∧ ∀ e, 1 ≤ e → e < d → ¬ dfit c y m e
theorem dvalid_imp {c : Cfg} (g : Good c) {y m d : Int} (h : dvalid c y m d = true) : 1 ≤ d ∧ d ≤ mlen y m ∧ dfit c y m d := by
 have hb := mlen_bd y m
 unfold dvalid at h
 simp only [Bool.and_eq_true, decide_eq_true_eq] at h
 obtain ⟨⟨h1, h2⟩, h3⟩ := h
 cases hw : c.W with
 | cons a t =>
   rw [hw] at h3 h1
   simp only [List.isEmpty_cons] at h1
   have h11 : 1 ≤ d := by simp [cvalid] at h1; exact h1.1
   refine ⟨h11, h2, ?_⟩
   unfold dfit
   by_cases hn : c.n = 0
   ·rw [if_pos hn, hw]
    simp only [hn, if_true] at h3
    simpa using h3
   ·rw [if_neg hn]
    simp only [hn, if_false] at h3
    simpa using h3
 | nil =>
   rw [hw] at h3 h1
   simp only [List.isEmpty_nil, if_true] at h1
   have h11 : 1 ≤ d := by simp [cvalid] at h1; exact h1.1.1
   refine ⟨h11, h2, ?_⟩
   unfold dfit
   by_cases hn : c.n = 0
   ·rw [if_pos hn, hw]
    simp only
    exact (cvalid_iff (lst_31 (g.hD hw hn))).1 h1
   ·rw [if_neg hn]
    simp only [hn, if_false] at h3
    unfold tgt
    rw [hw]
    simp only
    rcases g.kD hw with hk | ⟨hk, hD⟩ | ⟨hk, hk', hD⟩ | ⟨hk, a, hD, ha1, ha28, ha2⟩ | ⟨hk, hD⟩
    ·exact absurd hk hn
    ·simp [hk] at h3 ⊢; exact h3
    ·rw [if_neg (by omega), if_neg (by omega), if_neg (by omega)]
     rw [if_pos (by omega)] at h3
     simpa using h3
    ·rw [if_neg (by omega), if_pos hk]
     rw [if_neg (by omega), if_neg (by omega), if_neg (by omega)] at h3
     rw [hD] at h1
     have hda : d = a := by simp [cvalid] at h1; exact h1.2
     subst hda
     rw [hD]
     simp only
     rw [if_neg (by omega)]
     unfold closestW
     rw [if_pos h3]
    ·rw [hD] at h1
     simp [cvalid] at h1
     omega
theorem dvalid_of {c : Cfg} (g : Good c) {y m d : Int} (h1 : 1 ≤ d) (h2 : d ≤ mlen y m) (hf : dfit c y m d) (hk : c.W = [] → c.n = 3 → False) (hk2 : c.W = [] → c.n = 2 → c.D = [d]) :
 dvalid c y m d = true := by
 have hb := mlen_bd y m
 unfold dvalid
 simp only [Bool.and_eq_true, decide_eq_true_eq]
 unfold dfit at hf
 cases hw : c.W with
 | cons a t =>
   simp only [List.isEmpty_cons]
   refine ⟨⟨by simp [cvalid]; omega, h2⟩, ?_⟩
   by_cases hn : c.n = 0
   ·rw [if_pos hn, hw] at hf
    simp only [hn, if_true]
    simpa using hf
   ·rw [if_neg hn] at hf
    simp only [hn, if_false]
    simpa using hf
 | nil =>
   simp only [List.isEmpty_nil, if_true]
   by_cases hn : c.n = 0
   ·rw [if_pos hn, hw] at hf
    simp only at hf
    refine ⟨⟨(cvalid_iff (lst_31 (g.hD hw hn))).2 hf, h2⟩, ?_⟩
    rw [if_pos hn]
   ·rw [if_neg hn] at hf
    unfold tgt at hf
    rw [hw] at hf
    simp only at hf
    rw [if_neg hn]
    rcases g.kD hw with hk' | ⟨hk', hD⟩ | ⟨hk', hk'', hD⟩ | ⟨hk', a, hD, ha1, ha28, ha2⟩ | ⟨hk', hD⟩
    ·exact absurd hk' hn
    ·rw [if_neg (by omega), if_neg (by omega), if_pos hk'] at hf
     rw [hD, if_neg (by omega), if_pos hk']
     refine ⟨⟨by simp [cvalid]; omega, h2⟩, by simpa using hf⟩
    ·rw [if_neg (by omega), if_neg (by omega), if_neg (by omega)] at hf
     rw [hD, if_pos (by omega)]
     refine ⟨⟨by simp [cvalid]; omega, h2⟩, by simpa using hf⟩
    ·have hda := hk2 hw hk'
     rw [hD] at hda
     simp only [List.cons.injEq, and_true] at hda
     subst hda
     rw [if_neg (by omega), if_pos hk', hD] at hf
     simp only at hf
     rw [if_neg (by omega)] at hf
     rw [hD, if_neg (by omega), if_neg (by omega), if_neg (by omega)]
     have := closest_cases y m a h1 h2 hb.1
     rw [← hf] at this
     exact ⟨⟨by simp [cvalid]; omega, h2⟩, this.2.2.1⟩
    ·exact absurd hk' (fun h => hk hw h)
theorem dayReset_first {c : Cfg} (g : Good c) {y m : Int} (hm1 : 1 ≤ m) (hm2 : m ≤ 12) : ∃ d, dayReset c y m = (y, m, d) ∧ FirstDay c y m d := by
 have hb := mlen_bd y m
 unfold dayReset
 by_cases h : dvalid c y m 1 = true
 ·rw [if_pos h]
  obtain ⟨h1, h2, h3⟩ := dvalid_imp g h
  exact ⟨1, rfl, h1, h2, h3, fun e h1 h2 => by omega⟩
 ·rw [if_neg h]
  have hres := dayNext_res g (y := y) (m := m) (d := 1) ⟨hm1, hm2, by omega, by omega⟩
  have hnf : ¬ dfit c y m 1 ∨ (c.W = [] ∧ c.n = 3) ∨ (c.W = [] ∧ c.n = 2 ∧ c.D ≠ [1]) := by
   by_cases hf : dfit c y m 1
   ·right
    by_cases hk : c.W = [] ∧ c.n = 3
    ·exact .inl hk
    ·by_cases hk2 : c.W = [] ∧ c.n = 2 ∧ c.D ≠ [1]
     ·exact .inr hk2
     ·exact absurd (dvalid_of g (by omega) (by omega) hf (fun a b => hk ⟨a, b⟩) (fun a b => by
       by_cases hD : c.D = [1]
       ·exact hD
       ·exact absurd ⟨a, b, hD⟩ hk2)) h
   ·exact .inl hf
  have hnf : ¬ dfit c y m 1 := by
   rcases hnf with hnf | ⟨hw, hn⟩ | ⟨hw, hn, hD⟩
   ·exact hnf
   ·intro hf
    unfold dfit at hf
    rw [if_neg (by omega)] at hf
    unfold tgt at hf
    rw [hw] at hf
    simp only [hn, if_true] at hf
    have := closest_cases y m (mlen y m) (by omega) (by omega) hb.1
    omega
   ·intro hf
    unfold dfit at hf
    rw [if_neg (by omega)] at hf
    unfold tgt at hf
    rw [hw] at hf
    simp only at hf
    rw [if_neg (by omega), if_pos hn] at hf
    rcases g.kD hw with hk | ⟨hk, _⟩ | ⟨_, hk, _⟩ | ⟨hk, a, ha, ha1, ha28, ha2⟩ | ⟨hk, _⟩
    ·omega
    ·omega
    ·omega
    ·rw [ha] at hf
     simp only at hf
     rw [if_neg (by omega)] at hf
     have := closest_cases y m a ha1 (by omega) hb.1
     have : a = 1 := by omega
     rw [this] at ha
     exact hD ha
    ·omega
  generalize dayNext c y m 1 = r at hres
  cases hres with
  | go d' h1 h2 h3 h4 =>
    refine ⟨d', rfl, by omega, h2, h3, ?_⟩
    intro e he1 he2
    rcases (show e = 1 ∨ 1 < e by omega) with rfl | he
    ·exact hnf
    ·exact h4 e he he2
  | past => omega
  | adv hn ht =>
    have := tgt_bd g hn y m
    exact absurd (by unfold dfit; rw [if_neg hn]; omega) hnf
  | over d' h0 h1 h2 h3 h4 h5 h6 =>
    exfalso
    by_cases hw : c.W = []
    ·have := h5 hw
     have hr := creset_least (lst_31 (g.hD hw h0)) (by omega)
     have : creset 1 31 c.D = 1 := by omega
     rw [this] at hr
     exact hnf (by unfold dfit; rw [if_pos h0, hw]; exact hr.1)
    ·have := h6 hw; omega
abbrev OkY (c : Cfg) (y : Int) : Prop := InL 0 999999 c.Y y
abbrev OkM (c : Cfg) (m : Int) : Prop := InL 1 12 c.M m
structure Fits (c : Cfg) (y m d : Int) : Prop where
 v : Valid y m d
 oy : OkY c y
 om : OkM c m
 fit : dfit c y m d
structure LeastDay (c : Cfg) (N N' : Int) : Prop where
 ex : ∃ y m d, Fits c y m d ∧ dayNum y m d = N'
 gt : N < N'
 least : ∀ y m d, Fits c y m d → N < dayNum y m d → N' ≤ dayNum y m d
def NoDay (c : Cfg) (N : Int) : Prop := ∀ y m d, Fits c y m d → dayNum y m d ≤ N
def MLt (y m y' m' : Int) : Prop := y < y' ∨ (y = y' ∧ m < m')
structure NextM (c : Cfg) (y m y1 m1 : Int) : Prop where
 oy : OkY c y1
 om : OkM c m1
 lt : MLt y m y1 m1
 least : ∀ y2 m2, OkY c y2 → OkM c m2 → MLt y m y2 m2 → ¬ MLt y2 m2 y1 m1
def NoM (c : Cfg) (y m : Int) : Prop := ∀ y2 m2, OkY c y2 → OkM c m2 → ¬ MLt y m y2 m2
theorem okM_bd {c : Cfg} (g : Good c) {m : Int} (h : OkM c m) : 1 ≤ m ∧ m ≤ 12 := inL_range g.hM h
theorem least_of_next {c : Cfg} (g : Good c) {y m d y1 m1 d1 : Int} (hv : Valid y m d) (hno : ∀ e, d < e → ¬ Fits c y m e) (hm : NextM c y m y1 m1) (hf : FirstDay c y1 m1 d1) :
 LeastDay c (dayNum y m d) (dayNum y1 m1 d1) := by
 have hb := okM_bd g hm.om
 have hv1 : Valid y1 m1 d1 := ⟨hb.1, hb.2, hf.1, hf.2.1⟩
 refine ⟨⟨y1, m1, d1, ⟨hv1, hm.oy, hm.om, hf.2.2.1⟩, rfl⟩, lex_lt hv hv1 ?_, ?_⟩
 ·rcases hm.lt with h | ⟨h, h'⟩
  ·exact .inl h
  ·exact .inr ⟨h, .inl h'⟩
 ·intro y2 m2 d2 h2 hlt
  have hl := lex_of_lt hv h2.v hlt
  by_cases hle : dayNum y1 m1 d1 ≤ dayNum y2 m2 d2
  ·exact hle
  ·exfalso
   have hl2 := lex_of_lt h2.v hv1 (by omega)
   have hM : MLt y m y2 m2 := by
    rcases hl with h | ⟨rfl, h | ⟨rfl, h⟩⟩
    ·exact .inl h
    ·exact .inr ⟨rfl, h⟩
    ·exact absurd h2 (hno d2 h)
   have hn := hm.least y2 m2 h2.oy h2.om hM
   rcases hl2 with h | ⟨rfl, h | ⟨rfl, h⟩⟩
   ·exact hn (.inl h)
   ·exact hn (.inr ⟨rfl, h⟩)
   ·exact hf.2.2.2 d2 h2.v.d1 h h2.fit
theorem least_in_month {c : Cfg} {y m d d1 : Int} (hv : Valid y m d) (hy : OkY c y) (hm : OkM c m) (h1 : d < d1) (h2 : d1 ≤ mlen y m) (h3 : dfit c y m d1) (h4 : ∀ e, d < e → e < d1 → ¬ dfit c y m e) :
 LeastDay c (dayNum y m d) (dayNum y m d1) := by
 have hv1 : Valid y m d1 := ⟨hv.m1, hv.m12, by have := hv.d1; omega, h2⟩
 refine ⟨⟨y, m, d1, ⟨hv1, hy, hm, h3⟩, rfl⟩, lex_lt hv hv1 (.inr ⟨rfl, .inr ⟨rfl, h1⟩⟩), ?_⟩
 intro y2 m2 d2 hf hlt
 by_cases hle : dayNum y m d1 ≤ dayNum y2 m2 d2
 ·exact hle
 ·exfalso
  have hl := lex_of_lt hv hf.v hlt
  have hl2 := lex_of_lt hf.v hv1 (by omega)
  unfold Lex at hl hl2
  have : y = y2 ∧ m = m2 ∧ d < d2 ∧ d2 < d1 := by omega
  obtain ⟨rfl, rfl, h, h'⟩ := this
  exact h4 d2 h h' hf.fit
theorem noDay_of {c : Cfg} {y m d : Int} (hv : Valid y m d) (hno : ∀ e, d < e → ¬ Fits c y m e) (hm : NoM c y m) : NoDay c (dayNum y m d) := by
 intro y2 m2 d2 hf
 by_cases hle : dayNum y2 m2 d2 ≤ dayNum y m d
 ·exact hle
 ·exfalso
  have hl := lex_of_lt hv hf.v (by omega)
  rcases hl with h | ⟨rfl, h | ⟨rfl, h⟩⟩
  ·exact hm y2 m2 hf.oy hf.om (.inl h)
  ·exact hm _ m2 hf.oy hf.om (.inr ⟨rfl, h⟩)
  ·exact hno d2 h hf
def wraps (c : Cfg) (y m : Int) : Bool := (cnext 1 12 c.M m).2 && (cnext 0 999999 c.Y y).2
theorem advMonth_in {c : Cfg} (g : Good c) {y m : Int} (hy : OkY c y) (hm1 : 1 ≤ m) (h : wraps c y m = false) :
 NextM c y m (advMonth c y m).1 (advMonth c y m).2 := by
 unfold wraps at h
 unfold advMonth
 obtain ⟨x, o, hx⟩ : ∃ x o, cnext 1 12 c.M m = (x, o) := ⟨_, _, rfl⟩
 rw [hx] at h ⊢
 cases o
 ·obtain ⟨h1, h2, h3⟩ := cnext_in g.hM (by intro; omega) hx
  simp only
  refine ⟨hy, h1, .inr ⟨rfl, h2⟩, ?_⟩
  intro y2 m2 hy2 hm2 hl hl2
  unfold MLt at hl hl2
  rcases (show y2 = y ∧ m < m2 ∧ m2 < x by omega) with ⟨_, h4, h5⟩
  have := h3 m2 hm2 h4; omega
 ·obtain ⟨h1, h2, h3⟩ := cnext_over g.hM (by omega) hx
  obtain ⟨x2, o2, hx2⟩ : ∃ x o, cnext 0 999999 c.Y y = (x, o) := ⟨_, _, rfl⟩
  rw [hx2] at h ⊢
  simp only [Bool.true_and] at h
  subst h
  simp only
  obtain ⟨k1, k2, k3⟩ := cnext_in g.hY (by intro; have := (inL_range g.hY hy).1; omega) hx2
  refine ⟨k1, h1, .inl k2, ?_⟩
  intro y2 m2 hy2 hm2 hl hl2
  unfold MLt at hl hl2
  have hmm := h2 m2 hm2
  have := k3 y2 hy2
  have := h3 m2 hm2
  omega
theorem advMonth_over {c : Cfg} (g : Good c) {y m : Int} (h : wraps c y m = true) :
 NoM c y m ∧ (advMonth c y m).1 = creset 0 999999 c.Y ∧ (advMonth c y m).2 = creset 1 12 c.M := by
 unfold wraps at h
 unfold advMonth
 obtain ⟨x, o, hx⟩ : ∃ x o, cnext 1 12 c.M m = (x, o) := ⟨_, _, rfl⟩
 obtain ⟨x2, o2, hx2⟩ : ∃ x o, cnext 0 999999 c.Y y = (x, o) := ⟨_, _, rfl⟩
 rw [hx, hx2] at h
 simp only [Bool.and_eq_true] at h
 obtain ⟨rfl, rfl⟩ := h
 rw [hx, hx2]
 simp only
 obtain ⟨h1, h2, h3⟩ := cnext_over g.hM (by omega) hx
 obtain ⟨k1, k2, k3⟩ := cnext_over g.hY (by omega) hx2
 refine ⟨?_, cnext_over_reset g.hY (by omega) hx2, cnext_over_reset g.hM (by omega) hx⟩
 intro y2 m2 hy2 hm2 hl
 unfold MLt at hl
 have := h2 m2 hm2
 have := k2 y2 hy2
 omega
theorem ovMonths_eq {c : Cfg} (g : Good c) (st : St) : ovMonths c st =
 if wraps c st.y st.m then { st with y := (advMonth c st.y st.m).1, m := (advMonth c st.y st.m).2 }
 else resetDays c { st with y := (advMonth c st.y st.m).1, m := (advMonth c st.y st.m).2 } := by
 unfold ovMonths wraps advMonth ovYears resetMonths
 obtain ⟨x, o, hx⟩ : ∃ x o, cnext 1 12 c.M st.m = (x, o) := ⟨_, _, rfl⟩
 obtain ⟨x2, o2, hx2⟩ : ∃ x o, cnext 0 999999 c.Y st.y = (x, o) := ⟨_, _, rfl⟩
 rw [hx]
 cases o
 ·simp
 ·have := cnext_over_reset g.hM (by omega) hx
  simp only [hx2]
  cases o2
  ·simp [this]
  ·simp
structure Wrapped (c : Cfg) (st : St) : Prop where
 y : st.y = creset 0 999999 c.Y
 m : st.m = creset 1 12 c.M
 d1 : 1 ≤ st.d
 d31 : st.d ≤ 31
 day : st.d ≤ mlen st.y st.m ∨ c.n ≠ 0
 any : c.n = 0 → c.W = [] → c.D = [] → st.d = 1
def T0 (c : Cfg) (st : St) : Prop := st.h = creset 0 59 c.H ∧ st.mi = creset 0 59 c.Mi ∧ st.s = creset 0 59 c.S
def stDay (st : St) : Int := dayNum st.y st.m st.d
inductive AdvRes (c : Cfg) (N : Int) (st : St) : Prop where
 | least : LeastDay c N (stDay st) → AdvRes c N st
 | wrap : NoDay c N → Wrapped c st → (Fits c st.y st.m st.d ∨ stDay st < N) → AdvRes c N st
theorem okY_creset {c : Cfg} (g : Good c) : OkY c (creset 0 999999 c.Y) ∧ ∀ y, OkY c y → creset 0 999999 c.Y ≤ y := creset_least g.hY (by omega)
theorem okM_creset {c : Cfg} (g : Good c) : OkM c (creset 1 12 c.M) ∧ ∀ y, OkM c y → creset 1 12 c.M ≤ y := creset_least g.hM (by omega)
theorem firstDay_any {c : Cfg} {y m d : Int} (h : FirstDay c y m d) (hn : c.n = 0) (hw : c.W = []) (hD : c.D = []) : d = 1 := by
 by_cases h1 : d = 1
 ·exact h1
 ·have := h.1
  have hm := h.2.1
  exact absurd (by unfold dfit; rw [if_pos hn, hw]; simp [InL, hD]) (h.2.2.2 1 (by omega) (by omega))
theorem stale_before {y m d y0 m0 d0 : Int} (hv : Valid y m d) (h1 : y0 < y) (hm1 : 1 ≤ m0) (hm2 : m0 ≤ 12) (hd : d0 ≤ 31) : dayNum y0 m0 d0 < dayNum y m d := by
 have e := from_first y0 m0 d0
 have a : dayNum y0 m0 1 + 30 < dayNum (y0 + 1) 1 1 := by
  rw [dayNum_year]
  by_cases h : m0 = 12
  ·subst h; omega
  ·have := month_mono y0 m0 hm1 (12 - m0).toNat (by omega)
   rw [show m0 + ((12 - m0).toNat : Int) = 12 by omega] at this
   omega
 have b : dayNum (y0 + 1) 1 1 ≤ dayNum y m d := by
  have e2 := from_first y m d
  have := hv.d1
  have f := year_first hv.m1 hv.m12 (y := y)
  have g := year_mono (y0 + 1) (y - (y0 + 1)).toNat
  rw [show y0 + 1 + ((y - (y0 + 1)).toNat : Int) = y by omega] at g
  omega
 omega
theorem t0_resetHours (c : Cfg) (st : St) : T0 c (resetHours c st) ∧ (resetHours c st).y = st.y ∧ (resetHours c st).m = st.m ∧ (resetHours c st).d = st.d := by
 simp [T0, resetHours, resetMins, resetSecs]
theorem resetDays_res {c : Cfg} (g : Good c) (st : St) (hm1 : 1 ≤ st.m) (hm2 : st.m ≤ 12) :
 T0 c (resetDays c st) ∧ (resetDays c st).y = st.y ∧ (resetDays c st).m = st.m ∧ FirstDay c st.y st.m (resetDays c st).d := by
 obtain ⟨d, hd, hf⟩ := dayReset_first g hm1 hm2 (y := st.y)
 unfold resetDays
 rw [hd]
 have := t0_resetHours c (setDay st (st.y, st.m, d))
 obtain ⟨h1, h2, h3, h4⟩ := this
 exact ⟨h1, h2, h3, by rw [h4]; exact hf⟩
theorem ovMonths_res {c : Cfg} (g : Good c) (st : St) {d : Int} (hv : Valid st.y st.m d) (hy : OkY c st.y) (ht : T0 c st)
 (hno : ∀ e, d < e → ¬ Fits c st.y st.m e) (hd1 : 1 ≤ st.d) (h28 : st.d ≤ 28) (hany : c.n = 0 → c.W = [] → c.D = [] → st.d = 1)
 (hw : wraps c st.y st.m = true → st.y = creset 0 999999 c.Y → Fits c st.y (creset 1 12 c.M) st.d ∨ (creset 1 12 c.M = st.m → st.d < d)) :
 T0 c (ovMonths c st) ∧ AdvRes c (dayNum st.y st.m d) (ovMonths c st) := by
 rw [ovMonths_eq g]
 cases hwr : wraps c st.y st.m
 ·simp only [Bool.false_eq_true, if_false]
  have hn := advMonth_in g hy hv.m1 hwr
  have hb := okM_bd g hn.om
  obtain ⟨h1, h2, h3, h4⟩ := resetDays_res g { st with y := (advMonth c st.y st.m).1, m := (advMonth c st.y st.m).2 } hb.1 hb.2
  refine ⟨h1, .least ?_⟩
  unfold stDay
  rw [h2, h3]
  exact least_of_next g hv hno hn h4
 ·simp only [if_true]
  obtain ⟨k1, k2, k3⟩ := advMonth_over g hwr
  have hY := okY_creset g
  have hM := okM_creset g
  have hMb := okM_bd g hM.1
  refine ⟨ht, .wrap (noDay_of hv hno k1) ⟨k2, k3, hd1, by simp only; omega, .inl ?_, hany⟩ ?_⟩
  ·have := mlen_bd (advMonth c st.y st.m).1 (advMonth c st.y st.m).2
   simp only; omega
  ·simp only [stDay, k2, k3]
   by_cases hyy : st.y = creset 0 999999 c.Y
   ·rcases hw hwr hyy with h | h
    ·left; rw [← hyy]; exact h
    ·by_cases hmm : creset 1 12 c.M = st.m
     ·right
      have := h hmm
      rw [← hyy, hmm]
      have e1 := from_first st.y st.m st.d
      have e2 := from_first st.y st.m d
      omega
     ·
      have hlt : creset 1 12 c.M < st.m := by
       have hle : ¬ MLt st.y st.m st.y (creset 1 12 c.M) := k1 st.y _ hy hM.1
       unfold MLt at hle; omega
      right
      rw [← hyy]
      have hv0 : Valid st.y (creset 1 12 c.M) st.d := ⟨hMb.1, hMb.2, hd1, by have := mlen_bd st.y (creset 1 12 c.M); omega⟩
      exact lex_lt hv0 hv (.inr ⟨rfl, .inl hlt⟩)
   ·right
    have : creset 0 999999 c.Y < st.y := by have := hY.2 st.y hy; omega
    exact stale_before hv this hMb.1 hMb.2 (by omega)
theorem over_fits {c : Cfg} (g : Good c) {y d' : Int} (hy : OkY c y) (hn : c.n = 0) (hw : c.W = []) (h28 : d' ≤ 28) (h1 : 1 ≤ d') (hc : d' = creset 1 31 c.D) :
 Fits c y (creset 1 12 c.M) d' := by
 have hM := okM_creset g
 have hMb := okM_bd g hM.1
 have hr := creset_least (lst_31 (g.hD hw hn)) (by omega)
 refine ⟨⟨hMb.1, hMb.2, h1, by have := mlen_bd y (creset 1 12 c.M); omega⟩, hy, hM.1, ?_⟩
 unfold dfit
 rw [if_pos hn, hw, hc]
 exact hr.1
theorem ovDays_res {c : Cfg} (g : Good c) (st : St) (hv : Valid st.y st.m st.d) (hy : OkY c st.y) (hm : OkM c st.m)
 (ht : T0 c st) (hmiss : c.n = 0 → c.W = [] → c.D = [] → c.M ≠ [] → st.d ≠ mlen st.y st.m) :
 T0 c (ovDays c st) ∧ AdvRes c (stDay st) (ovDays c st) := by
 have hb := mlen_bd st.y st.m
 have hres := dayNext_res g hv
 unfold ovDays
 generalize dayNext c st.y st.m st.d = r at hres
 cases hres with
 | go d' h1 h2 h3 h4 =>
   simp only [Bool.false_eq_true, if_false]
   obtain ⟨k1, k2, k3, k4⟩ := t0_resetHours c (setDay st (st.y, st.m, d'))
   refine ⟨k1, .least ?_⟩
   unfold stDay
   rw [k2, k3, k4]
   exact least_in_month hv hy hm h1 h2 h3 h4
 | past hn hw hD hl h31 =>
   simp only [Bool.false_eq_true, if_false]
   obtain ⟨k1, k2, k3, k4⟩ := t0_resetHours c (setDay st (st.y, st.m, st.d + 1))
   refine ⟨k1, .least ?_⟩
   unfold stDay
   rw [k2, k3, k4]
   simp only [setDay]
   have hM : c.M = [] := by
    by_cases h : c.M = []
    ·exact h
    ·exact absurd hl (hmiss hn hw hD h)
   have hm11 : st.m ≤ 11 := by
    have h12 := hv.m12
    have : st.m ≠ 12 := by
     intro h
     have : mlen st.y 12 = 31 := by simp [mlen]
     rw [h] at hl; omega
    omega
   have e : dayNum st.y st.m (st.d + 1) = dayNum st.y (st.m + 1) 1 := by
    rw [dayNum_next hv.m1 hm11, hl, ← show 1 + mlen st.y st.m = mlen st.y st.m + 1 by omega, dayNum_add]
   rw [e]
   refine least_of_next g hv (fun e he hf => by have := hf.v.dl; omega) ⟨hy, .inl ⟨hM, by have := hv.m1; omega, by omega⟩, .inr ⟨rfl, by omega⟩, ?_⟩ ⟨by omega, by have := mlen_bd st.y (st.m + 1); omega, ?_, fun e h1 h2 => by omega⟩
   ·intro y2 m2 _ _ hl1 hl2
    unfold MLt at hl1 hl2; omega
   ·unfold dfit
    rw [if_pos hn, hw]
    exact .inl ⟨hD, by omega, by omega⟩
 | adv hn ht' =>
   simp only [Bool.false_eq_true, if_false]
   obtain ⟨k1, k2, k3, k4⟩ := t0_resetHours c (setDay st ((advMonth c st.y st.m).1, (advMonth c st.y st.m).2, tgt c (advMonth c st.y st.m).1 (advMonth c st.y st.m).2))
   refine ⟨k1, ?_⟩
   have hno : ∀ e, st.d < e → ¬ Fits c st.y st.m e := by
    intro e he hf
    have := hf.fit
    unfold dfit at this
    rw [if_neg hn] at this
    omega
   have hfd : ∀ y m, FirstDay c y m (tgt c y m) := by
    intro y m
    have := tgt_bd g hn y m
    refine ⟨this.1, this.2, by unfold dfit; rw [if_neg hn], ?_⟩
    intro e _ he hf
    unfold dfit at hf
    rw [if_neg hn] at hf
    omega
   cases hwr : wraps c st.y st.m
   ·refine .least ?_
    unfold stDay
    rw [k2, k3, k4]
    exact least_of_next g hv hno (advMonth_in g hy hv.m1 hwr) (hfd _ _)
   ·obtain ⟨j1, j2, j3⟩ := advMonth_over g hwr
    have hM := okM_creset g
    have hMb := okM_bd g hM.1
    have hf := hfd (advMonth c st.y st.m).1 (advMonth c st.y st.m).2
    have hml := mlen_bd (advMonth c st.y st.m).1 (advMonth c st.y st.m).2
    refine .wrap (noDay_of hv hno j1) ⟨by rw [k2]; exact j2, by rw [k3]; exact j3, by rw [k4]; exact hf.1, by rw [k4]; simp only [setDay]; have := hf.2.1; omega, .inr hn, fun h => absurd h hn⟩ (.inl ?_)
    rw [k2, k3, k4]
    simp only [setDay]
    refine ⟨⟨by rw [j3]; exact hMb.1, by rw [j3]; exact hMb.2, hf.1, hf.2.1⟩, by rw [j2]; exact (okY_creset g).1, by rw [j3]; exact hM.1, hf.2.2.1⟩
 | over d' h0 h1 h2 h3 h4 h5 h6 =>
   simp only [if_true]
   have hgo := ovMonths_res g (setDay st (st.y, st.m, d')) (d := st.d) hv hy ht
    (fun e he hf => h1 e he hf.v.dl hf.fit) h2 h4
    (by
      intro _ hw hD
      have := h5 hw
      rw [hD] at this
      simpa [creset, cnext, setDay] using this)
    (by
      intro _ hyy
      by_cases hw : c.W = []
      ·left; exact over_fits g hy h0 hw h4 h2 (h5 hw)
      ·right; intro _; simp only [setDay]; have := h6 hw; omega)
   exact hgo
end Go.Proofs.YtmaffdhcmdhjfaaGreatDoor.Csm
namespace Go.Proofs.YtmaffdhcmdhjfaaGreatDoor.Csm
open Cal
def monthStep (c : Cfg) (st1 : St) : St :=
 let r2 := cnext 1 12 c.M st1.m
 let st2 := { st1 with m := r2.1 }
 if !r2.2 then (if dvalid c st2.y st2.m st2.d then st2 else setDay st2 (dayReset c st2.y st2.m)) else
 let r3 := cnext 0 999999 c.Y st2.y
 let st3 := { st2 with y := r3.1 }
 if !r3.2 then (if dvalid c st3.y st3.m st3.d then st3 else setDay st3 (dayReset c st3.y st3.m)) else st3
theorem dayRound_eq (c : Cfg) (st : St) : dayRound c st = if (dayNext c st.y st.m st.d).2 then monthStep c (setDay st (dayNext c st.y st.m st.d).1) else setDay st (dayNext c st.y st.m st.d).1 := by
 unfold dayRound monthStep
 simp only
 cases (dayNext c st.y st.m st.d).2 <;> simp
theorem monthStep_eq (c : Cfg) (st : St) : monthStep c st =
 if wraps c st.y st.m then { st with y := (advMonth c st.y st.m).1, m := (advMonth c st.y st.m).2 }
 else if dvalid c (advMonth c st.y st.m).1 (advMonth c st.y st.m).2 st.d then { st with y := (advMonth c st.y st.m).1, m := (advMonth c st.y st.m).2 }
 else setDay st (dayReset c (advMonth c st.y st.m).1 (advMonth c st.y st.m).2) := by
 unfold monthStep wraps advMonth
 obtain ⟨x, o, hx⟩ : ∃ x o, cnext 1 12 c.M st.m = (x, o) := ⟨_, _, rfl⟩
 obtain ⟨x2, o2, hx2⟩ : ∃ x o, cnext 0 999999 c.Y st.y = (x, o) := ⟨_, _, rfl⟩
 rw [hx, hx2]
 cases o
 ·simp [setDay]
 ·cases o2 <;> simp [setDay, hx2]
def SameTime (st st' : St) : Prop := st'.h = st.h ∧ st'.mi = st.mi ∧ st'.s = st.s
theorem monthStep_res {c : Cfg} (g : Good c) (st : St) {d : Int} (hv : Valid st.y st.m d) (hy : OkY c st.y)
 (hno : ∀ e, d < e → ¬ Fits c st.y st.m e) (hd1 : 1 ≤ st.d) (h28 : st.d ≤ 28) (hany : c.n = 0 → c.W = [] → c.D = [] → st.d = 1)
 (hfirst : wraps c st.y st.m = false → dvalid c (advMonth c st.y st.m).1 (advMonth c st.y st.m).2 st.d = true → FirstDay c (advMonth c st.y st.m).1 (advMonth c st.y st.m).2 st.d)
 (hw : wraps c st.y st.m = true → st.y = creset 0 999999 c.Y → Fits c st.y (creset 1 12 c.M) st.d ∨ (creset 1 12 c.M = st.m → st.d < d)) :
 SameTime st (monthStep c st) ∧ (monthStep c st).d ≤ mlen (monthStep c st).y (monthStep c st).m ∧ AdvRes c (dayNum st.y st.m d) (monthStep c st) := by
 rw [monthStep_eq]
 cases hwr : wraps c st.y st.m
 ·simp only [Bool.false_eq_true, if_false]
  have hn := advMonth_in g hy hv.m1 hwr
  have hb := okM_bd g hn.om
  by_cases hdv : dvalid c (advMonth c st.y st.m).1 (advMonth c st.y st.m).2 st.d = true
  ·rw [if_pos hdv]
   have hf := hfirst hwr hdv
   refine ⟨⟨rfl, rfl, rfl⟩, hf.2.1, .least ?_⟩
   exact least_of_next g hv hno hn hf
  ·rw [if_neg hdv]
   obtain ⟨d', hd', hf⟩ := dayReset_first g hb.1 hb.2 (y := (advMonth c st.y st.m).1)
   rw [hd']
   refine ⟨⟨rfl, rfl, rfl⟩, hf.2.1, .least ?_⟩
   exact least_of_next g hv hno hn hf
 ·simp only [if_true]
  obtain ⟨k1, k2, k3⟩ := advMonth_over g hwr
  have hY := okY_creset g
  have hM := okM_creset g
  have hMb := okM_bd g hM.1
  have hml := mlen_bd (advMonth c st.y st.m).1 (advMonth c st.y st.m).2
  refine ⟨⟨rfl, rfl, rfl⟩, by (try simp only); omega, .wrap (noDay_of hv hno k1) ⟨k2, k3, hd1, by (try simp only); omega, .inl (by (try simp only); omega), hany⟩ ?_⟩
  simp only [stDay, k2, k3]
  by_cases hyy : st.y = creset 0 999999 c.Y
  ·rcases hw hwr hyy with h | h
   ·left; rw [← hyy]; exact h
   ·by_cases hmm : creset 1 12 c.M = st.m
    ·right
     have := h hmm
     rw [← hyy, hmm]
     have e1 := from_first st.y st.m st.d
     have e2 := from_first st.y st.m d
     omega
    ·have hlt : creset 1 12 c.M < st.m := by
      have hle : ¬ MLt st.y st.m st.y (creset 1 12 c.M) := k1 st.y _ hy hM.1
      unfold MLt at hle; omega
     right
     rw [← hyy]
     have hv0 : Valid st.y (creset 1 12 c.M) st.d := ⟨hMb.1, hMb.2, hd1, by have := mlen_bd st.y (creset 1 12 c.M); omega⟩
     exact lex_lt hv0 hv (.inr ⟨rfl, .inl hlt⟩)
  ·right
   have : creset 0 999999 c.Y < st.y := by have := hY.2 st.y hy; omega
   exact stale_before hv this hMb.1 hMb.2 (by omega)
theorem dayRounds_any {c : Cfg} (st : St) (hn : c.n = 0) (hw : c.W = []) (hD : c.D = []) (k : Nat) :
 ∀ d, mlen st.y st.m ≤ d → d ≤ 31 → (31 - d).toNat < k → (monthStep c { st with d := 1 }).d ≤ mlen (monthStep c { st with d := 1 }).y (monthStep c { st with d := 1 }).m →
  dayRounds c k { st with d := d } = monthStep c { st with d := 1 } := by
 induction k with
 | zero => intro d _ _ h; omega
 | succ k ih =>
   intro d h1 h2 h3 h4
   unfold dayRounds
   have e : dayNext c st.y st.m d = ((st.y, st.m, (cnext 1 31 [] d).1), (cnext 1 31 [] d).2) := by
    unfold dayNext; rw [if_pos hn, hw]; simp only [hD]
   by_cases hd : d = 31
   ·subst hd
    have e2 : dayRound c { st with d := 31 } = monthStep c { st with d := 1 } := by
     rw [dayRound_eq]; simp only [e]; simp [cnext, setDay]
    simp only [e2]
    rw [if_pos h4]
   ·have e2 : dayRound c { st with d := d } = { st with d := d + 1 } := by
     have hc : cnext 1 31 [] d = (d + 1, false) := by
      unfold cnext; rw [if_neg (by omega)]
     rw [dayRound_eq]; simp only [e, hc]
     simp [setDay]
    simp only [e2]
    rw [if_neg (by omega)]
    exact ih (d + 1) (by omega) (by omega) (by omega) h4
theorem dayRounds_res {c : Cfg} (g : Good c) (st : St) (hv : Valid st.y st.m st.d) (hy : OkY c st.y) (hm : OkM c st.m) (ht : T0 c st) :
 T0 c (dayRounds c 40 st) ∧ AdvRes c (stDay st) (dayRounds c 40 st) := by
 have hb := mlen_bd st.y st.m
 have hres := dayNext_res g hv
 have one : ∀ st', dayRound c st = st' → st'.d ≤ mlen st'.y st'.m → dayRounds c 40 st = st' := by
  intro st' h1 h2
  unfold dayRounds
  simp only [h1]
  rw [if_pos h2]
 have tt : ∀ st', SameTime st st' → T0 c st' := fun st' h => ⟨h.1.trans ht.1, h.2.1.trans ht.2.1, h.2.2.trans ht.2.2⟩
 have hr := dayRound_eq c st
 obtain ⟨r, hrr⟩ : ∃ r, r = dayNext c st.y st.m st.d := ⟨_, rfl⟩
 rw [← hrr] at hres hr
 cases hres with
 | go d' h1 h2 h3 h4 =>
   simp only [Bool.false_eq_true, if_false] at hr
   rw [one _ hr h2]
   exact ⟨tt _ ⟨rfl, rfl, rfl⟩, .least (least_in_month hv hy hm h1 h2 h3 h4)⟩
 | past hn hw hD hl h31 =>
   have h1f : ∀ y m, dfit c y m 1 := by
    intro y m
    unfold dfit
    rw [if_pos hn, hw]
    exact .inl ⟨hD, by omega, by omega⟩
   obtain ⟨s1, s2, s3⟩ := monthStep_res g { st with d := 1 } (d := st.d) hv hy (fun e he hf => by have : e ≤ mlen st.y st.m := hf.v.dl; omega) (by (try simp only); omega) (by (try simp only); omega) (fun _ _ _ => rfl)
    (fun hwr _ => by
      have hn' := advMonth_in g hy hv.m1 hwr
      have hb := mlen_bd (advMonth c st.y st.m).1 (advMonth c st.y st.m).2
      exact ⟨by (try simp only); omega, by (try simp only); omega, h1f _ _, fun e h1 h2 => by simp only at h2; omega⟩)
    (fun _ _ => by
      left
      have hM := okM_creset g
      have hMb := okM_bd g hM.1
      exact ⟨⟨hMb.1, hMb.2, by (try simp only); omega, by simp only; have := mlen_bd st.y (creset 1 12 c.M); omega⟩, hy, hM.1, h1f _ _⟩)
   have e := dayRounds_any st hn hw hD 40 st.d (by omega) (by omega) (by omega) s2
   have e' : ({ st with d := st.d } : St) = st := rfl
   rw [e'] at e
   rw [e]
   exact ⟨tt _ s1, s3⟩
 | adv hn ht' =>
   simp only [Bool.false_eq_true, if_false] at hr
   have hno : ∀ e, st.d < e → ¬ Fits c st.y st.m e := by
    intro e he hf
    have := hf.fit
    unfold dfit at this
    rw [if_neg hn] at this
    omega
   have hfd : ∀ y m, FirstDay c y m (tgt c y m) := by
    intro y m
    have := tgt_bd g hn y m
    refine ⟨this.1, this.2, by unfold dfit; rw [if_neg hn], ?_⟩
    intro e _ he hf
    unfold dfit at hf
    rw [if_neg hn] at hf
    omega
   have hf := hfd (advMonth c st.y st.m).1 (advMonth c st.y st.m).2
   rw [one _ hr hf.2.1]
   refine ⟨tt _ ⟨rfl, rfl, rfl⟩, ?_⟩
   cases hwr : wraps c st.y st.m
   ·refine .least ?_
    exact least_of_next g hv hno (advMonth_in g hy hv.m1 hwr) hf
   ·obtain ⟨j1, j2, j3⟩ := advMonth_over g hwr
    have hM := okM_creset g
    have hMb := okM_bd g hM.1
    have hml := mlen_bd (advMonth c st.y st.m).1 (advMonth c st.y st.m).2
    refine .wrap (noDay_of hv hno j1) ⟨j2, j3, hf.1, by simp only [setDay]; have := hf.2.1; omega, .inr hn, fun h => absurd h hn⟩ (.inl ?_)
    simp only [setDay]
    refine ⟨⟨by rw [j3]; exact hMb.1, by rw [j3]; exact hMb.2, hf.1, hf.2.1⟩, by rw [j2]; exact (okY_creset g).1, by rw [j3]; exact hM.1, hf.2.2.1⟩
 | over d' h0 h1 h2 h3 h4 h5 h6 =>
   simp only [if_true] at hr
   obtain ⟨s1, s2, s3⟩ := monthStep_res g (setDay st (st.y, st.m, d')) (d := st.d) hv hy
    (fun e he hf => h1 e he hf.v.dl hf.fit) h2 h4
    (by
      intro _ hw hD
      have := h5 hw
      rw [hD] at this
      simpa [creset, cnext, setDay] using this)
    (by
      intro hwr hdv
      simp only [setDay] at hwr hdv ⊢
      have hn' := advMonth_in g hy hv.m1 hwr
      obtain ⟨g1, g2, g3⟩ := dvalid_imp g hdv
      refine ⟨g1, g2, g3, ?_⟩
      intro e he1 he2 hf
      unfold dfit at hf
      rw [if_pos h0] at hf
      by_cases hw : c.W = []
      ·rw [hw] at hf
       simp only at hf
       have hc := (creset_least (lst_31 (g.hD hw h0)) (by omega)).2 e hf
       have := h5 hw
       omega
      ·obtain ⟨q1, q2, q3, q4⟩ := h6 hw
       unfold dfit at g3
       rw [if_pos h0] at g3
       obtain ⟨a, t, hat⟩ : ∃ a t, c.W = a :: t := by
        cases hc : c.W with
        | nil => exact absurd hc hw
        | cons a t => exact ⟨a, t, rfl⟩
       rw [hat] at hf g3
       simp only at hf g3
       rcases (g.kW hw).2 with ⟨_, hk | ⟨hkM, hkY⟩⟩ | ⟨⟨w, hk⟩, hk2⟩
       ·rw [hat] at hk
        have ht0 : t = [] := by
         cases t with
         | nil => rfl
         | cons b t => simp at hk
        subst ht0
        simp only [List.mem_singleton] at hf g3
        have := wday_from (advMonth c st.y st.m).1 (advMonth c st.y st.m).2 e d'
        have := wday_bd (advMonth c st.y st.m).1 (advMonth c st.y st.m).2 e
        omega
       ·have hnext : ∀ x, wday (advMonth c st.y st.m).1 (advMonth c st.y st.m).2 x = wday st.y st.m (x + mlen st.y st.m) := by
         intro x
         unfold advMonth
         rw [hkM, hkY]
         by_cases hm12 : st.m = 12
         ·simp only [cnext, hm12]
          rw [if_pos (by omega)]
          simp only
          have hyb := (inL_range g.hY hy).2
          unfold wday
          have e1 : dayNum (if st.y + 1 > 999999 then ((0 : Int), true) else (st.y + 1, false)).1 1 x = dayNum st.y 12 (x + mlen st.y 12) := by
           have hy9 : ¬ st.y + 1 > 999999 := by
            intro hgt
            unfold wraps at hwr
            rw [hkM, hkY] at hwr
            simp only [cnext, hm12] at hwr
            rw [if_pos (by omega), if_pos hgt] at hwr
            simp at hwr
           rw [if_neg hy9]
           show dayNum (st.y + 1) 1 x = _
           have e2 := from_first (st.y + 1) 1 x
           have e3 := from_first st.y 12 (x + mlen st.y 12)
           have e4 := dayNum_year st.y
           have e5 : mlen st.y 12 = 31 := by simp [mlen]
           omega
          rw [e1]
         ·simp only [cnext]
          rw [if_neg (by have := hv.m12; omega)]
          simp only
          unfold wday
          have e2 := from_first st.y (st.m + 1) x
          have e3 := from_first st.y st.m (x + mlen st.y st.m)
          have e4 := dayNum_next hv.m1 (by have := hv.m12; omega) (y := st.y)
          rw [show dayNum st.y (st.m + 1) x = dayNum st.y st.m (x + mlen st.y st.m) by omega]
        rw [hnext, ← hat] at hf
        exact q4 (e + mlen st.y st.m) (by omega) (by omega) hf
       ·rw [hat] at hk
        simp only [List.cons.injEq] at hk
        obtain ⟨rfl, rfl⟩ := hk
        simp only [List.mem_singleton] at hf g3
        have := wday_from (advMonth c st.y st.m).1 (advMonth c st.y st.m).2 e d'
        have := wday_bd (advMonth c st.y st.m).1 (advMonth c st.y st.m).2 e
        omega)
    (by
      intro _ hyy
      by_cases hw : c.W = []
      ·left; exact over_fits g hy h0 hw h4 h2 (h5 hw)
      ·right; intro _; simp only [setDay]; have := h6 hw; omega)
   rw [one _ hr s2]
   exact ⟨tt _ s1, s3⟩
theorem lst_59 {l : List Int} (h : Lst 0 23 l) : Lst 0 59 l := ⟨h.sorted, h.low, fun z hz => by have := h.high z hz; omega⟩
structure TF (c : Cfg) (h mi s : Int) : Prop where
 h : InL 0 59 c.H h
 mi : InL 0 59 c.Mi mi
 s : InL 0 59 c.S s
def TLt (h mi s h' mi' s' : Int) : Prop := h < h' ∨ (h = h' ∧ (mi < mi' ∨ (mi = mi' ∧ s < s')))
structure LeastT (c : Cfg) (h mi s h' mi' s' : Int) : Prop where
 fit : TF c h' mi' s'
 lt : TLt h mi s h' mi' s'
 least : ∀ h2 mi2 s2, TF c h2 mi2 s2 → TLt h mi s h2 mi2 s2 → ¬ TLt h2 mi2 s2 h' mi' s'
def NoT (c : Cfg) (h mi s : Int) : Prop := ∀ h2 mi2 s2, TF c h2 mi2 s2 → ¬ TLt h mi s h2 mi2 s2
inductive TimeRes (c : Cfg) (st : St) (st' : St) : Prop where
 | same (h mi s : Int) : LeastT c st.h st.mi st.s h mi s → st' = { st with h := h, mi := mi, s := s } → TimeRes c st st'
 | next (st0 : St) : NoT c st.h st.mi st.s → T0 c st0 → st0.y = st.y → st0.m = st.m → st0.d = st.d → (st' = ovDays c st0 ∨ st' = dayRounds c 40 st0) → TimeRes c st st'
def restTime (c : Cfg) (st : St) : St :=
 if !cvalid 0 59 c.H st.h then
  let r := cnext 0 59 c.H st.h
  let st' := resetMins c { st with h := r.1 }
  if r.2 then ovDays c st' else st'
 else if !cvalid 0 59 c.Mi st.mi then
  let r := cnext 0 59 c.Mi st.mi
  let st' := resetSecs c { st with mi := r.1 }
  if r.2 then ovHours c st' else st'
 else if !cvalid 0 59 c.S st.s then
  let r := cnext 0 59 c.S st.s
  let st' := { st with s := r.1 }
  if r.2 then ovMins c st' else st'
 else stepNext c st
theorem restTime_res {c : Cfg} (g : Good c) (st : St) (hh : 0 ≤ st.h) (hmi : 0 ≤ st.mi) (hs : 0 ≤ st.s) : TimeRes c st (restTime c st) := by
 have gH := lst_59 g.hH
 have rH := creset_least gH (by omega)
 have rM := creset_least g.hMi (by omega)
 have rS := creset_least g.hS (by omega)
 have vH := cvalid_iff (v := st.h) gH
 have vM := cvalid_iff (v := st.mi) g.hMi
 have vS := cvalid_iff (v := st.s) g.hS
 obtain ⟨h', ho, hhn⟩ : ∃ x o, cnext 0 59 c.H st.h = (x, o) := ⟨_, _, rfl⟩
 obtain ⟨mi', mo, hmn⟩ : ∃ x o, cnext 0 59 c.Mi st.mi = (x, o) := ⟨_, _, rfl⟩
 obtain ⟨s', so, hsn⟩ : ∃ x o, cnext 0 59 c.S st.s = (x, o) := ⟨_, _, rfl⟩
 have hH : (ho = false ∧ InL 0 59 c.H h' ∧ st.h < h' ∧ ∀ z, InL 0 59 c.H z → st.h < z → h' ≤ z) ∨ (ho = true ∧ h' = creset 0 59 c.H ∧ ∀ z, InL 0 59 c.H z → z ≤ st.h) := by
  cases ho
  ·exact .inl ⟨rfl, cnext_in gH (by intro; omega) hhn⟩
  ·exact .inr ⟨rfl, cnext_over_reset gH (by omega) hhn, (cnext_over gH (by omega) hhn).2.1⟩
 have hM : (mo = false ∧ InL 0 59 c.Mi mi' ∧ st.mi < mi' ∧ ∀ z, InL 0 59 c.Mi z → st.mi < z → mi' ≤ z) ∨ (mo = true ∧ mi' = creset 0 59 c.Mi ∧ ∀ z, InL 0 59 c.Mi z → z ≤ st.mi) := by
  cases mo
  ·exact .inl ⟨rfl, cnext_in g.hMi (by intro; omega) hmn⟩
  ·exact .inr ⟨rfl, cnext_over_reset g.hMi (by omega) hmn, (cnext_over g.hMi (by omega) hmn).2.1⟩
 have hS : (so = false ∧ InL 0 59 c.S s' ∧ st.s < s' ∧ ∀ z, InL 0 59 c.S z → st.s < z → s' ≤ z) ∨ (so = true ∧ s' = creset 0 59 c.S ∧ ∀ z, InL 0 59 c.S z → z ≤ st.s) := by
  cases so
  ·exact .inl ⟨rfl, cnext_in g.hS (by intro; omega) hsn⟩
  ·exact .inr ⟨rfl, cnext_over_reset g.hS (by omega) hsn, (cnext_over g.hS (by omega) hsn).2.1⟩
 have upH : ∀ st1 : St, st1.y = st.y → st1.m = st.m → st1.d = st.d → st1.h = st.h → st1.mi = creset 0 59 c.Mi → st1.s = creset 0 59 c.S →
  (∀ mi2 s2, InL 0 59 c.Mi mi2 → InL 0 59 c.S s2 → InL 0 59 c.H st.h → ¬ (st.mi < mi2 ∨ (st.mi = mi2 ∧ st.s < s2))) → TimeRes c st (ovHours c st1) := by
  intro st1 e1 e2 e3 e4 e5 e6 hno
  unfold ovHours
  rw [e4, hhn]
  simp only
  rcases hH with ⟨rfl, k1, k2, k3⟩ | ⟨rfl, k1, k2⟩
  ·refine .same h' (creset 0 59 c.Mi) (creset 0 59 c.S) ⟨⟨k1, rM.1, rS.1⟩, .inl k2, ?_⟩ ?_
   ·intro h2 mi2 s2 hf hl hl2
    unfold TLt at hl hl2
    have a1 := rM.2 mi2 hf.mi
    have a2 := rS.2 s2 hf.s
    have a3 := k3 h2 hf.h
    by_cases hh2 : h2 = st.h
    ·have := hno mi2 s2 hf.mi hf.s (hh2 ▸ hf.h)
     omega
    ·omega
   ·simp [resetMins, resetSecs, e1, e2, e3]
  ·simp only [if_true]
   refine .next { st1 with h := h' } ?_ ⟨k1, e5, e6⟩ e1 e2 e3 (.inl rfl)
   intro h2 mi2 s2 hf hl
   unfold TLt at hl
   have a3 := k2 h2 hf.h
   by_cases hh2 : h2 = st.h
   ·have := hno mi2 s2 hf.mi hf.s (hh2 ▸ hf.h)
    omega
   ·omega
 have upM : ∀ st1 : St, st1.y = st.y → st1.m = st.m → st1.d = st.d → st1.h = st.h → st1.mi = st.mi → st1.s = creset 0 59 c.S →
  InL 0 59 c.H st.h → (∀ s2, InL 0 59 c.S s2 → InL 0 59 c.Mi st.mi → ¬ st.s < s2) → TimeRes c st (ovMins c st1) := by
  intro st1 e1 e2 e3 e4 e5 e6 hvh hno
  unfold ovMins
  rw [e5, hmn]
  simp only
  rcases hM with ⟨rfl, k1, k2, k3⟩ | ⟨rfl, k1, k2⟩
  ·refine .same st.h mi' (creset 0 59 c.S) ⟨⟨hvh, k1, rS.1⟩, .inr ⟨rfl, .inl k2⟩, ?_⟩ ?_
   ·intro h2 mi2 s2 hf hl hl2
    unfold TLt at hl hl2
    have a2 := rS.2 s2 hf.s
    have a3 := k3 mi2 hf.mi
    by_cases hh2 : mi2 = st.mi
    ·have := hno s2 hf.s (hh2 ▸ hf.mi)
     omega
    ·omega
   ·simp [resetSecs, e1, e2, e3, e4]
  ·simp only [if_true]
   refine upH _ e1 e2 e3 e4 k1 e6 ?_
   intro mi2 s2 hmi2 hs2 _ hl
   have a3 := k2 mi2 hmi2
   by_cases hh2 : mi2 = st.mi
   ·have := hno s2 hs2 (hh2 ▸ hmi2)
    omega
   ·omega
 unfold restTime
 by_cases c1 : cvalid 0 59 c.H st.h = true
 ·have b1 := vH.1 c1
  rw [c1]
  by_cases c2 : cvalid 0 59 c.Mi st.mi = true
  ·have b2 := vM.1 c2
   rw [c2]
   by_cases c3 : cvalid 0 59 c.S st.s = true
   ·have b3 := vS.1 c3
    rw [c3]
    simp only [Bool.not_true, Bool.false_eq_true, if_false]
    unfold stepNext
    rw [hsn]
    simp only
    rcases hS with ⟨rfl, k1, k2, k3⟩ | ⟨rfl, k1, k2⟩
    ·refine .same st.h st.mi s' ⟨⟨b1, b2, k1⟩, .inr ⟨rfl, .inr ⟨rfl, k2⟩⟩, ?_⟩ rfl
     intro h2 mi2 s2 hf hl hl2
     unfold TLt at hl hl2
     have a3 := k3 s2 hf.s
     omega
    ·rw [hmn]
     simp only [Bool.not_true, Bool.false_eq_true, if_false]
     rcases hM with ⟨rfl, j1, j2, j3⟩ | ⟨rfl, j1, j2⟩
     ·refine .same st.h mi' s' ⟨⟨b1, j1, k1 ▸ rS.1⟩, .inr ⟨rfl, .inl j2⟩, ?_⟩ rfl
      intro h2 mi2 s2 hf hl hl2
      unfold TLt at hl hl2
      have a3 := k2 s2 hf.s
      have a4 := j3 mi2 hf.mi
      have a5 := rS.2 s2 hf.s
      omega
     ·rw [hhn]
      simp only [Bool.not_true, Bool.false_eq_true, if_false]
      rcases hH with ⟨rfl, i1, i2, i3⟩ | ⟨rfl, i1, i2⟩
      ·refine .same h' mi' s' ⟨⟨i1, j1 ▸ rM.1, k1 ▸ rS.1⟩, .inl i2, ?_⟩ rfl
       intro h2 mi2 s2 hf hl hl2
       unfold TLt at hl hl2
       have a3 := k2 s2 hf.s
       have a4 := j2 mi2 hf.mi
       have a5 := i3 h2 hf.h
       have a6 := rS.2 s2 hf.s
       have a7 := rM.2 mi2 hf.mi
       omega
      ·simp only [Bool.not_true, Bool.false_eq_true, if_false]
       refine .next { st with h := h', mi := mi', s := s' } ?_ ⟨i1, j1, k1⟩ rfl rfl rfl (.inr rfl)
       intro h2 mi2 s2 hf hl
       unfold TLt at hl
       have a3 := k2 s2 hf.s
       have a4 := j2 mi2 hf.mi
       have a5 := i2 h2 hf.h
       omega
   ·have b3 : ¬ InL 0 59 c.S st.s := fun h => c3 (vS.2 h)
    rw [Bool.not_eq_true] at c3
    rw [c3]
    simp only [Bool.not_true, Bool.not_false, Bool.false_eq_true, if_false, if_true]
    rw [hsn]
    simp only
    rcases hS with ⟨rfl, k1, k2, k3⟩ | ⟨rfl, k1, k2⟩
    ·refine .same st.h st.mi s' ⟨⟨b1, b2, k1⟩, .inr ⟨rfl, .inr ⟨rfl, k2⟩⟩, ?_⟩ rfl
     intro h2 mi2 s2 hf hl hl2
     unfold TLt at hl hl2
     have a3 := k3 s2 hf.s
     omega
    ·simp only [if_true]
     refine upM _ rfl rfl rfl rfl rfl k1 b1 ?_
     intro s2 hs2 _
     have := k2 s2 hs2; omega
  ·have b2 : ¬ InL 0 59 c.Mi st.mi := fun h => c2 (vM.2 h)
   rw [Bool.not_eq_true] at c2
   rw [c2]
   simp only [Bool.not_true, Bool.not_false, Bool.false_eq_true, if_false, if_true]
   rw [hmn]
   simp only
   rcases hM with ⟨rfl, k1, k2, k3⟩ | ⟨rfl, k1, k2⟩
   ·refine .same st.h mi' (creset 0 59 c.S) ⟨⟨b1, k1, rS.1⟩, .inr ⟨rfl, .inl k2⟩, ?_⟩ rfl
    intro h2 mi2 s2 hf hl hl2
    unfold TLt at hl hl2
    have a2 := rS.2 s2 hf.s
    have a3 := k3 mi2 hf.mi
    by_cases hh2 : mi2 = st.mi
    ·exact b2 (hh2 ▸ hf.mi)
    ·omega
   ·simp only [if_true]
    refine upH _ rfl rfl rfl rfl k1 rfl ?_
    intro mi2 s2 hmi2 hs2 _ hl
    have a3 := k2 mi2 hmi2
    by_cases hh2 : mi2 = st.mi
    ·exact b2 (hh2 ▸ hmi2)
    ·omega
 ·have b1 : ¬ InL 0 59 c.H st.h := fun h => c1 (vH.2 h)
  rw [Bool.not_eq_true] at c1
  rw [c1]
  simp only [Bool.not_false, if_true]
  rw [hhn]
  simp only
  rcases hH with ⟨rfl, k1, k2, k3⟩ | ⟨rfl, k1, k2⟩
  ·refine .same h' (creset 0 59 c.Mi) (creset 0 59 c.S) ⟨⟨k1, rM.1, rS.1⟩, .inl k2, ?_⟩ rfl
   intro h2 mi2 s2 hf hl hl2
   unfold TLt at hl hl2
   have a1 := rM.2 mi2 hf.mi
   have a2 := rS.2 s2 hf.s
   have a3 := k3 h2 hf.h
   by_cases hh2 : h2 = st.h
   ·exact b1 (hh2 ▸ hf.h)
   ·omega
  ·simp only [if_true]
   refine .next (resetMins c { st with h := h' }) ?_ ⟨k1, rfl, rfl⟩ rfl rfl rfl (.inl rfl)
   intro h2 mi2 s2 hf hl
   unfold TLt at hl
   have a3 := k2 h2 hf.h
   by_cases hh2 : h2 = st.h
   ·exact b1 (hh2 ▸ hf.h)
   ·omega
def MissedDay (c : Cfg) (y m d : Int) : Prop :=
 c.W = [] ∧ ((c.n = 0 ∧ c.D = [] ∧ c.M ≠ [] ∧ d = mlen y m) ∨ (c.n = 2 ∧ d = tgt c y m ∧ c.D ≠ [d]) ∨ (c.n = 3 ∧ d = tgt c y m))
structure InDay (st : St) : Prop where
 h0 : 0 ≤ st.h
 h1 : st.h ≤ 23
 mi0 : 0 ≤ st.mi
 mi1 : st.mi ≤ 59
 s0 : 0 ≤ st.s
 s1 : st.s ≤ 59
inductive PassRes (c : Cfg) (st : St) (st' : St) : Prop where
 | same (h mi s : Int) : LeastT c st.h st.mi st.s h mi s → Fits c st.y st.m st.d → st' = { st with h := h, mi := mi, s := s } → PassRes c st st'
 | next : (Fits c st.y st.m st.d → NoT c st.h st.mi st.s) → T0 c st' → AdvRes c (stDay st) st' → PassRes c st st'
theorem firstDay_28 {c : Cfg} (g : Good c) {y m d : Int} (h : FirstDay c y m d) (hn : c.n = 0) : d ≤ 28 := by
 by_cases h7 : d ≤ 7
 ·omega
 ·have hb := mlen_bd y m
  have hf := h.2.2.1
  unfold dfit at hf
  rw [if_pos hn] at hf
  cases hw : c.W with
  | nil =>
    rw [hw] at hf
    simp only at hf
    rcases hf with ⟨hD, _⟩ | hf
    ·have := firstDay_any h hn hw hD; omega
    ·exact (g.hD hw hn).high d hf
  | cons a t =>
    rw [hw] at hf
    simp only at hf
    have hm := h.2.1
    refine absurd ?_ (h.2.2.2 (d - 7) (by omega) (by omega))
    unfold dfit
    rw [if_pos hn, hw]
    simp only
    have := wday_from y m d (d - 7)
    have hb := wday_bd y m d
    rw [show wday y m (d - 7) = wday y m d by omega]
    exact hf
theorem forward_day {c : Cfg} {st : St} (hy : cvalid 0 999999 c.Y st.y = true) (hm : cvalid 1 12 c.M st.m = true) :
 forward c st = if dvalid c st.y st.m st.d then restTime c st else ovDays c (resetHours c st) := by
 unfold forward
 rw [hy, hm]
 simp only [Bool.not_true, Bool.false_eq_true, if_false]
 cases hd : dvalid c st.y st.m st.d
 ·simp only [Bool.not_false, if_true, Bool.false_eq_true, if_false]
  unfold ovDays
  have e1 : (resetHours c st).y = st.y := rfl
  have e2 : (resetHours c st).m = st.m := rfl
  have e3 : (resetHours c st).d = st.d := rfl
  rw [e1, e2, e3]
  obtain ⟨r, hr⟩ : ∃ r, dayNext c st.y st.m st.d = r := ⟨_, rfl⟩
  rw [hr]
  obtain ⟨r1, r2⟩ := r
  cases r2
  ·simp [resetHours, resetMins, resetSecs, setDay]
  ·simp only [if_true]
   rfl
 ·simp only [Bool.not_true, Bool.false_eq_true, if_false, if_true]
  rfl
theorem pass1 {c : Cfg} (g : Good c) (st : St) (hv : Valid st.y st.m st.d) (hy0 : 0 ≤ st.y) (hin : InDay st) (hmiss : ¬ MissedDay c st.y st.m st.d) :
 PassRes c st (forward c st) := by
 have hml := mlen_bd st.y st.m
 by_cases hy : cvalid 0 999999 c.Y st.y = true
 ·have hoy := (cvalid_iff g.hY).1 hy
  by_cases hm : cvalid 1 12 c.M st.m = true
  ·have hom := (cvalid_iff g.hM).1 hm
   rw [forward_day hy hm]
   cases hd : dvalid c st.y st.m st.d
   ·simp only [Bool.false_eq_true, if_false]
    have hnf : ¬ dfit c st.y st.m st.d := by
     intro hf
     have : dvalid c st.y st.m st.d = true := by
      refine dvalid_of g hv.d1 hv.dl hf ?_ ?_
      ·intro hw hn
       unfold dfit at hf
       rw [if_neg (by omega)] at hf
       exact hmiss ⟨hw, .inr (.inr ⟨hn, hf⟩)⟩
      ·intro hw hn
       by_cases hD : c.D = [st.d]
       ·exact hD
       ·unfold dfit at hf
        rw [if_neg (by omega)] at hf
        exact absurd ⟨hw, .inr (.inl ⟨hn, hf, hD⟩)⟩ hmiss
     rw [this] at hd; exact absurd hd (by simp)
    obtain ⟨h1, h2⟩ := ovDays_res g (resetHours c st) hv hoy hom (t0_resetHours c st).1
     (fun hn hw hD hM hl => hmiss ⟨hw, .inl ⟨hn, hD, hM, hl⟩⟩)
    exact .next (fun hf => absurd hf.fit hnf) h1 h2
   ·simp only [if_true]
    have hf := (dvalid_imp g hd).2.2
    have hr := restTime_res g st hin.h0 hin.mi0 hin.s0
    cases hr with
    | same h mi s h1 h2 => exact .same h mi s h1 ⟨hv, hoy, hom, hf⟩ h2
    | next st0 h1 h2 e1 e2 e3 h3 =>
      have hv0 : Valid st0.y st0.m st0.d := by rw [e1, e2, e3]; exact hv
      have es : stDay st0 = stDay st := by unfold stDay; rw [e1, e2, e3]
      rcases h3 with h3 | h3
      ·obtain ⟨k1, k2⟩ := ovDays_res g st0 hv0 (e1 ▸ hoy) (e2 ▸ hom) h2
        (fun hn hw hD hM hl => hmiss ⟨hw, .inl ⟨hn, hD, hM, by rw [e1, e2, e3] at hl; exact hl⟩⟩)
       rw [h3]
       exact .next (fun _ => h1) k1 (es ▸ k2)
      ·obtain ⟨k1, k2⟩ := dayRounds_res g st0 hv0 (e1 ▸ hoy) (e2 ▸ hom) h2
       rw [h3]
       exact .next (fun _ => h1) k1 (es ▸ k2)
  ·
   have hnm : ¬ OkM c st.m := fun h => hm ((cvalid_iff g.hM).2 h)
   have hno : ∀ e, st.d < e → ¬ Fits c st.y st.m e := fun e _ hf => hnm hf.om
   rw [Bool.not_eq_true] at hm
   unfold forward
   rw [hy, hm]
   simp only [Bool.not_true, Bool.not_false, Bool.false_eq_true, if_false, if_true]
   obtain ⟨x, o, hx⟩ : ∃ x o, cnext 1 12 c.M st.m = (x, o) := ⟨_, _, rfl⟩
   rw [hx]
   simp only
   cases o
   ·simp only [Bool.false_eq_true, if_false]
    have hwr : wraps c st.y st.m = false := by unfold wraps; rw [hx]; rfl
    have hn := advMonth_in g hoy hv.m1 hwr
    have ea : advMonth c st.y st.m = (st.y, x) := by unfold advMonth; rw [hx]
    rw [ea] at hn
    have hb := okM_bd g hn.om
    obtain ⟨h1, h2, h3, h4⟩ := resetDays_res g { st with m := x } hb.1 hb.2
    refine .next (fun hf => absurd hf.om hnm) h1 (.least ?_)
    unfold stDay
    rw [h2, h3]
    exact least_of_next g hv hno hn h4
   ·simp only [if_true]
    have hxr := cnext_over_reset g.hM (by omega) hx
    have hM := okM_creset g
    have hMb := okM_bd g hM.1
    obtain ⟨h1, h2, h3, h4⟩ := resetDays_res g { st with m := x } (by simp only; omega) (by simp only; omega)
    simp only at h2 h3 h4
    obtain ⟨x2, o2, hx2⟩ : ∃ x o, cnext 0 999999 c.Y st.y = (x, o) := ⟨_, _, rfl⟩
    unfold ovYears
    rw [h2, hx2]
    simp only
    cases o2
    ·simp only [Bool.false_eq_true, if_false]
     have hwr : wraps c st.y st.m = false := by unfold wraps; rw [hx, hx2]; rfl
     have hn := advMonth_in g hoy hv.m1 hwr
     have ea : advMonth c st.y st.m = (x2, x) := by unfold advMonth; rw [hx, hx2]
     rw [ea] at hn
     unfold resetMonths
     simp only
     obtain ⟨i1, i2, i3, i4⟩ := resetDays_res g { resetDays c { st with m := x } with y := x2, m := creset 1 12 c.M } (by simp only; omega) (by simp only; omega)
     simp only at i2 i3 i4
     refine .next (fun hf => absurd hf.om hnm) i1 (.least ?_)
     unfold stDay
     rw [i2, i3]
     rw [← hxr] at i4 ⊢
     exact least_of_next g hv hno hn i4
    ·simp only [if_true]
     have hwr : wraps c st.y st.m = true := by unfold wraps; rw [hx, hx2]; rfl
     obtain ⟨k1, k2, k3⟩ := advMonth_over g hwr
     have hx2r := cnext_over_reset g.hY (by omega) hx2
     have hY := okY_creset g
     have hml2 := mlen_bd st.y x
     have hd1 := h4.1
     have hd2 := h4.2.1
     refine .next (fun hf => absurd hf.om hnm) h1 (.wrap (noDay_of hv hno k1) ⟨hx2r, by simp only [h3]; exact hxr, hd1, by simp only; omega, ?_, ?_⟩ ?_)
     ·by_cases hn : c.n = 0
      ·left
       have := firstDay_28 g h4 hn
       simp only [h3]
       have := mlen_bd x2 x
       omega
      ·exact .inr hn
     ·intro hn hw hD
      exact firstDay_any h4 hn hw hD
     ·by_cases hyy : st.y = x2
      ·left
       simp only [h3]
       rw [← hyy]
       exact ⟨⟨by omega, by omega, hd1, hd2⟩, hoy, hxr ▸ hM.1, h4.2.2.1⟩
      ·right
       unfold stDay
       simp only [h3]
       have : x2 < st.y := by have := hY.2 st.y hoy; omega
       exact stale_before hv this (by omega) (by omega) (by omega)
 ·
  have hny : ¬ OkY c st.y := fun h => hy ((cvalid_iff g.hY).2 h)
  have hno : ∀ e, st.d < e → ¬ Fits c st.y st.m e := fun e _ hf => hny hf.oy
  rw [Bool.not_eq_true] at hy
  unfold forward
  rw [hy]
  simp only [Bool.not_false, if_true]
  obtain ⟨x, o, hx⟩ : ∃ x o, cnext 0 999999 c.Y st.y = (x, o) := ⟨_, _, rfl⟩
  rw [hx]
  simp only
  unfold resetMonths
  simp only
  have hM := okM_creset g
  have hMb := okM_bd g hM.1
  obtain ⟨i1, i2, i3, i4⟩ := resetDays_res g { st with y := x, m := creset 1 12 c.M } hMb.1 hMb.2
  simp only at i2 i3 i4
  cases o
  ·obtain ⟨k1, k2, k3⟩ := cnext_in g.hY (by intro; omega) hx
   refine .next (fun hf => absurd hf.oy hny) i1 (.least ?_)
   unfold stDay
   rw [i2, i3]
   refine least_of_next g hv hno ⟨k1, hM.1, .inl k2, ?_⟩ i4
   intro y2 m2 hy2 hm2 hl hl2
   unfold MLt at hl hl2
   have := hM.2 m2 hm2
   by_cases he : y2 = st.y
   ·exact hny (he ▸ hy2)
   ·have := k3 y2 hy2 (by omega)
    omega
  ·obtain ⟨k1, k2, k3⟩ := cnext_over g.hY (by omega) hx
   have hxr := cnext_over_reset g.hY (by omega) hx
   refine .next (fun hf => absurd hf.oy hny) i1 (.wrap (noDay_of hv hno ?_) ⟨by rw [i2]; exact hxr, i3, i4.1, ?_, ?_, fun hn hw hD => firstDay_any i4 hn hw hD⟩ ?_)
   ·intro y2 m2 hy2 hm2 hl
    unfold MLt at hl
    have := k2 y2 hy2
    by_cases he : y2 = st.y
    ·exact hny (he ▸ hy2)
    ·omega
   ·have := i4.2.1
    have := mlen_bd x (creset 1 12 c.M)
    omega
   ·left
    rw [i2, i3]; exact i4.2.1
   ·left
    rw [i2, i3]
    exact ⟨⟨hMb.1, hMb.2, i4.1, i4.2.1⟩, k1, hM.1, i4.2.2.1⟩
theorem pass2 {c : Cfg} (g : Good c) (st : St) (hw : Wrapped c st) (ht : T0 c st) :
 (∃ h mi s, TF c h mi s ∧ Fits c st.y st.m st.d ∧ forward c st = { st with h := h, mi := mi, s := s }) ∨
 (T0 c (forward c st) ∧ (Fits c (forward c st).y (forward c st).m (forward c st).d ∨ LeastDay c (stDay st) (stDay (forward c st)) ∨ stDay (forward c st) < stDay st)) := by
 have hY := okY_creset g
 have hM := okM_creset g
 have hMb := okM_bd g hM.1
 have gH := lst_59 g.hH
 have hoy : OkY c st.y := by rw [hw.y]; exact hY.1
 have hom : OkM c st.m := by rw [hw.m]; exact hM.1
 have hy := (cvalid_iff g.hY).2 hoy
 have hm := (cvalid_iff g.hM).2 hom
 have hml := mlen_bd st.y st.m
 have adv : ∀ st' : St, T0 c st' → AdvRes c (stDay st) st' → T0 c st' ∧ (Fits c st'.y st'.m st'.d ∨ LeastDay c (stDay st) (stDay st') ∨ stDay st' < stDay st) := by
  intro st' h1 h2
  refine ⟨h1, ?_⟩
  cases h2 with
  | least h => exact .inr (.inl h)
  | wrap _ _ h =>
    rcases h with h | h
    ·exact .inl h
    ·exact .inr (.inr h)
 rw [forward_day hy hm]
 by_cases hdl : st.d ≤ mlen st.y st.m
 ·have hv : Valid st.y st.m st.d := ⟨by rw [hw.m]; exact hMb.1, by rw [hw.m]; exact hMb.2, hw.d1, hdl⟩
  have hmiss : c.n = 0 → c.W = [] → c.D = [] → c.M ≠ [] → st.d ≠ mlen st.y st.m := by
   intro hn hW hD _ h
   have := hw.any hn hW hD
   omega
  cases hd : dvalid c st.y st.m st.d
  ·simp only [Bool.false_eq_true, if_false]
   obtain ⟨h1, h2⟩ := ovDays_res g (resetHours c st) hv hoy hom (t0_resetHours c st).1 hmiss
   exact .inr (adv _ h1 h2)
  ·simp only [if_true]
   have hf := (dvalid_imp g hd).2.2
   have rH := creset_least gH (by omega)
   have rM := creset_least g.hMi (by omega)
   have rS := creset_least g.hS (by omega)
   have hr := restTime_res g st (by rw [ht.1]; exact (inL_range gH rH.1).1) (by rw [ht.2.1]; exact (inL_range g.hMi rM.1).1) (by rw [ht.2.2]; exact (inL_range g.hS rS.1).1)
   cases hr with
   | same h mi s h1 h2 => exact .inl ⟨h, mi, s, h1.fit, ⟨hv, hoy, hom, hf⟩, h2⟩
   | next st0 h1 h2 e1 e2 e3 h3 =>
     have hv0 : Valid st0.y st0.m st0.d := by rw [e1, e2, e3]; exact hv
     have es : stDay st0 = stDay st := by unfold stDay; rw [e1, e2, e3]
     rcases h3 with h3 | h3
     ·obtain ⟨k1, k2⟩ := ovDays_res g st0 hv0 (e1 ▸ hoy) (e2 ▸ hom) h2 (by rw [e1, e2, e3]; exact hmiss)
      rw [h3]
      exact .inr (adv _ k1 (es ▸ k2))
     ·obtain ⟨k1, k2⟩ := dayRounds_res g st0 hv0 (e1 ▸ hoy) (e2 ▸ hom) h2
      rw [h3]
      exact .inr (adv _ k1 (es ▸ k2))
 ·
  have hn : c.n ≠ 0 := by
   rcases hw.day with h | h
   ·exact absurd h hdl
   ·exact h
  have hd : dvalid c st.y st.m st.d = false := by
   cases h : dvalid c st.y st.m st.d
   ·rfl
   ·exact absurd (dvalid_imp g h).2.1 hdl
  rw [hd]
  simp only [Bool.false_eq_true, if_false]
  right
  have htb := tgt_bd g hn st.y st.m
  unfold ovDays
  have e1 : (resetHours c st).y = st.y := rfl
  have e2 : (resetHours c st).m = st.m := rfl
  have e3 : (resetHours c st).d = st.d := rfl
  rw [e1, e2, e3]
  have e : dayNext c st.y st.m st.d = (((advMonth c st.y st.m).1, (advMonth c st.y st.m).2, tgt c (advMonth c st.y st.m).1 (advMonth c st.y st.m).2), false) := by
   unfold dayNext
   rw [if_neg hn, if_pos (by omega)]
  rw [e]
  simp only [Bool.false_eq_true, if_false]
  obtain ⟨k1, k2, k3, k4⟩ := t0_resetHours c (setDay (resetHours c st) ((advMonth c st.y st.m).1, (advMonth c st.y st.m).2, tgt c (advMonth c st.y st.m).1 (advMonth c st.y st.m).2))
  refine ⟨k1, .inl ?_⟩
  rw [k2, k3, k4]
  simp only [setDay]
  have ok : OkY c (advMonth c st.y st.m).1 ∧ OkM c (advMonth c st.y st.m).2 := by
   cases hwr : wraps c st.y st.m
   ·have hn := advMonth_in g hoy (by rw [hw.m]; exact hMb.1) hwr
    exact ⟨hn.oy, hn.om⟩
   ·obtain ⟨_, j2, j3⟩ := advMonth_over g hwr
    rw [j2, j3]; exact ⟨hY.1, hM.1⟩
  have hb := okM_bd g ok.2
  have htb2 := tgt_bd g hn (advMonth c st.y st.m).1 (advMonth c st.y st.m).2
  exact ⟨⟨hb.1, hb.2, htb2.1, htb2.2⟩, ok.1, ok.2, by unfold dfit; rw [if_neg hn]⟩
structure FitAt (c : Cfg) (N h mi s : Int) : Prop where
 day : ∃ y m d, Fits c y m d ∧ dayNum y m d = N
 tf : TF c h mi s
 h23 : h ≤ 23
def secOf (N h mi s : Int) : Int := ((N * 24 + h) * 60 + mi) * 60 + s
def FitA (c : Cfg) (t : Int) : Prop := ∃ N h mi s, FitAt c N h mi s ∧ t = secOf N h mi s
theorem tf_bd {c : Cfg} (g : Good c) {h mi s : Int} (t : TF c h mi s) : 0 ≤ h ∧ h ≤ 59 ∧ 0 ≤ mi ∧ mi ≤ 59 ∧ 0 ≤ s ∧ s ≤ 59 := by
 have a := inL_range (lst_59 g.hH) t.h
 have b := inL_range g.hMi t.mi
 have d := inL_range g.hS t.s
 omega
theorem value_eq (st : St) : value st = secOf (stDay st) st.h st.mi st.s := rfl
theorem sec_lt {N h mi s N' h' mi' s' : Int} (a1 : h ≤ 23) (b0 : 0 ≤ mi) (b1 : mi ≤ 59) (c0 : 0 ≤ s) (c1 : s ≤ 59)
 (d0 : 0 ≤ h') (e0 : 0 ≤ mi') (e1 : mi' ≤ 59) (f0 : 0 ≤ s') (f1 : s' ≤ 59) (hl : N < N' ∨ (N = N' ∧ TLt h mi s h' mi' s')) : secOf N h mi s < secOf N' h' mi' s' := by
 unfold secOf
 unfold TLt at hl
 omega
theorem tlt_of_sec {N h mi s h' mi' s' : Int} (b0 : 0 ≤ mi) (b1 : mi ≤ 59) (c0 : 0 ≤ s) (c1 : s ≤ 59)
 (e0 : 0 ≤ mi') (e1 : mi' ≤ 59) (f0 : 0 ≤ s') (f1 : s' ≤ 59) (hl : secOf N h mi s < secOf N h' mi' s') : TLt h mi s h' mi' s' := by
 unfold secOf at hl
 unfold TLt
 omega
theorem t0_tf {c : Cfg} (g : Good c) {st : St} (h : T0 c st) : TF c st.h st.mi st.s ∧ st.h ≤ 23 ∧ ∀ h2 mi2 s2, TF c h2 mi2 s2 → ¬ TLt h2 mi2 s2 st.h st.mi st.s := by
 obtain ⟨h1, h2, h3⟩ := h
 have rH := creset_least (lst_59 g.hH) (by omega)
 have rM := creset_least g.hMi (by omega)
 have rS := creset_least g.hS (by omega)
 refine ⟨⟨by rw [h1]; exact rH.1, by rw [h2]; exact rM.1, by rw [h3]; exact rS.1⟩, ?_, ?_⟩
 ·by_cases hH : c.H = []
  ·have : creset 0 59 c.H = 0 := by rw [hH]; decide
   omega
  ·rw [h1]
   rcases rH.1 with h | h
   ·exact absurd h.1 hH
   ·exact g.hH.high _ h
 ·intro a b d ht hl
  have k1 := rH.2 a ht.h
  have k2 := rM.2 b ht.mi
  have k3 := rS.2 d ht.s
  unfold TLt at hl
  omega
theorem day_unique {y m d y' m' d' : Int} (h : Valid y m d) (h' : Valid y' m' d') (e : dayNum y m d = dayNum y' m' d') : y = y' ∧ m = m' ∧ d = d' := by
 have a := civil_dayNum h
 have b := civil_dayNum h'
 rw [e, b] at a
 injection a with a1 a2
 injection a2 with a2 a3
 exact ⟨a1.symm, a2.symm, a3.symm⟩
theorem no_day_plain {c : Cfg} (hY : c.Y = []) (hM : c.M = []) (hD : c.D = []) (hW : c.W = []) (hn : c.n = 0) {y m d : Int} (hv : Valid y m d) (hy0 : 0 ≤ y) (hy1 : y < 900000) : ¬ NoDay c (dayNum y m d) := by
 intro h
 have hv1 : Valid (y + 1) 1 1 := ⟨by omega, by omega, by omega, by simp [mlen]⟩
 have hf : Fits c (y + 1) 1 1 := ⟨hv1, .inl ⟨hY, by omega, by omega⟩, .inl ⟨hM, by omega, by omega⟩, by unfold dfit; rw [if_pos hn, hW]; exact .inl ⟨hD, by omega, by omega⟩⟩
 have h1 := h _ _ _ hf
 have h2 := lex_lt hv hv1 (.inl (by omega))
 omega
theorem mach {c : Cfg} (g : Good c) (st : St) (hv : Valid st.y st.m st.d) (hy0 : 0 ≤ st.y) (hy1 : st.y < 900000) (hin : InDay st) (hmiss : ¬ MissedDay c st.y st.m st.d) :
 (FitA c (value (forward c st)) ∧ value st < value (forward c st) ∧ ∀ t, FitA c t → value st < t → value (forward c st) ≤ t) ∨
 ((∀ t, FitA c t → t ≤ value st) ∧ value (forward c st) ≤ value st ∧ value (forward c (forward c st)) ≤ value st) := by
 obtain ⟨i1, i2, i3, i4, i5, i6⟩ := hin
 have hpr := pass1 g st hv hy0 ⟨i1, i2, i3, i4, i5, i6⟩ hmiss
 obtain ⟨st', hst'⟩ : ∃ st', st' = forward c st := ⟨_, rfl⟩
 rw [← hst'] at hpr ⊢
 cases hpr with
 | same h mi s hl hf he =>
   left
   have hb := tf_bd g hl.fit
   have hday : stDay st' = stDay st := by rw [he]; rfl
   have hval : value st' = secOf (stDay st) h mi s := by rw [he]; rfl
   have hgt : value st < value st' := by
    rw [hval, value_eq]
    have := hl.lt
    unfold secOf; unfold TLt at this; omega
   by_cases hH : c.H = []
   ·obtain ⟨hM, hY, hD, hW, hn⟩ := g.kH hH
    have anyday : ∀ y m d, Valid y m d → 0 ≤ y → y ≤ 900001 → Fits c y m d := fun y m d hv' h0 h1 =>
     ⟨hv', .inl ⟨hY, by omega, by omega⟩, .inl ⟨hM, hv'.m1, hv'.m12⟩, by unfold dfit; rw [if_pos hn, hW]; exact .inl ⟨hD, hv'.d1, by have := mlen_bd y m; have := hv'.dl; omega⟩⟩
    have anyh : ∀ x : Int, 0 ≤ x → x ≤ 59 → InL 0 59 c.H x := fun x h0 h1 => .inl ⟨hH, h0, h1⟩
    have rM := creset_least g.hMi (by omega)
    have rS := creset_least g.hS (by omega)
    have h24 : h ≤ st.h + 1 := by
     have := hl.least (st.h + 1) (creset 0 59 c.Mi) (creset 0 59 c.S) ⟨anyh _ (by omega) (by omega), rM.1, rS.1⟩ (.inl (by omega))
     unfold TLt at this
     omega
    refine ⟨?_, hgt, ?_⟩
    ·by_cases h23 : h ≤ 23
     ·exact ⟨stDay st, h, mi, s, ⟨⟨st.y, st.m, st.d, hf, rfl⟩, hl.fit, h23⟩, hval⟩
     ·obtain ⟨y', m', d', hv', hn', hy', hy2⟩ := next_day hv
      refine ⟨stDay st + 1, h - 24, mi, s, ⟨⟨y', m', d', anyday y' m' d' hv' (by omega) (by omega), hn'⟩, ⟨anyh _ (by omega) (by omega), hl.fit.mi, hl.fit.s⟩, by omega⟩, ?_⟩
      rw [hval]; unfold secOf; omega
    ·rintro t ⟨N, h2, mi2, s2, hfa, rfl⟩ hlt
     by_cases hle : value st' ≤ secOf N h2 mi2 s2
     ·exact hle
     ·exfalso
      have hb2 := tf_bd g hfa.tf
      rw [hval] at hle
      rw [value_eq] at hlt
      have h223 := hfa.h23
      have hN : N = stDay st ∨ N = stDay st + 1 := by unfold secOf at hle hlt; omega
      have hf2 := hfa.tf
      rcases hN with rfl | rfl
      ·refine hl.least h2 mi2 s2 hf2 ?_ ?_
       ·unfold secOf at hlt; unfold TLt; omega
       ·unfold secOf at hle; unfold TLt; omega
      ·refine hl.least (h2 + 24) mi2 s2 ⟨anyh _ (by omega) (by have := hfa.h23; omega), hf2.mi, hf2.s⟩ ?_ ?_
       ·have := hfa.h23; unfold TLt; omega
       ·unfold secOf at hle; unfold TLt; omega
   ·have h23 : h ≤ 23 := by
     rcases hl.fit.h with hh | hh
     ·exact absurd hh.1 hH
     ·exact g.hH.high _ hh
    refine ⟨⟨stDay st, h, mi, s, ⟨⟨st.y, st.m, st.d, hf, rfl⟩, hl.fit, h23⟩, hval⟩, hgt, ?_⟩
    rintro t ⟨N, h2, mi2, s2, hfa, rfl⟩ hlt
    by_cases hle : value st' ≤ secOf N h2 mi2 s2
    ·exact hle
    ·exfalso
     have hb2 := tf_bd g hfa.tf
     have h223 := hfa.h23
     rw [hval] at hle
     rw [value_eq] at hlt
     have hN : N = stDay st := by unfold secOf at hle hlt; omega
     subst hN
     refine hl.least h2 mi2 s2 hfa.tf ?_ ?_
     ·unfold secOf at hlt; unfold TLt; omega
     ·unfold secOf at hle; unfold TLt; omega
 | next hno ht hadv =>
   obtain ⟨htf, ht23, htl⟩ := t0_tf g ht
   have htb := tf_bd g htf
   have sameday : ∀ h2 mi2 s2, FitAt c (stDay st) h2 mi2 s2 → value st < secOf (stDay st) h2 mi2 s2 → False := by
    intro h2 mi2 s2 hfa hlt
    obtain ⟨y, m, d, hf, hN⟩ := hfa.day
    obtain ⟨rfl, rfl, rfl⟩ := day_unique hf.v hv hN
    have hb2 := tf_bd g hfa.tf
    refine hno hf h2 mi2 s2 hfa.tf ?_
    rw [value_eq] at hlt
    unfold secOf at hlt; unfold TLt; omega
   cases hadv with
   | least hl =>
     left
     refine ⟨⟨stDay st', st'.h, st'.mi, st'.s, ⟨hl.ex, htf, ht23⟩, rfl⟩, ?_, ?_⟩
     ·have := hl.gt
      rw [value_eq, value_eq]; unfold secOf; omega
     ·rintro t ⟨N, h2, mi2, s2, hfa, rfl⟩ hlt
      have hb2 := tf_bd g hfa.tf
      have h223 := hfa.h23
      have hN : stDay st ≤ N := by rw [value_eq] at hlt; unfold secOf at hlt; omega
      rcases (show N = stDay st ∨ stDay st < N by omega) with rfl | hN
      ·exact absurd (sameday h2 mi2 s2 hfa hlt) id
      ·obtain ⟨y, m, d, hf, hN2⟩ := hfa.day
       have hge := hl.least y m d hf (by rw [hN2]; exact hN)
       rw [hN2] at hge
       have hnt := htl h2 mi2 s2 hfa.tf
       rw [value_eq]
       unfold secOf; unfold TLt at hnt; omega
   | wrap hnd hw hor =>
     right
     have none : ∀ t, FitA c t → t ≤ value st := by
      rintro t ⟨N, h2, mi2, s2, hfa, rfl⟩
      by_cases hle : secOf N h2 mi2 s2 ≤ value st
      ·exact hle
      ·exfalso
       obtain ⟨y, m, d, hf, hN2⟩ := hfa.day
       have hN3 := hnd y m d hf
       rw [hN2] at hN3
       have hb2 := tf_bd g hfa.tf
       have h223 := hfa.h23
       rcases (show N = stDay st ∨ N < stDay st by omega) with rfl | hN
       ·exact sameday h2 mi2 s2 hfa (by omega)
       ·rw [value_eq] at hle; unfold secOf at hle; omega
     have hHne : c.H ≠ [] := by
      intro hH
      obtain ⟨hM, hY, hD, hW, hn⟩ := g.kH hH
      exact no_day_plain hY hM hD hW hn hv hy0 hy1 hnd
     have fit_le : ∀ y m d h2 mi2 s2, Fits c y m d → TF c h2 mi2 s2 → secOf (dayNum y m d) h2 mi2 s2 ≤ value st := by
      intro y m d h2 mi2 s2 hf htf2
      refine none _ ⟨_, h2, mi2, s2, ⟨⟨y, m, d, hf, rfl⟩, htf2, ?_⟩, rfl⟩
      rcases htf2.h with hh | hh
      ·exact absurd hh.1 hHne
      ·exact g.hH.high _ hh
     have hv1 : value st' ≤ value st := by
      rcases hor with hor | hor
      ·exact fit_le _ _ _ _ _ _ hor htf
      ·rw [value_eq, value_eq]; unfold secOf; omega
     refine ⟨none, hv1, ?_⟩
     rcases pass2 g st' hw ht with ⟨h, mi, s, h1, h2, h3⟩ | ⟨h1, h2⟩
     ·rw [h3]
      exact fit_le _ _ _ _ _ _ h2 h1
     ·obtain ⟨k1, k2, k3⟩ := t0_tf g h1
      have kb := tf_bd g k1
      rcases h2 with h2 | h2 | h2
      ·exact fit_le _ _ _ _ _ _ h2 k1
      ·obtain ⟨y, m, d, hf, hN⟩ := h2.ex
       have := fit_le y m d _ _ _ hf k1
       rw [hN] at this
       exact this
      ·have : value (forward c st') ≤ value st' := by
        rw [value_eq, value_eq]; unfold secOf; omega
       omega
end Go.Proofs.YtmaffdhcmdhjfaaGreatDoor.Csm
