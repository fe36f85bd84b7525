/- The machine's configuration of a right expression: it is good where the expression is taken and stated. What the spec's search looks for, plain: it is what the machine's configuration has. The plain law of the next instant: the machine's passes come to what the spec's search finds. The plain laws of FnNext, FnPlaces, FnFires. -/
import Derived.Test.YtmaffdhcmdhjfaaGreatDoorNS
import Derived.Test.YtmaffdhcmdhjfaaGreatDoorNJ
import Derived.Test.YtmaffdhcmdhjfaaGreatDoorNU
import Derived.Test.YtmaffdhcmdhjfaaGreatDoorNV
set_option linter.unusedSimpArgs false
set_option linter.unusedVariables false
namespace Go.Proofs.YtmaffdhcmdhjfaaGreatDoor
open Go.RowKit Go.Lib
theorem stepsL_sorted {a b s : Int} (hs : 0 ≤ s) : (stepsL a b s).Pairwise (· ≤ ·) := by
 unfold stepsL
 rw [List.pairwise_map]
 refine List.Pairwise.imp ?_ List.pairwise_lt_range
 intro i j h
 have : s * (i : Int) ≤ s * (j : Int) := Int.mul_le_mul_of_nonneg_left (by omega) hs
 omega
theorem sortL_up (l : List Int) : (sortL l).Pairwise (· ≤ ·) := by
 have h := List.pairwise_mergeSort (le := fun x y : Int => decide (x ≤ y)) (fun a b c h1 h2 => by simp at *; omega) (fun a b => by simp; omega) l
 exact h.imp fun h => by simpa using h
theorem numsA_sorted {f : Nat} {k a b s : Int} (h : simpleB f k a b s = true) : (numsA f k a b s).Pairwise (· ≤ ·) := by
 unfold simpleB at h
 unfold numsA
 by_cases k2 : k = 2
 ·rw [if_pos k2]; exact stepsL_sorted (by omega)
 by_cases k3 : k = 3
 ·rw [if_neg k2, if_pos k3]; exact stepsL_sorted (by omega)
 rw [if_neg k2, if_neg k3] at h
 by_cases k4 : k = 4
 ·rw [if_neg k2, if_neg k3, if_pos k4]; rw [if_pos k4] at h; simp at h; exact stepsL_sorted (by omega)
 rw [if_neg k4] at h
 by_cases k5 : k = 5
 ·rw [if_neg k2, if_neg k3, if_neg k4, if_pos k5]; rw [if_pos k5] at h; simp at h; exact stepsL_sorted (by omega)
 rw [if_neg k5] at h
 by_cases k6 : k = 6
 ·rw [if_neg k2, if_neg k3, if_neg k4, if_neg k5, if_pos k6]; rw [if_pos k6] at h; simp at h; exact stepsL_sorted (by omega)
 rw [if_neg k6] at h
 cases h
theorem part_sorted {f : Nat} {p : PartV} (h : p.rightB f = true) (h8 : p.k < 8) : (p.nums f).Pairwise (· ≤ ·) := by
 cases right_case h with
 | common _ _ hc =>
   unfold PartV.nums numsP
   cases hc with
   | plain h7 h =>
     rw [if_neg h7]
     unfold plainB at h
     simp only [Bool.or_eq_true, beq_iff_eq] at h
     rcases h with (h | h) | h
     ·rw [h]; simp [numsA]
     ·rw [h]; simp [numsA]
     ·exact numsA_sorted h
   | list h7 h => rw [if_pos h7]; exact sortL_up _
 | last k => omega
 | lastWork k => omega
 | before k => omega
 | closest k => omega
 | lastOf k => omega
 | nth k => omega
theorem part_lst {f : Nat} {p : PartV} (h : p.rightB f = true) (h8 : p.k < 8) : Csm.Lst (leastF f) (mostF f) (p.nums f) :=
 ⟨part_sorted h h8, fun z hz => ((part_bounds h h8).1 z hz).1, fun z hz => ((part_bounds h h8).1 z hz).2⟩
theorem lst_nil (lo hi : Int) : Csm.Lst lo hi [] := ⟨List.Pairwise.nil, fun z hz => by simp at hz, fun z hz => by simp at hz⟩
theorem lst_one {lo hi a : Int} (h0 : lo ≤ a) (h1 : a ≤ hi) : Csm.Lst lo hi [a] :=
 ⟨List.pairwise_singleton _ _, fun z hz => by simp at hz; omega, fun z hz => by simp at hz; omega⟩
theorem Csm.Lst.wide {lo hi lo' hi' : Int} {l : List Int} (h : Csm.Lst lo hi l) (h0 : lo' ≤ lo) (h1 : hi ≤ hi') : Csm.Lst lo' hi' l :=
 ⟨h.sorted, fun z hz => by have := h.low z hz; omega, fun z hz => by have := h.high z hz; omega⟩
theorem nums_nil {f : Nat} {p : PartV} (h8 : 8 ≤ p.k) : p.nums f = [] := by
 unfold PartV.nums numsP numsA
 rw [if_neg (by omega), if_neg (by omega), if_neg (by omega), if_neg (by omega), if_neg (by omega), if_neg (by omega)]
theorem told_8 {k : Int} (h8 : 8 ≤ k) : toldK k = true := by unfold toldK; simp; omega
structure Asks (c : CronV) : Prop where
 right : RightIs c
 taken : c.takenS = true
 stated : c.statedB = true
theorem rows_cfg (c : CronV) : rowN c.fieldsL 0 = (c.p 0).nums 0 ∧ rowN c.fieldsL 1 = (c.p 1).nums 1 ∧ rowN c.fieldsL 2 = (c.p 2).nums 2 ∧ rowN c.fieldsL 3 = (c.p 3).domV ∧ rowN c.fieldsL 4 = (c.p 4).nums 4 ∧ rowN c.fieldsL 5 = (c.p 5).dowV.map dec1 ∧ rowN c.fieldsL 6 = c.numsAt 6 ∧ fieldN c.fieldsL 3 = (c.p 3).dayN ∧ fieldN c.fieldsL 5 = (c.p 5).weekN :=
 ⟨rfl, rfl, rfl, rfl, rfl, rfl, rfl, rfl, rfl⟩
def CronV.cfg (c : CronV) : Csm.Cfg := cfgF c.fieldsL
theorem dowV_lst {p : PartV} (h : p.rightB 5 = true) : Csm.Lst 0 6 (p.dowV.map dec1) := by
 have hw := within_iff.mp (dow_within h)
 refine ⟨?_, fun z hz => (hw z hz).1, fun z hz => (hw z hz).2⟩
 by_cases h8 : p.k < 8
 ·have e : p.dowV = p.nums 5 := by unfold PartV.dowV; rw [if_pos h8]
  rw [e, List.pairwise_map]
  have hb := (part_bounds h h8).1
  have hs := part_sorted h h8
  refine List.Pairwise.imp_of_mem ?_ hs
  intro a b ha hb' hab
  have h1 := hb a ha
  have h2 := hb b hb'
  have e1 : leastF 5 = 1 := rfl
  have e2 : mostF 5 = 7 := rfl
  rw [dec1_small (by omega) (by omega), dec1_small (by omega) (by omega)]
  omega
 ·have e : p.dowV = [p.a] := by unfold PartV.dowV; rw [if_neg h8]
  rw [e]; simp
theorem dow_nil {p : PartV} (h : p.rightB 5 = true) : p.dowV.map dec1 = [] ↔ toldK p.k = false := by
 by_cases h8 : p.k < 8
 ·have e : p.dowV = p.nums 5 := by unfold PartV.dowV; rw [if_pos h8]
  rw [e, List.map_eq_nil_iff]
  exact (part_bounds h h8).2
 ·have e : p.dowV = [p.a] := by unfold PartV.dowV; rw [if_neg h8]
  rw [e, told_8 (by omega)]; simp
theorem cfg_good {c : CronV} (h : Asks c) : Csm.Good c.cfg := by
 obtain ⟨hr, ht, hs⟩ := h
 have r := fun j hj => all_right hr.all j hj
 have q := fun (j : Nat) (hj : j < 7) (h3 : j ≠ 3) (h5 : j ≠ 5) => part_lst (r j hj) (right_small (r j hj) h3 h5)
 have nl := fun (j : Nat) (hj : j < 7) (h3 : j ≠ 3) (h5 : j ≠ 5) => (part_bounds (r j hj) (right_small (r j hj) h3 h5)).2
 have hY : Csm.Lst 1970 2199 (c.numsAt 6) := by
  unfold CronV.numsAt
  rw [if_neg (by decide)]
  split
  ·exact lst_nil _ _
  ·exact q 6 (by decide) (by decide) (by decide)
 have eY : (c.numsAt 6 = []) ↔ ((!c.six && toldK (c.p 6).k) = false) := by
  unfold CronV.numsAt
  rw [if_neg (by decide)]
  cases hsx : c.six
  ·rw [if_neg (by simp)]; simpa using nl 6 (by decide) (by decide) (by decide)
  ·rw [if_pos (by simp)]; simp
 have e2 : c.numsAt 2 = (c.p 2).nums 2 := by unfold CronV.numsAt; simp
 have e3 : c.numsAt 3 = (c.p 3).nums 3 := by unfold CronV.numsAt; simp
 have eW := dow_nil (r 5 (by decide))
 have hlen := (dow_law (c := c) (r 5 (by decide))).2.1
 have ht2 : (over28 (c.numsAt 3) = false ∧ ¬ ((c.p 3).k = 9 ∧ 27 < (c.p 3).a) ∧ ¬ ((c.p 3).k = 10 ∧ 28 < (c.p 3).a)) ∧ (¬ (1 < (c.numsAt 5).length ∧ toldK (c.p 4).k = true)) ∧
  (0 < (c.numsAt 2).length ∨ (toldK (c.p 3).k = false ∧ toldK (c.p 5).k = false ∧ toldK (c.p 4).k = false ∧ (!c.six && toldK (c.p 6).k) = false)) := by
  unfold CronV.takenS at ht
  rw [Bool.and_eq_true, Bool.and_eq_true, Bool.not_eq_true', Bool.not_eq_true', Bool.or_eq_false_iff, Bool.or_eq_false_iff, Bool.or_eq_false_iff] at ht
  obtain ⟨⟨⟨⟨a1, a2⟩, a3⟩, a4, a5⟩, a6⟩ := ht
  refine ⟨⟨a1, ?_, ?_⟩, ?_, ?_⟩
  ·rintro ⟨b1, b2⟩; simp [b1, b2] at a2
  ·rintro ⟨b1, b2⟩; simp [b1, b2] at a3
  ·rintro ⟨b1, b2⟩; simp [b1, b2] at a5
  ·rw [Bool.or_eq_true] at a6
   rcases a6 with b | b
   ·left; simpa using b
   ·right
    rw [Bool.and_eq_true, Bool.and_eq_true, Bool.and_eq_true] at b
    obtain ⟨⟨⟨b1, b2⟩, b3⟩, b4⟩ := b
    exact ⟨by simpa using b1, by simpa using b2, by simpa using b3, by rw [Bool.not_eq_true'] at b4; exact b4⟩
 have hs2 : ¬ ((c.p 5).k = 13 ∧ (c.p 5).b = 5) ∧ ¬ ((c.p 3).k = 10 ∧ (c.p 3).a = 2) ∧ ((!c.six && toldK (c.p 6).k) = false ∨ ((c.p 5).nums 5).length < 2) := by
  unfold CronV.statedB CronV.byYears at hs
  rw [Bool.and_eq_true, Bool.not_eq_true', Bool.or_eq_false_iff, Bool.or_eq_true] at hs
  obtain ⟨⟨a1, a2⟩, a3⟩ := hs
  refine ⟨?_, ?_, ?_⟩
  ·rintro ⟨b1, b2⟩; simp [b1, b2] at a1
  ·rintro ⟨b1, b2⟩; simp [b1, b2] at a2
  ·rcases a3 with b | b
   ·left; rw [Bool.not_eq_true'] at b; exact b
   ·right; simpa using b
 clear ht hs
 obtain ⟨⟨t1, t2, t3⟩, t4, t5⟩ := ht2
 obtain ⟨s1, s2, s3⟩ := hs2
 have R3 := right_case (r 3 (by decide))
 have R5 := right_case (r 5 (by decide))
 have D3 : toldK (c.p 3).k = false → (c.p 3).domV = [] ∧ (c.p 3).dayN = 0 := by
  intro hu
  have h8 : (c.p 3).k < 8 := by
   rcases Int.lt_or_le (c.p 3).k 8 with h | h
   ·exact h
   ·rw [told_8 h] at hu; cases hu
  refine ⟨?_, ?_⟩
  ·unfold PartV.domV; rw [if_pos h8]; exact (part_bounds (r 3 (by decide)) h8).2.mpr hu
  ·unfold PartV.dayN; rw [if_neg (by omega), if_neg (by omega), if_neg (by omega), if_neg (by omega)]
 have l28 : (c.p 3).k < 8 → Csm.Lst 1 28 ((c.p 3).nums 3) := by
  intro h8
  have hl := part_lst (r 3 (by decide)) h8
  refine ⟨hl.sorted, fun z hz => hl.low z hz, fun z hz => ?_⟩
  rcases Int.lt_or_le 28 z with h | h
  ·rw [← e3] at hz
   rw [over28_iff.mpr ⟨z, hz, h⟩] at t1; cases t1
  ·exact h
 have DC : ((c.p 3).k < 8 ∧ (c.p 3).dayN = 0 ∧ (c.p 3).domV = (c.p 3).nums 3) ∨ ((c.p 3).dayN = 1 ∧ (c.p 3).domV = []) ∨ (-27 ≤ (c.p 3).dayN ∧ (c.p 3).dayN ≤ -1 ∧ (c.p 3).domV = []) ∨
  ((c.p 3).dayN = 2 ∧ ∃ a, (c.p 3).domV = [a] ∧ 1 ≤ a ∧ a ≤ 28 ∧ a ≠ 2) ∨ ((c.p 3).dayN = 3 ∧ (c.p 3).domV = [0]) := by
  cases R3 with
  | common k8 k0 _ =>
    left
    refine ⟨k8, ?_, ?_⟩
    ·unfold PartV.dayN; rw [if_neg (by omega), if_neg (by omega), if_neg (by omega), if_neg (by omega)]
    ·unfold PartV.domV; rw [if_pos k8]
  | last k _ =>
    right; left
    refine ⟨?_, ?_⟩
    ·unfold PartV.dayN; rw [if_pos k]
    ·unfold PartV.domV; rw [if_neg (by omega), if_neg (by omega), if_neg (by omega)]
  | before k _ a1 a31 =>
    right; right; left
    have e : (c.p 3).dayN = -(c.p 3).a := by unfold PartV.dayN; rw [if_neg (by omega), if_pos k]
    rw [e]
    refine ⟨by omega, by omega, ?_⟩
    unfold PartV.domV; rw [if_neg (by omega), if_neg (by omega), if_neg (by omega)]
  | closest k _ a1 a31 =>
    right; right; right; left
    refine ⟨?_, (c.p 3).a, ?_, a1, by omega, fun e => s2 ⟨k, e⟩⟩
    ·unfold PartV.dayN; rw [if_neg (by omega), if_neg (by omega), if_pos k]
    ·unfold PartV.domV; rw [if_neg (by omega), if_pos k]
  | lastWork k _ =>
    right; right; right; right
    refine ⟨?_, ?_⟩
    ·unfold PartV.dayN; rw [if_neg (by omega), if_neg (by omega), if_neg (by omega), if_pos k]
    ·unfold PartV.domV; rw [if_neg (by omega), if_neg (by omega), if_pos k]
  | lastOf _ k => exact absurd k (by decide)
  | nth _ k => exact absurd k (by decide)
 have WC : ((c.p 5).k < 8 ∧ (c.p 5).weekN = 0 ∧ (c.p 5).dowV = (c.p 5).nums 5) ∨ ((c.p 5).weekN = -1 ∧ (c.p 5).dowV = [(c.p 5).a]) ∨ (1 ≤ (c.p 5).weekN ∧ (c.p 5).weekN ≤ 4 ∧ (c.p 5).dowV = [(c.p 5).a]) := by
  cases R5 with
  | common k8 k0 _ =>
    left
    refine ⟨k8, ?_, ?_⟩
    ·unfold PartV.weekN; rw [if_neg (by omega), if_neg (by omega)]
    ·unfold PartV.dowV; rw [if_pos k8]
  | lastOf k _ _ _ =>
    right; left
    refine ⟨?_, ?_⟩
    ·unfold PartV.weekN; rw [if_pos k]
    ·unfold PartV.dowV; rw [if_neg (by omega)]
  | nth k _ _ _ b1 b5 =>
    right; right
    have e : (c.p 5).weekN = (c.p 5).b := by unfold PartV.weekN; rw [if_neg (by omega), if_pos k]
    rw [e]
    refine ⟨b1, ?_, ?_⟩
    ·have : (c.p 5).b ≠ 5 := fun h => s1 ⟨k, h⟩
     omega
    ·unfold PartV.dowV; rw [if_neg (by omega)]
  | last _ k => exact absurd k (by decide)
  | lastWork _ k => exact absurd k (by decide)
  | before _ k => exact absurd k (by decide)
  | closest _ k => exact absurd k (by decide)
 have n4 := nl 4 (by decide) (by decide) (by decide)
 have n2 := nl 2 (by decide) (by decide) (by decide)
 have eW5 : c.cfg.W = (c.p 5).dowV.map dec1 := rfl
 have eD : c.cfg.D = (c.p 3).domV := rfl
 have nW : c.cfg.W = [] → c.cfg.n = (c.p 3).dayN := fun h => if_pos h
 have nW' : c.cfg.W ≠ [] → c.cfg.n = (c.p 5).weekN := fun h => if_neg h
 refine ⟨hY.wide (by omega) (by omega), q 4 (by decide) (by decide) (by decide), q 2 (by decide) (by decide) (by decide), ?_, q 1 (by decide) (by decide) (by decide), q 0 (by decide) (by decide) (by decide), ?_, dowV_lst (r 5 (by decide)), ?_, ?_⟩
 ·intro hH
  have hH' : (c.p 2).nums 2 = [] := hH
  rcases t5 with h | ⟨u3, u5, u4, u6⟩
  ·rw [e2, hH'] at h; simp at h
  ·have hw : c.cfg.W = [] := eW.mpr u5
   exact ⟨n4.mpr u4, eY.mpr u6, (D3 u3).1, hw, by rw [nW hw]; exact (D3 u3).2⟩
 ·intro hw hn
  rw [nW hw] at hn
  rw [eD]
  rcases DC with ⟨k8, _, e⟩ | ⟨e, _⟩ | ⟨_, e, _⟩ | ⟨e, _⟩ | ⟨e, _⟩
  ·rw [e]; exact l28 k8
  all_goals omega
 ·intro hw
  have ht5 : toldK (c.p 5).k = true := by
   rcases h : toldK (c.p 5).k
   ·exact absurd (eW.mpr h) hw
   ·rfl
  have ht3 : toldK (c.p 3).k = false := by
   rcases hr.told with h | h
   ·exact h
   ·rw [ht5] at h; cases h
  refine ⟨(D3 ht3).1, ?_⟩
  rw [nW' hw, eW5]
  rcases WC with ⟨k8, e0, ev⟩ | ⟨e, ev⟩ | ⟨e1, e4, ev⟩
  ·left
   refine ⟨e0, ?_⟩
   have el : ((c.p 5).dowV.map dec1).length = ((c.p 5).nums 5).length := by rw [ev]; simp
   rcases Nat.lt_or_ge 1 ((c.p 5).nums 5).length with h1 | h1
   ·right
    have e5 : (c.numsAt 5).length = ((c.p 5).nums 5).length := by unfold CronV.numsAt; rw [if_pos rfl]; simp
    refine ⟨n4.mpr ?_, eY.mpr ?_⟩
    ·rcases h : toldK (c.p 4).k
     ·rfl
     ·exact absurd ⟨by rw [e5]; exact h1, h⟩ t4
    ·rcases s3 with h | h
     ·exact h
     ·omega
   ·left; rw [el]; exact h1
  ·right; exact ⟨⟨_, by rw [ev]; rfl⟩, .inl e⟩
  ·right; exact ⟨⟨_, by rw [ev]; rfl⟩, .inr ⟨e1, e4⟩⟩
 ·intro hw
  rw [nW hw, eD]
  rcases DC with ⟨_, e, _⟩ | h | h | h | h
  ·exact .inl e
  ·exact .inr (.inl h)
  ·exact .inr (.inr (.inl h))
  ·exact .inr (.inr (.inr (.inl h)))
  ·exact .inr (.inr (.inr (.inr h)))
theorem cfg_years {c : CronV} (hr : RightIs c) : ∀ z ∈ c.cfg.Y, 1970 ≤ z ∧ z ≤ 2199 := by
 intro z hz
 have hz' : z ∈ c.numsAt 6 := hz
 unfold CronV.numsAt at hz'
 rw [if_neg (by decide)] at hz'
 split at hz'
 ·simp at hz'
 ·exact (part_bounds (all_right hr.all 6 (by decide)) (right_small (all_right hr.all 6 (by decide)) (by decide) (by decide))).1 z hz'
end Go.Proofs.YtmaffdhcmdhjfaaGreatDoor
namespace Go.Proofs.YtmaffdhcmdhjfaaGreatDoor
open Go.RowKit Go.Lib
theorem day_fits {c : CronV} (h : RightIs c) {y m d : Int} (hv : Cal.Valid y m d) : c.dayB y m d = true ↔ Csm.dfit c.cfg y m d := by
 have r := fun j hj => all_right h.all j hj
 have R3 := right_case (r 3 (by decide))
 have R5 := right_case (r 5 (by decide))
 have eW := dow_nil (r 5 (by decide))
 have hb := Cal.mlen_bd y m
 have eW5 : c.cfg.W = (c.p 5).dowV.map dec1 := rfl
 have eD : c.cfg.D = (c.p 3).domV := rfl
 have nW : c.cfg.W = [] → c.cfg.n = (c.p 3).dayN := fun h => if_pos h
 have nW' : c.cfg.W ≠ [] → c.cfg.n = (c.p 5).weekN := fun h => if_neg h
 have un5 : 8 ≤ (c.p 3).k → c.cfg.W = [] := fun h8 => by
  rcases h.told with h' | h'
  ·rw [told_8 h8] at h'; cases h'
  ·exact eW.mpr h'
 cases R3 with
 | last k _ =>
   have w := un5 (by omega)
   have n : c.cfg.n = 1 := by rw [nW w]; unfold PartV.dayN; rw [if_pos k]
   unfold CronV.dayB Csm.dfit Csm.tgt
   rw [if_pos k, n, if_neg (by decide), w]
   simp
 | before k _ a1 a31 =>
   have w := un5 (by omega)
   have n : c.cfg.n = -(c.p 3).a := by rw [nW w]; unfold PartV.dayN; rw [if_neg (by omega), if_pos k]
   unfold CronV.dayB Csm.dfit Csm.tgt
   rw [if_neg (by omega), if_pos k, n, if_neg (by omega), w]
   simp only
   rw [if_neg (by omega), if_neg (by omega), if_neg (by omega), decide_eq_true_eq]
   omega
 | closest k _ a1 a31 =>
   have w := un5 (by omega)
   have n : c.cfg.n = 2 := by rw [nW w]; unfold PartV.dayN; rw [if_neg (by omega), if_neg (by omega), if_pos k]
   have d3 : c.cfg.D = [(c.p 3).a] := by rw [eD]; unfold PartV.domV; rw [if_neg (by omega), if_pos k]
   have hd : Csm.dfit c.cfg y m d = (d = Csm.tgt c.cfg y m) := by unfold Csm.dfit; rw [n, if_neg (by decide)]
   have ht : Csm.tgt c.cfg y m = Csm.closestW y m (if Cal.mlen y m < (c.p 3).a then Cal.mlen y m else (c.p 3).a) := by
    unfold Csm.tgt; rw [w]; simp only; rw [n, if_neg (by decide), if_pos rfl, d3]
   rw [hd, ht]
   unfold CronV.dayB
   rw [if_neg (by omega), if_neg (by omega), if_pos k, decide_eq_true_eq]
 | lastWork k _ =>
   have w := un5 (by omega)
   have n : c.cfg.n = 3 := by rw [nW w]; unfold PartV.dayN; rw [if_neg (by omega), if_neg (by omega), if_neg (by omega), if_pos k]
   unfold CronV.dayB Csm.dfit Csm.tgt
   rw [if_neg (by omega), if_neg (by omega), if_neg (by omega), if_pos k, n, if_neg (by decide), w]
   simp
 | lastOf _ k => exact absurd k (by decide)
 | nth _ k => exact absurd k (by decide)
 | common k8 k0 _ =>
   have n3 : c.numsAt 3 = (c.p 3).nums 3 := by unfold CronV.numsAt; simp
   have n5 : c.numsAt 5 = ((c.p 5).nums 5).map dec1 := by unfold CronV.numsAt; simp
   have d3 : c.cfg.D = c.numsAt 3 := by rw [eD, n3]; unfold PartV.domV; rw [if_pos k8]
   have z3 : (c.p 3).dayN = 0 := by unfold PartV.dayN; rw [if_neg (by omega), if_neg (by omega), if_neg (by omega), if_neg (by omega)]
   have hw := Csm.wday_bd y m d
   have d1 := hv.d1
   have dl := hv.dl
   unfold CronV.dayB
   rw [if_neg (by omega), if_neg (by omega), if_neg (by omega), if_neg (by omega)]
   cases R5 with
   | common j8 j0 _ =>
     rw [if_neg (by omega), if_neg (by omega)]
     have e5 : c.cfg.W = c.numsAt 5 := by rw [eW5, n5]; unfold PartV.dowV; rw [if_pos j8]
     by_cases w : c.cfg.W = []
     ·have n : c.cfg.n = 0 := by rw [nW w, z3]
      unfold Csm.dfit
      rw [if_pos n, w, ← e5, w, ← d3]
      simp only
      rw [← among_iff (lo := 1) (hi := 31) (by omega) (by omega)]
      simp [amongB]
     ·have n : c.cfg.n = 0 := by rw [nW' w]; unfold PartV.weekN; rw [if_neg (by omega), if_neg (by omega)]
      have u3 : toldK (c.p 3).k = false := by
       rcases h.told with h' | h'
       ·exact h'
       ·exact absurd (eW.mpr h') w
      have e3 : c.numsAt 3 = [] := by rw [n3]; exact (part_bounds (r 3 (by decide)) k8).2.mpr u3
      unfold Csm.dfit
      rw [if_pos n, ← e5, e3]
      obtain ⟨a, t, hat⟩ := List.exists_cons_of_ne_nil w
      rw [hat]
      simp [amongB]
   | lastOf j _ a1 a7 =>
     rw [if_pos j]
     have ed : dec1 (c.p 5).a = (c.p 5).a - 1 := dec1_small a1 a7
     have e5 : c.cfg.W = [(c.p 5).a - 1] := by rw [eW5]; unfold PartV.dowV; rw [if_neg (by omega)]; simp [ed]
     have n : c.cfg.n = -1 := by rw [nW' (by rw [e5]; simp)]; unfold PartV.weekN; rw [if_pos j]
     unfold Csm.dfit Csm.tgt
     rw [n, if_neg (by decide), e5]
     simp only
     rw [← Csm.dowN_last (by omega) (by omega) d1 dl]
     simp
   | nth j _ a1 a7 b1 b5 =>
     rw [if_neg (by omega), if_pos j]
     have ed : dec1 (c.p 5).a = (c.p 5).a - 1 := dec1_small a1 a7
     have e5 : c.cfg.W = [(c.p 5).a - 1] := by rw [eW5]; unfold PartV.dowV; rw [if_neg (by omega)]; simp [ed]
     have n : c.cfg.n = (c.p 5).b := by rw [nW' (by rw [e5]; simp)]; unfold PartV.weekN; rw [if_neg (by omega), if_pos j]
     unfold Csm.dfit Csm.tgt
     rw [n, if_neg (by omega), e5]
     simp only
     rw [← Csm.dowN_nth (by omega) (by omega) b1 d1]
     simp
   | last _ k => exact absurd k (by decide)
   | lastWork _ k => exact absurd k (by decide)
   | before _ k => exact absurd k (by decide)
   | closest _ k => exact absurd k (by decide)
theorem nums_cfg (c : CronV) : c.numsAt 0 = c.cfg.S ∧ c.numsAt 1 = c.cfg.Mi ∧ c.numsAt 2 = c.cfg.H ∧ c.numsAt 4 = c.cfg.M ∧ c.numsAt 6 = c.cfg.Y := by
 refine ⟨?_, ?_, ?_, ?_, rfl⟩ <;> (unfold CronV.numsAt; simp; rfl)
theorem spec_fit {c : CronV} (h : RightIs c) {t : Int} (f : SpecFit c t) : Csm.FitA c.cfg t := by
 obtain ⟨e0, e1, e2, e4, e6⟩ := nums_cfg c
 obtain ⟨y, m, d, hh, mi, s, f, rfl⟩ := f
 have v := f.v
 have y0 := f.y0
 have y1 := f.y1
 have h0 := f.h0
 have h1 := f.h1
 refine ⟨_, hh, mi, s, ⟨⟨y, m, d, ⟨v, ?_, ?_, (day_fits h v).mp f.od⟩, rfl⟩, ⟨?_, ?_, ?_⟩, h1⟩, rfl⟩
 ·exact (among_iff (lo := 0) (hi := 999999) (by omega) (by omega)).mp (by rw [← e6]; exact f.oy)
 ·exact (among_iff v.m1 v.m12).mp (by rw [← e4]; exact f.om)
 ·exact (among_iff h0 (by omega)).mp (by rw [← e2]; exact f.th)
 ·exact (among_iff f.mi0 f.mi1).mp (by rw [← e1]; exact f.tm)
 ·exact (among_iff f.s0 f.s1).mp (by rw [← e0]; exact f.ts)
theorem fit_spec {c : CronV} (h : Asks c) {t : Int} (t0 : 0 ≤ t) (t1 : t < Cal.dayNum 2200 1 1 * 86400) (f : Csm.FitA c.cfg t) : SpecFit c t := by
 have g := cfg_good h
 obtain ⟨e0, e1, e2, e4, e6⟩ := nums_cfg c
 obtain ⟨N, hh, mi, s, ⟨⟨y, m, d, fd, rfl⟩, tf, h23⟩, rfl⟩ := f
 have b := Csm.tf_bd g tf
 have v := fd.v
 have y0 : 1970 ≤ y := by
  rcases Int.lt_or_le y 1970 with hl | hl
  ·have := Cal.in_year v hl
   have e : Cal.dayNum 1970 1 1 = 0 := by decide
   rw [e] at this
   unfold Csm.secOf at t0
   omega
  ·exact hl
 have y1 : y ≤ 2199 := by
  rcases Int.lt_or_le 2199 y with hl | hl
  ·have v1 : Cal.Valid 2200 1 1 := ⟨by omega, by omega, by omega, by decide⟩
   have h3 : Cal.dayNum 2200 1 1 ≤ Cal.dayNum y m d := by
    rcases Int.lt_or_le (Cal.dayNum y m d) (Cal.dayNum 2200 1 1) with hx | hx
    ·have hlex := Cal.lex_of_lt v v1 hx
     have m1 := v.m1
     have d1 := v.d1
     rcases hlex with a | ⟨a, a' | ⟨a', a''⟩⟩ <;> omega
    ·exact hx
   unfold Csm.secOf at t1
   omega
  ·exact hl
 refine ⟨y, m, d, hh, mi, s, ⟨v, y0, y1, ?_, ?_, (day_fits h.right v).mpr fd.fit, by omega, h23, by omega, by omega, by omega, by omega, ?_, ?_, ?_⟩, rfl⟩
 ·rw [e6]; exact (among_iff (lo := 0) (hi := 999999) (by omega) (by omega)).mpr fd.oy
 ·rw [e4]; exact (among_iff v.m1 v.m12).mpr fd.om
 ·rw [e2]; exact (among_iff (lo := 0) (hi := 59) (by omega) (by omega)).mpr tf.h
 ·rw [e1]; exact (among_iff (lo := 0) (hi := 59) (by omega) (by omega)).mpr tf.mi
 ·rw [e0]; exact (among_iff (lo := 0) (hi := 59) (by omega) (by omega)).mpr tf.s
end Go.Proofs.YtmaffdhcmdhjfaaGreatDoor
namespace Go.Proofs.YtmaffdhcmdhjfaaGreatDoor
open Go.RowKit Go.Lib
def CronV.cfgM (c : CronV) : Csm.Cfg := cfgF (wildF c.fieldsL)
theorem lastDef_nil {fs : List (List Int × Int)} : ∀ k : Nat, lastDef fs k = -1 → ∀ i, i < k → rowN fs i = []
 | 0, _, i, hi => by omega
 | k + 1, h, i, hi => by
   have h' : (if 0 < ((fs[k]?.map (·.1.length)).getD 0) then (k : Int) else lastDef fs k) = -1 := h
   split at h'
   ·omega
   ·rename_i hn
    rcases Nat.lt_or_ge i k with hl | hl
    ·exact lastDef_nil k h' i hl
    ·obtain rfl : i = k := by omega
     unfold rowN
     cases hf : fs[i]? with
     | none => rfl
     | some f =>
       rw [hf] at hn
       simp only [Option.map_some, Option.getD_some] at hn ⊢
       exact List.length_eq_zero_iff.mp (by omega)
theorem cfgM_is (c : CronV) : ∃ l, c.cfgM = { c.cfg with S := l } ∧ (l = c.cfg.S ∨ (c.cfg.S = [] ∧ l = stepsL 0 59 1)) := by
 by_cases h : lastDef c.fieldsL 7 = -1
 ·have e : wildF c.fieldsL = (stepsL 0 59 1, 0) :: c.fieldsL.tail := by
   unfold wildF
   rw [if_pos h]
   rfl
  refine ⟨stepsL 0 59 1, ?_, .inr ⟨lastDef_nil 7 h 0 (by omega), rfl⟩⟩
  unfold CronV.cfgM
  rw [e]
  rfl
 ·have e : wildF c.fieldsL = c.fieldsL := by unfold wildF; rw [if_neg h]
  refine ⟨c.cfg.S, ?_, .inl rfl⟩
  unfold CronV.cfgM
  rw [e]
  rfl
theorem mem_59 {x : Int} : x ∈ stepsL 0 59 1 ↔ 0 ≤ x ∧ x ≤ 59 := by
 constructor
 ·exact fun h => stepsL_bounds (by omega) (by omega) h
 ·rintro ⟨h0, h1⟩
  unfold stepsL
  rw [List.mem_map]
  exact ⟨x.toNat, by rw [List.mem_range]; omega, by omega⟩
theorem wild_s {c : CronV} {l : List Int} (h : l = c.cfg.S ∨ (c.cfg.S = [] ∧ l = stepsL 0 59 1)) (s : Int) : Csm.InL 0 59 l s ↔ Csm.InL 0 59 c.cfg.S s := by
 rcases h with rfl | ⟨h1, rfl⟩
 ·exact Iff.rfl
 ·rw [h1]
  unfold Csm.InL
  rw [mem_59]
  constructor
  ·rintro (⟨h, _⟩ | h)
   ·exact absurd h (stepsL_ne _ _ _)
   ·exact .inl ⟨rfl, h⟩
  ·rintro (⟨_, h⟩ | h)
   ·exact .inr h
   ·simp at h
theorem fitA_wild {c : CronV} {t : Int} : Csm.FitA c.cfgM t ↔ Csm.FitA c.cfg t := by
 obtain ⟨l, e, hl⟩ := cfgM_is c
 rw [e]
 have hs := wild_s hl
 constructor
 ·rintro ⟨N, h, mi, s, ⟨⟨y, m, d, f, hN⟩, tf, h23⟩, rfl⟩
  exact ⟨N, h, mi, s, ⟨⟨y, m, d, ⟨f.v, f.oy, f.om, f.fit⟩, hN⟩, ⟨tf.h, tf.mi, (hs s).mp tf.s⟩, h23⟩, rfl⟩
 ·rintro ⟨N, h, mi, s, ⟨⟨y, m, d, f, hN⟩, tf, h23⟩, rfl⟩
  exact ⟨N, h, mi, s, ⟨⟨y, m, d, ⟨f.v, f.oy, f.om, f.fit⟩, hN⟩, ⟨tf.h, tf.mi, (hs s).mpr tf.s⟩, h23⟩, rfl⟩
theorem nums_small {f : Nat} {p : PartV} (h : p.rightB f = true) : (p.nums f).length ≤ 100000000 := by have := nums_len h; omega
theorem cfgM_ok {c : CronV} (h : Asks c) : CfgOk c.cfgM := by
 obtain ⟨l, e, hl⟩ := cfgM_is c
 have g := cfg_good h
 have r := fun j hj => all_right h.right.all j hj
 have hS : Csm.Lst 0 59 l := by
  rcases hl with rfl | ⟨_, rfl⟩
  ·exact g.hS
  ·exact ⟨stepsL_sorted (by omega), fun z hz => (mem_59.mp hz).1, fun z hz => (mem_59.mp hz).2⟩
 have hSl : l.length ≤ 100000000 := by
  rcases hl with rfl | ⟨_, rfl⟩
  ·exact nums_small (r 0 (by decide))
  ·unfold stepsL; simp
 have hy := cfg_years h.right
 rw [e]
 refine ⟨⟨g.hY, g.hM, g.hH, g.kH, g.hMi, hS, g.hD, g.hW, g.kW, g.kD⟩, hy, hSl, nums_small (r 1 (by decide)), nums_small (r 2 (by decide)), nums_small (r 4 (by decide)), ?_, ?_, ?_⟩
 ·show (c.numsAt 6).length ≤ 100000000
  exact numsAt_len h.right.all 6 (by decide)
 ·show ((c.p 3).domV).length ≤ 100000000
  unfold PartV.domV
  repeat' split
  ·exact nums_small (r 3 (by decide))
  all_goals simp
 ·show ((c.p 5).dowV.map dec1).length ≤ 100000000
  rw [List.length_map]
  unfold PartV.dowV
  split
  ·exact nums_small (r 5 (by decide))
  ·simp
theorem missed_of {c : CronV} (h : RightIs c) {y m d : Int} (hm : Csm.MissedDay c.cfgM y m d) : missD c y m d = true := by
 obtain ⟨l, e, _⟩ := cfgM_is c
 rw [e] at hm
 have r := fun j hj => all_right h.all j hj
 have hw : c.cfg.W = [] := hm.1
 have hor : ((c.cfg.n = 0 ∧ c.cfg.D = [] ∧ c.cfg.M ≠ [] ∧ d = Cal.mlen y m) ∨ (c.cfg.n = 2 ∧ d = Csm.tgt c.cfg y m ∧ c.cfg.D ≠ [d]) ∨ (c.cfg.n = 3 ∧ d = Csm.tgt c.cfg y m)) := hm.2
 have n : c.cfg.n = (c.p 3).dayN := if_pos hw
 have eD : c.cfg.D = (c.p 3).domV := rfl
 have u5 : toldK (c.p 5).k = false := (dow_nil (r 5 (by decide))).mp hw
 have kinds : ((c.p 3).k < 8 ∧ (c.p 3).dayN = 0) ∨ ((c.p 3).k = 8 ∧ (c.p 3).dayN = 1) ∨ ((c.p 3).k = 9 ∧ (c.p 3).dayN < 0) ∨ ((c.p 3).k = 10 ∧ (c.p 3).dayN = 2) ∨ ((c.p 3).k = 11 ∧ (c.p 3).dayN = 3) := by
  unfold PartV.dayN
  cases right_case (r 3 (by decide)) with
  | common k => left; refine ⟨k, ?_⟩; rw [if_neg (by omega), if_neg (by omega), if_neg (by omega), if_neg (by omega)]
  | last k => right; left; exact ⟨k, by rw [if_pos k]⟩
  | before k _ a _ => right; right; left; exact ⟨k, by rw [if_neg (by omega), if_pos k]; omega⟩
  | closest k => right; right; right; left; exact ⟨k, by rw [if_neg (by omega), if_neg (by omega), if_pos k]⟩
  | lastWork k => right; right; right; right; exact ⟨k, by rw [if_neg (by omega), if_neg (by omega), if_neg (by omega), if_pos k]⟩
  | lastOf _ k => exact absurd k (by decide)
  | nth _ k => exact absurd k (by decide)
 unfold missD
 rcases hor with ⟨h0, hD, hM, hd⟩ | ⟨h2, hd, hD⟩ | ⟨h3, hd⟩
 ·rw [n] at h0
  have k8 : (c.p 3).k < 8 := by omega
  have u3 : toldK (c.p 3).k = false := (part_bounds (r 3 (by decide)) k8).2.mp (by rw [eD] at hD; unfold PartV.domV at hD; rw [if_pos k8] at hD; exact hD)
  have t4 : toldK (c.p 4).k = true := by
   rcases ht : toldK (c.p 4).k
   ·exact absurd ((part_bounds (r 4 (by decide)) (right_small (r 4 (by decide)) (by decide) (by decide))).2.mpr ht) hM
   ·rfl
  rw [u3, u5, t4]
  simp [hd]
 ·have k10 : (c.p 3).k = 10 := by rw [n] at h2; omega
  have d3 : c.cfg.D = [(c.p 3).a] := by rw [eD]; unfold PartV.domV; rw [if_neg (by omega), if_pos k10]
  have ht : Csm.tgt c.cfg y m = Csm.closestW y m (if Cal.mlen y m < (c.p 3).a then Cal.mlen y m else (c.p 3).a) := by
   unfold Csm.tgt; rw [hw]; simp only; rw [h2, if_neg (by decide), if_pos rfl, d3]
  have hda : d ≠ (c.p 3).a := by rw [d3] at hD; intro e; exact hD (by rw [e])
  rw [ht] at hd
  rw [← hd, k10]
  simp [hda]
 ·have k11 : (c.p 3).k = 11 := by rw [n] at h3; omega
  have ht : Csm.tgt c.cfg y m = Csm.closestW y m (Cal.mlen y m) := by
   unfold Csm.tgt; rw [hw]; simp only; rw [h3, if_pos rfl]
  rw [ht] at hd
  rw [← hd, k11]
  simp
inductive FireRes (C : Csm.Cfg) (n prev : Int) : Prop where
 | some (v : Int) : Csm.FitA C v → secAt n prev < v → (∀ t, Csm.FitA C t → secAt n prev < t → v ≤ t) → fireO C n prev = Option.some (v - n * 60) → FireRes C n prev
 | none : (∀ t, Csm.FitA C t → t ≤ secAt n prev) → fireO C n prev = Option.none → FireRes C n prev
theorem fire_mach {c : CronV} (h : Asks c) {n prev : Int} (s0 : 0 ≤ secAt n prev) (s1 : secAt n prev ≤ 10000000000) (hm : c.missedB (secAt n prev) = false) : FireRes c.cfgM n prev := by
 have g := (cfgM_ok h).good
 have hK : fireO c.cfgM n prev = fireK c.cfgM (prev / 1000000000) (n * 60) (if n = 0 then 1 else 2) (stSec (secAt n prev)) := rfl
 have hq : prev / 1000000000 = secAt n prev - n * 60 := by unfold secAt; omega
 rw [hq] at hK
 generalize hsec : secAt n prev = sec at *
 obtain ⟨y, m, d, e, v, hN, y0⟩ := Cal.civil_valid (n := sec / 86400) (by omega)
 have e1 : (stSec sec).y = y := by unfold stSec; rw [e]
 have e2 : (stSec sec).m = m := by unfold stSec; rw [e]
 have e3 : (stSec sec).d = d := by unfold stSec; rw [e]
 have ev : Csm.value (stSec sec) = sec := by
  unfold Csm.value
  rw [e1, e2, e3, hN]
  show ((sec / 86400 * 24 + sec % 86400 / 3600) * 60 + sec % 86400 / 60 % 60) * 60 + sec % 86400 % 60 = sec
  omega
 have hin : Csm.InDay (stSec sec) := ⟨by show 0 ≤ sec % 86400 / 3600; omega, by show sec % 86400 / 3600 ≤ 23; omega, by show 0 ≤ sec % 86400 / 60 % 60; omega, by show sec % 86400 / 60 % 60 ≤ 59; omega, by show 0 ≤ sec % 86400 % 60; omega, by show sec % 86400 % 60 ≤ 59; omega⟩
 have hmiss : ¬ Csm.MissedDay c.cfgM (stSec sec).y (stSec sec).m (stSec sec).d := by
  rw [e1, e2, e3]
  intro hmd
  have := missed_of h.right hmd
  unfold CronV.missedB at hm
  rw [e] at hm
  rw [this] at hm
  cases hm
 have hsane := (stSec_sane c.cfgM (a := sec) s0 s1).1
 have hM := Csm.mach g (stSec sec) (by rw [e1, e2, e3]; exact v) (by rw [e1]; omega) (by
  have h1 := Cal.year_mono 1970 (y - 1970).toNat
  have e4 : 1970 + ((y - 1970).toNat : Int) = y := by omega
  rw [e4] at h1
  have e0 : Cal.dayNum 1970 1 1 = 0 := by decide
  have h2 := Cal.from_first y m d
  have h3 := Cal.year_first (y := y) v.m1 v.m12
  have := v.d1
  rw [e1]; omega) hin hmiss
 rw [ev] at hM
 generalize stSec sec = st at *
 rcases hM with ⟨f, hlt, hmin⟩ | ⟨hno, h1, h2⟩
 ·refine FireRes.some (Csm.value (Csm.forward c.cfgM st)) f (by rw [hsec]; exact hlt) (by rw [hsec]; exact hmin) ?_
  rw [hK]
  by_cases hn : n = 0
  ·rw [if_pos hn]; unfold fireK; rw [if_pos (by omega)]
  ·rw [if_neg hn]; unfold fireK; rw [if_pos (by omega)]
 ·refine FireRes.none (by rw [hsec]; exact hno) ?_
  rw [hK]
  by_cases hn : n = 0
  ·rw [if_pos hn]; unfold fireK fireK; rw [if_neg (by omega)]
  ·rw [if_neg hn]; unfold fireK fireK fireK; rw [if_neg (by omega), if_neg (by omega)]
end Go.Proofs.YtmaffdhcmdhjfaaGreatDoor
namespace Go.Proofs.YtmaffdhcmdhjfaaGreatDoor
open Go.RowKit Go.Lib
theorem fit_2200 {c : CronV} {t : Int} (h : SpecFit c t) : 0 ≤ t ∧ t < Cal.dayNum 2200 1 1 * 86400 := by
 obtain ⟨y, m, d, hh, mi, s, k, rfl⟩ := h
 rw [sec_eq]
 have := k.h0; have := k.h1; have := k.mi0; have := k.mi1; have := k.s0; have := k.s1
 have h1 := first_le (y' := 1970) k.v k.y0
 have h2 := Cal.in_year k.v (by have := k.y1; omega : y < 2200)
 have e0 : Cal.dayNum 1970 1 1 = 0 := by decide
 omega
theorem wrap_in {x : Int} (h : -9223372036854775808 ≤ x ∧ x ≤ 9223372036854775807) : wrap64 x = x := by
 unfold wrap64; omega
theorem years_ne {c : CronV} (h : RightIs c) (hy : c.byYears = true) : c.cfg.Y ≠ [] := by
 intro e
 have e' : c.numsAt 6 = [] := e
 unfold CronV.byYears at hy
 rw [Bool.and_eq_true, Bool.not_eq_true'] at hy
 have r6 := all_right h.all 6 (by decide)
 unfold CronV.numsAt at e'
 rw [if_neg (by decide), if_neg (by rw [hy.1]; simp)] at e'
 have := (part_bounds r6 (right_small r6 (by decide) (by decide))).2.mp e'
 rw [this] at hy
 exact absurd hy.2 (by decide)
theorem fit_years {c : CronV} (h : RightIs c) (hy : c.byYears = true) {t : Int} (f : Csm.FitA c.cfg t) (hh : Asks c) : t < Cal.dayNum 2200 1 1 * 86400 := by
 have g := cfg_good hh
 obtain ⟨N, h', mi, s, ⟨⟨y, m, d, fd, rfl⟩, tf, h23⟩, rfl⟩ := f
 have b := Csm.tf_bd g tf
 have hy2 : y ≤ 2199 := by
  rcases fd.oy with ⟨e, _⟩ | hm
  ·exact absurd e (years_ne h hy)
  ·exact (cfg_years h y hm).2
 have h2 := Cal.in_year fd.v (by omega : y < 2200)
 rw [sec_eq]
 omega
structure InRange (n prev : Int) : Prop where
 n0 : -1440 ≤ n
 n1 : n ≤ 1440
 p0 : 31536000000000000 ≤ prev
 p1 : prev ≤ 7258118399999999999
theorem InRange.sec {n prev : Int} (h : InRange n prev) : 0 ≤ secAt n prev ∧ secAt n prev ≤ 7258300000 := by
 have := h.n0; have := h.n1; have := h.p0; have := h.p1
 unfold secAt; omega
theorem nextC_some {C : Csm.Cfg} {n prev x : Int} (h : InRange n prev) (hx : fireO C n prev = some x) : nextC C n prev = (wrap64 (x * 1000000000), 0) := by
 have := h.p0; have := h.p1
 unfold nextC
 rw [if_neg (by omega), hx]
theorem nextC_none {C : Csm.Cfg} {n prev : Int} (h : InRange n prev) (hx : fireO C n prev = none) : nextC C n prev = (0, 1) := by
 have := h.p0; have := h.p1
 unfold nextC
 rw [if_neg (by omega), hx]
theorem next_law {c : CronV} (h : Asks c) {n prev : Int} (hi : InRange n prev) (hm : c.missedB (secAt n prev) = false) :
 (∀ t, NextPost c (secAt n prev) t true → nextC c.cfgM n prev = ((t - n * 60) * 1000000000, 0)) ∧ (NextPost c (secAt n prev) 0 false → c.byYears = true → nextC c.cfgM n prev = (0, 1)) := by
 have hs := hi.sec
 have n0 := hi.n0
 have n1 := hi.n1
 have hF := fire_mach h hs.1 (by omega) hm
 refine ⟨fun t ht => ?_, fun hn hy => ?_⟩
 ·rcases ht with ⟨_, f, g, l⟩ | ⟨e, _⟩
  ·have f1 := fitA_wild.mpr (spec_fit h.right f)
   have ft := fit_2200 f
   cases hF with
   | some v fv hv hmin hfo =>
     have hvt := hmin t f1 g
     have sv := fit_spec h (t := v) (by omega) (by omega) (fitA_wild.mp fv)
     have htv := l v sv hv
     have e : v = t := by omega
     subst e
     have e84 : Cal.dayNum 2200 1 1 = 84006 := by decide
     rw [nextC_some hi hfo, wrap_in (by omega)]
   | none hno _ =>
     have := hno t f1
     omega
  ·cases e
 ·rcases hn with ⟨e, _⟩ | ⟨_, _, l⟩
  ·cases e
  ·cases hF with
   | some v fv hv hmin hfo =>
     have sv := fit_spec h (t := v) (by omega) (fit_years h.right hy (fitA_wild.mp fv) h) (fitA_wild.mp fv)
     have := l v sv
     omega
   | none hno hfo => exact nextC_none hi hfo
theorem places_law {c : CronV} (h : Asks c) {n prev : Int} (hi : InRange n prev) (hm : c.missedB (secAt n prev) = false) (hi2 : InRange 0 (prev + n * 60000000000)) :
 (nextC c.cfgM n prev).2 = (nextC c.cfgM 0 (prev + n * 60000000000)).2 ∧ ((nextC c.cfgM n prev).2 = 0 → (nextC c.cfgM n prev).1 = wrap64 ((nextC c.cfgM 0 (prev + n * 60000000000)).1 - n * 60000000000)) := by
 have e : secAt 0 (prev + n * 60000000000) = secAt n prev := by unfold secAt; omega
 have hs := hi.sec
 have hF := fire_mach h hs.1 (by omega) hm
 have hG := fire_mach h (n := 0) (prev := prev + n * 60000000000) (by rw [e]; exact hs.1) (by rw [e]; omega) (by rw [e]; exact hm)
 cases hF with
 | some v fv hv hmin hfo =>
   cases hG with
   | some v' fv' hv' hmin' hfo' =>
     rw [e] at hv' hmin'
     have h1 := hmin v' fv' hv'
     have h2 := hmin' v fv hv
     have ev : v' = v := by omega
     subst ev
     rw [nextC_some hi hfo, nextC_some hi2 hfo']
     refine ⟨rfl, fun _ => ?_⟩
     simp only
     unfold wrap64
     omega
   | none hno' _ =>
     rw [e] at hno'
     have := hno' v fv
     omega
 | none hno hfo =>
   cases hG with
   | some v' fv' hv' hmin' hfo' =>
     rw [e] at hv'
     have := hno v' fv'
     omega
   | none hno' hfo' =>
     rw [nextC_none hi hfo, nextC_none hi2 hfo']
     exact ⟨rfl, fun h => by cases h⟩
end Go.Proofs.YtmaffdhcmdhjfaaGreatDoor
