/- A length in nanoseconds as text, in plain Lean: the digits behind the point by stripping zeros are those that are reckoned one by one. -/
import Derived.Lib.ItoaMem
namespace Go.Proofs.YtmaffdhcmdhjfaaDoor
open Go.Lib

/-- k digits of a number -/
def padK : Nat → Nat → List UInt8
  | 0, _ => []
  | k + 1, r => UInt8.ofNat (48 + r / 10 ^ k) :: padK k (r % 10 ^ k)

/-- without the zeros at its end -/
def stripZ : List UInt8 → List UInt8
  | [] => []
  | a :: l => if stripZ l = [] ∧ a = 48 then [] else a :: stripZ l

theorem stripZ_snoc_zero (l : List UInt8) : stripZ (l ++ [48]) = stripZ l := by
  induction l with
  | nil => simp [stripZ]
  | cons a l ih => simp [stripZ, ih]

theorem stripZ_snoc (l : List UInt8) (a : UInt8) (h : a ≠ 48) : stripZ (l ++ [a]) = l ++ [a] := by
  induction l with
  | nil => simp [stripZ, h]
  | cons b l ih => simp [stripZ, ih]

/-- the digits behind the point, one by one -/
def fracL : Nat → Nat → List UInt8
  | 0, _ => []
  | k + 1, r => if r = 0 then [] else UInt8.ofNat (48 + r / 10 ^ k) :: fracL k (r % 10 ^ k)

theorem fracL_zero (k : Nat) : fracL k 0 = [] := by cases k <;> simp [fracL]

theorem digit_ne (n : Nat) (h0 : 0 < n) (h : n < 10) : UInt8.ofNat (48 + n) ≠ 48 := by
  intro e
  have : (UInt8.ofNat (48 + n)).toNat = (48 : UInt8).toNat := by rw [e]
  simp at this
  omega

theorem strip_pad : ∀ (k r : Nat), r < 10 ^ k → stripZ (padK k r) = fracL k r ∧ (stripZ (padK k r) = [] ↔ r = 0)
  | 0, r, h => by simp [padK, stripZ, fracL]; omega
  | k + 1, r, h => by
    have hp : 0 < 10 ^ k := Nat.pow_pos (by decide)
    obtain ⟨h1, h2⟩ := strip_pad k (r % 10 ^ k) (Nat.mod_lt _ hp)
    have hd : r / 10 ^ k < 10 := by rw [Nat.div_lt_iff_lt_mul hp]; rw [Nat.pow_succ] at h; omega
    have hdm := Nat.div_add_mod r (10 ^ k)
    simp only [padK, stripZ, fracL]
    by_cases hr : r = 0
    · subst hr
      have e : stripZ (padK k 0) = [] := by
        have := h2.2 (by simp)
        simpa using this
      simp [e]
    · rw [if_neg hr]
      by_cases hm : r % 10 ^ k = 0
      · have hq : 0 < r / 10 ^ k := by
          rcases Nat.eq_zero_or_pos (r / 10 ^ k) with h | h
          · rw [h, hm] at hdm; simp at hdm; omega
          · exact h
        have hne := digit_ne _ hq hd
        rw [if_neg (fun h => hne h.2), h1]
        exact ⟨rfl, by simp [hr]⟩
      · have : ¬ stripZ (padK k (r % 10 ^ k)) = [] := fun h => hm (h2.1 h)
        rw [if_neg (fun h => this h.1), h1]
        exact ⟨rfl, by simp [hr]⟩

theorem dg_pad (k : Nat) : ∀ (r : Nat), r < 10 ^ k → padK k r = (List.range k).map fun t => dg r (k - 1 - t) := by
  induction k with
  | zero => intro r _; simp [padK]
  | succ k ih =>
    intro r h
    have hp : 0 < 10 ^ k := Nat.pow_pos (by decide)
    rw [padK, ih _ (Nat.mod_lt _ hp), List.range_succ_eq_map]
    simp only [List.map_cons, List.map_map]
    have hd : r / 10 ^ k < 10 := by rw [Nat.div_lt_iff_lt_mul hp]; rw [Nat.pow_succ] at h; omega
    congr 1
    · unfold dg
      rw [show k + 1 - 1 - 0 = k by omega, Nat.mod_eq_of_lt hd]
    · apply List.map_congr_left
      intro t ht
      have htk : t < k := by simpa using ht
      simp only [Function.comp]
      unfold dg
      rw [show k + 1 - 1 - t.succ = k - 1 - t by omega]
      congr 2
      have e : 10 ^ k = 10 ^ (k - 1 - t) * (10 ^ t * 10) := by
        rw [← Nat.mul_assoc, ← Nat.pow_add, ← Nat.pow_succ]; congr 1; omega
      rw [e, Nat.mod_mul_right_div_self, Nat.mod_mul_left_mod]

theorem digits_unit (k r : Nat) (h : r < 10 ^ k) : decDigits (10 ^ k + r) = 49 :: padK k r := by
  have hp : 0 < 10 ^ k := Nat.pow_pos (by decide)
  have hn : nDigits (10 ^ k + r) = k + 1 := nDigits_unique k _ (by omega) (by rw [Nat.pow_succ]; omega)
  rw [decDigits_eq, hn, List.range_succ_eq_map, dg_pad k r h]
  simp only [List.map_cons, List.map_map]
  congr 1
  · unfold dg
    rw [show k + 1 - 1 - 0 = k by omega, Nat.add_div_left _ hp, Nat.div_eq_of_lt h]
    decide
  · apply List.map_congr_left
    intro t ht
    have htk : t < k := by simpa using ht
    simp only [Function.comp]
    unfold dg
    rw [show k + 1 - 1 - t.succ = k - 1 - t by omega]
    congr 2
    have e : 10 ^ k = 10 ^ (k - 1 - t) * (10 ^ t * 10) := by
      rw [← Nat.mul_assoc, ← Nat.pow_add, ← Nat.pow_succ]; congr 1; omega
    rw [e, Nat.mul_add_div (Nat.pow_pos (by decide)), Nat.mul_comm (10 ^ t) 10, Nat.mul_add_mod]

/-- a number of units with its fraction -/
def fracText (n k : Nat) : List UInt8 := decDigits (n / 10 ^ k) ++ (if n % 10 ^ k = 0 then [] else 46 :: fracL k (n % 10 ^ k))

def lenPos (n : Nat) : List UInt8 :=
  if n < 1000 then decDigits n ++ [110, 115]
  else if n < 1000000 then fracText n 3 ++ [194, 181, 115]
  else if n < 1000000000 then fracText n 6 ++ [109, 115]
  else
    let s := fracText (n % 60000000000) 9 ++ [115]
    let m := n / 60000000000
    if m = 0 then s
    else
      let s := decDigits (m % 60) ++ [109] ++ s
      if m < 60 then s else decDigits (m / 60) ++ [104] ++ s

/-- a length of time as text -/
def lenText (d : Int) : List UInt8 := if d = 0 then [48, 115] else if d < 0 then 45 :: lenPos d.natAbs else lenPos d.natAbs

end Go.Proofs.YtmaffdhcmdhjfaaDoor
