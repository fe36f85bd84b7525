/- fillRangeValues, fillStepValues. -/
import Derived.Test.YtmaffdhcmdhjfaaGreatDoorZzE
import Derived.OwnWalk
namespace Go.Proofs.YtmaffdhcmdhjfaaGreatDoor
open Go.RowKit Go.Lib

/-- the numbers from one to another one in steps -/
def stepsL (a b s : Int) : List Int := (List.range (((b - a) / s).toNat + 1)).map fun i : Nat => a + s * i

theorem steps_own {w : World} {base : Nat} {v : Value} {a s : Int} {n : Nat} {xs : List Value} (h : w.ownsRow base 3 1 v n xs) (hx : ∀ j : Nat, j < n → xs[j]? = some (.int .i64 (a + s * j))) :
    Ints w base v ((List.range n).map fun i : Nat => a + s * i) := by
  have e : xs = ints ((List.range n).map fun i : Nat => a + s * i) := by
    apply List.ext_getElem?
    intro j
    by_cases hj : j < n
    · rw [hx j hj]; simp [ints, hj]
    · rw [List.getElem?_eq_none (by have := h.1; omega), List.getElem?_eq_none (by simp [ints]; omega)]
  unfold Ints
  rw [← e]
  simpa using h

theorem set_get {xs : List Value} {a s : Int} {k n : Nat} (hl : xs.length = n) (hk : k < n) (h : ∀ j : Nat, j < k → xs[j]? = some (.int .i64 (a + s * j))) :
    ∀ j : Nat, j < k + 1 → (xs.set k (.int .i64 (a + s * k)))[j]? = some (.int .i64 (a + s * j)) := by
  intro j hj
  by_cases e : j = k
  · subst e; rw [List.getElem?_set_self (by omega)]
  · rw [List.getElem?_set_ne (fun h => e h.symm)]; exact h j (by omega)

theorem step_lt (a b s : Int) (hs : 1 ≤ s) (hab : a ≤ b) (k : Nat) : k < ((b - a) / s).toNat + 1 ↔ a + s * k ≤ b := by
  have h0 : 0 ≤ (b - a) / s := Int.ediv_nonneg (by omega) (by omega)
  have h1 : (k : Int) ≤ (b - a) / s ↔ (k : Int) * s ≤ b - a := Int.le_ediv_iff_mul_le (by omega)
  rw [Int.mul_comm] at h1
  constructor
  · intro h; have := h1.1 (by omega); omega
  · intro h; have := h1.2 (by omega); omega

set_option maxHeartbeats 800000 in
set_option maxRecDepth 1000000 in
theorem fill_range (a b : Int) (w : World) (h0 : 0 ≤ a) (hab : a ≤ b) (hb : b ≤ 4000) :
    Calls Tryz.prog 83 #[.int .i64 a, .int .i64 b] w fun e w' => ∃ v, e = .returned (.tuple #[v, .nilIface]) ∧ Ints w' w.heap.size v (stepsL a b 1) ∧ Ext w w' := by
  obtain ⟨i0, hi, hz0, hz1, hz2⟩ := info_parts Tryz.info3
  obtain ⟨n, hn⟩ : ∃ n : Nat, n = ((b - a) / 1).toNat + 1 := ⟨_, rfl⟩
  have hlt := step_lt a b 1 (by omega) hab
  have hnb : (n : Int) = b - a + 1 := by rw [hn]; omega
  unfold stepsL
  rw [← hn]
  rw [← hn] at hlt
  have Hlt := Lib.hid hlt
  clear hlt hn
  go_enter Tryz.func83, Tryz.ntmps83
  go_wp2_with (first
    | (at_make; refine wpList_make_full _ rfl _ _ 38 rfl w.heap.size 3 i0 (.int .i64 0) 1 Tryz.underlying38 hi hz0 hz1 .i64 .i64 (b - a + 1) (b - a + 1) n rfl rfl hnb.symm hnb.symm ?c1 ?c2 ?c3 ?_)
    | fail)
  case c1 => rw [hz2]; omega
  case c2 => unfold maxLen; omega
  case c3 => omega
  intro w1 hown hgr
  have hx1 : Ext w w1 := Below.grown (Below.refl _ _) hgr (Nat.le_refl _) (fun k h => by cases h)
  go_wp2_with fail
  go_loopw [8, 9] (fun i j wr => ∃ (k : Nat) (I : Int) (xs : List Value), k ≤ n ∧ i = .int .i64 I ∧ j = .int .i64 k ∧ 0 ≤ I ∧ I ≤ 8000 ∧ Hid (I = a + 1 * k) ∧ Hid (wr.ownsRow w.heap.size 3 1 (.slice (some ⟨w.heap.size, 0, none⟩) n n) n xs) ∧ Ext w wr ∧ Hid (∀ j : Nat, j < k → xs[j]? = some (.int .i64 (a + 1 * j))))
    (fun _ j _ => n - (RowKit.intOf j).toNat)
  case atStart => exact ⟨0, a, _, Nat.zero_le _, rfl, rfl, h0, by omega, by show _ = _; simp, hown, hx1, fun j hj => by omega⟩
  case round =>
    obtain ⟨k, I, xs, hk, rfl, rfl, hI0, hI1, HI, How, hx, Hxs⟩ := hrel
    clear hown
    by_cases hlt : k < n
    · obtain ⟨u, hu⟩ : ∃ u, xs[k]? = some u := ⟨_, List.getElem?_eq_getElem (by have := How.out.1; omega)⟩
      have hck : wr.cell? ⟨w.heap.size, k, none⟩ = some u := by rw [How.out.cellAt k (by omega)]; exact hu
      have hfk := How.out.frozenAt k
      have hle : I ≤ b := by rw [HI.out]; exact (Hlt.out k).1 hlt
      have HI2 : Hid (I + 1 = a + 1 * ((k + 1 : Nat) : Int)) := by
        show _ = _
        rw [HI.out, Int.natCast_succ, Int.mul_add]; omega
      have Hst := Lib.hid (How.out.stored k (.int .i64 I))
      have Hset : Hid (∀ j : Nat, j < k + 1 → (xs.set k (.int .i64 I))[j]? = some (.int .i64 (a + 1 * j))) := by
        show ∀ _, _
        rw [HI.out]; exact set_get (by have := How.out.1; omega) hlt Hxs.out
      clear hu
      go_wp2_with fail
      go_roundw
      case rel => exact ⟨k + 1, _, _, by omega, by go_num, by go_num, by omega, by omega, HI2, Hst.out.1, hx.set (Nat.le_refl _) _ _, Hset⟩
      case measure => simp [RowKit.intOf]; omega
    · have hkn : k = n := by omega
      have hgt : b < I := by
        have h := (Hlt.out k)
        rw [← HI.out] at h
        omega
      subst hkn
      go_wp2_with fail
      go_ret2
      exact ⟨_, rfl, steps_own How.out Hxs.out, hx⟩

set_option maxHeartbeats 800000 in
set_option maxRecDepth 1000000 in
theorem fill_step (a s b : Int) (w : World) (h0 : 0 ≤ a) (hab : a ≤ b) (hb : b ≤ 4000) (hs1 : 1 ≤ s) (hs2 : s ≤ 4000) :
    Calls Tryz.prog 155 #[.int .i64 a, .int .i64 s, .int .i64 b] w fun e w' => ∃ v, e = .returned (.tuple #[v, .nilIface]) ∧ Ints w' w.heap.size v (stepsL a b s) ∧ Ext w w' := by
  obtain ⟨i0, hi, hz0, hz1, hz2⟩ := info_parts Tryz.info3
  obtain ⟨n, hn⟩ : ∃ n : Nat, n = ((b - a) / s).toNat + 1 := ⟨_, rfl⟩
  have hlt := step_lt a b s hs1 hab
  have hq0 : 0 ≤ (b - a) / s := Int.ediv_nonneg (by omega) (by omega)
  have hqb : (b - a) / s ≤ b - a := Int.ediv_le_self _ (by omega)
  have hqn : (b - a) / s = (n : Int) - 1 := by omega
  have hqt : (b - a).tdiv s = (n : Int) - 1 := by rw [Int.tdiv_eq_ediv_of_nonneg (by omega)]; exact hqn
  have hs0 : (s == 0) = false := by rw [beq_eq_false_iff_ne]; omega
  have hnb : n ≤ 4001 := by omega
  unfold stepsL
  rw [← hn]
  rw [← hn] at hlt
  have Hlt := Lib.hid hlt
  clear hlt hn
  go_enter Tryz.func155, Tryz.ntmps155
  have Hq := Lib.hid hqn
  clear hqn hq0 hqb
  go_wp2_with (first
    | (at_make; refine wpList_make_full _ rfl _ _ 38 rfl w.heap.size 3 i0 (.int .i64 0) 1 Tryz.underlying38 hi hz0 hz1 .i64 .i64 (n : Int) (n : Int) n rfl rfl rfl rfl ?c1 ?c2 ?c3 ?_)
    | fail)
  case c1 => rw [hz2]; omega
  case c2 => unfold maxLen; omega
  case c3 => omega
  intro w1 hown hgr
  have hx1 : Ext w w1 := Below.grown (Below.refl _ _) hgr (Nat.le_refl _) (fun k h => by cases h)
  go_wp2_with fail
  go_loopw [10, 11] (fun i j wr => ∃ (k : Nat) (I : Int) (xs : List Value), k ≤ n ∧ i = .int .i64 I ∧ j = .int .i64 k ∧ 0 ≤ I ∧ I ≤ 8000 ∧ Hid (I = a + s * k) ∧ Hid (wr.ownsRow w.heap.size 3 1 (.slice (some ⟨w.heap.size, 0, none⟩) n n) n xs) ∧ Ext w wr ∧ Hid (∀ j : Nat, j < k → xs[j]? = some (.int .i64 (a + s * j))))
    (fun _ j _ => n - (RowKit.intOf j).toNat)
  case atStart => exact ⟨0, a, _, Nat.zero_le _, rfl, rfl, h0, by omega, by show _ = _; simp, hown, hx1, fun j hj => by omega⟩
  case round =>
    obtain ⟨k, I, xs, hk, rfl, rfl, hI0, hI1, HI, How, hx, Hxs⟩ := hrel
    clear hown
    by_cases hlt : k < n
    · obtain ⟨u, hu⟩ : ∃ u, xs[k]? = some u := ⟨_, List.getElem?_eq_getElem (by have := How.out.1; omega)⟩
      have hck : wr.cell? ⟨w.heap.size, k, none⟩ = some u := by rw [How.out.cellAt k (by omega)]; exact hu
      have hfk := How.out.frozenAt k
      have hle : I ≤ b := by rw [HI.out]; exact (Hlt.out k).1 hlt
      have HI2 : Hid (I + s = a + s * ((k + 1 : Nat) : Int)) := by
        show _ = _
        rw [HI.out, Int.natCast_succ, Int.mul_add]; omega
      have Hst := Lib.hid (How.out.stored k (.int .i64 I))
      have Hset : Hid (∀ j : Nat, j < k + 1 → (xs.set k (.int .i64 I))[j]? = some (.int .i64 (a + s * j))) := by
        show ∀ _, _
        rw [HI.out]; exact set_get (by have := How.out.1; omega) hlt Hxs.out
      clear hu
      go_wp2_with fail
      go_roundw
      case rel => exact ⟨k + 1, _, _, by omega, by go_num, by go_num, by omega, by omega, HI2, Hst.out.1, hx.set (Nat.le_refl _) _ _, Hset⟩
      case measure => simp [RowKit.intOf]; omega
    · have hkn : k = n := by omega
      have hgt : b < I := by
        have h := (Hlt.out k)
        rw [← HI.out] at h
        omega
      subst hkn
      go_wp2_with fail
      go_ret2
      exact ⟨_, rfl, steps_own How.out Hxs.out, hx⟩

end Go.Proofs.YtmaffdhcmdhjfaaGreatDoor
