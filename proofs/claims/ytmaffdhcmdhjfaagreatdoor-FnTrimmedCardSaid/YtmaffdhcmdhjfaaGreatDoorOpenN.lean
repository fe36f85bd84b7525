/- A slice of numbers that came in, opened. -/
import Derived.Test.YtmaffdhcmdhjfaaGreatDoorOpen
import Derived.Test.YtmaffdhcmdhjfaaGreatDoorSpM
namespace Go.Proofs.YtmaffdhcmdhjfaaGreatDoor
open Go.RowKit Go.Lib Go.ChangeShapes Go.WideShapes Go.Deep

section
variable {H : Type} {enc : TypeId × Value → H} {W : World} {base : Nat} {sp : Nat → Bool} {held : Bool}
set_option maxRecDepth 1000000 in
theorem open_nums {r : Reach} {b0 : Nat} {v : Value} {d : DataW H} {p : List MemPlace} (hv : Value.okWide Tryz.prog W r b0 38 v) (h : DataW.Trod enc Tryz.prog W base sp held 38 v d p) :
    ∃ (ga : Option Addr) (cap : Nat) (gs : List Int), v = .slice ga gs.length cap ∧ gs.length ≤ 9223372036854775807 ∧ (∀ z ∈ gs, Joins.In64 z) ∧ NumsAt W ga gs := by
  obtain ⟨a0, len0, cap0, rfl⟩ := okWide_slice Tryz.underlying38 hv
  obtain ⟨fuel, hf⟩ := h
  have hcs : (Value.slice a0 len0 cap0).cells.toList = [.slice a0 len0 cap0] := rfl
  rw [hcs] at hf
  rcases open_ints Tryz.underlying38 Tryz.underlying3 c3 hf with ⟨e, _⟩ | ⟨a, len, cap, zs, e, _, hle, hcm, hzl, _, hcell, hwf⟩
  · simp at e
    obtain ⟨rfl, rfl, rfl⟩ := e
    exact ⟨none, 0, [], rfl, by simp, by simp, fun h => absurd rfl h⟩
  · simp at e
    obtain ⟨rfl, rfl, rfl⟩ := e
    have hlz : len0 ≤ zs.length := by rw [hzl]; split <;> omega
    have htl : (zs.take len0).length = len0 := by rw [List.length_take]; omega
    refine ⟨some a, cap0, zs.take len0, by rw [htl], by rw [htl]; unfold maxLen at hcm; omega, fun z hz => in64_of_wf (hwf z (List.mem_of_mem_take hz)), ?_⟩
    intro hne
    have hpos : 0 < len0 := by
      rcases Nat.eq_zero_or_pos len0 with h0 | h0
      · rw [h0] at hne; simp at hne
      · exact h0
    have h0 := hcell 0 (by omega)
    have e0 : a.add 0 = a := by simp [Addr.add]
    rw [e0] at h0
    have hsp := spot_none h0
    obtain ⟨bl, of, spt⟩ := a
    simp only at hsp
    subst hsp
    refine ⟨bl, of, rfl, fun j z hj => ?_⟩
    have hjl : j < len0 := by
      have := (List.getElem?_eq_some_iff.mp hj).1
      omega
    have hz : zs.getD j 0 = z := by
      rw [List.getElem?_take_of_lt hjl] at hj
      simp [List.getD_eq_getElem?_getD, hj]
    have hc := hcell j (by omega)
    rw [hz] at hc
    have ea : (⟨bl, of, none⟩ : Addr).add j = ⟨bl, of + j, none⟩ := by
      unfold Addr.add
      by_cases h0 : j = 0
      · subst h0; simp
      · rw [if_neg h0]
    rw [ea] at hc
    exact hc
end
end Go.Proofs.YtmaffdhcmdhjfaaGreatDoor
