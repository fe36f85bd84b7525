/- spec.gap, Spaced. -/
import Derived.Test.YtmaffdhcmdhjfaaGreatDoorLFields
namespace Go.Proofs.YtmaffdhcmdhjfaaGreatDoor
open Go.RowKit Go.Lib

def gapTab : List (List UInt8) := [[], [32], [32, 32], [9], [32, 10], [13, 10, 32], [12]]
/-- the white space of a number -/
def gapL (gs : List Int) (k : Nat) : List UInt8 := match gs[k]? with
  | none => []
  | some g => gapTab.getD (g % 7).toNat []
theorem gapL_len (gs : List Int) (k : Nat) : (gapL gs k).length ≤ 3 := by
  unfold gapL
  split
  · simp
  · rename_i g _
    have : (g % 7).toNat = 0 ∨ (g % 7).toNat = 1 ∨ (g % 7).toNat = 2 ∨ (g % 7).toNat = 3 ∨ (g % 7).toNat = 4 ∨ (g % 7).toNat = 5 ∨ (g % 7).toNat = 6 := by omega
    rcases this with h | h | h | h | h | h | h <;> rw [h] <;> decide
theorem gapL_ws (gs : List Int) (k : Nat) : GapC (gapL gs k) := by
  unfold gapL
  split
  · intro c hc; simp at hc
  · rename_i g _
    have : (g % 7).toNat = 0 ∨ (g % 7).toNat = 1 ∨ (g % 7).toNat = 2 ∨ (g % 7).toNat = 3 ∨ (g % 7).toNat = 4 ∨ (g % 7).toNat = 5 ∨ (g % 7).toNat = 6 := by omega
    rcases this with h | h | h | h | h | h | h <;> rw [h] <;> unfold GapC <;> decide

/-- numbers that came in lie in a slice -/
def NumsAt (W : World) (a : Option Addr) (gs : List Int) : Prop :=
  gs ≠ [] → ∃ b o, a = some ⟨b, o, none⟩ ∧ ∀ (j : Nat) (z : Int), gs[j]? = some z → W.cell? ⟨b, o + j, none⟩ = some (.int .i64 z)
theorem NumsAt.ext {W W' : World} {a : Option Addr} {gs : List Int} (h : NumsAt W a gs) (x : Ext W W') : NumsAt W' a gs := by
  intro hne
  obtain ⟨b, o, ha, hc⟩ := h hne
  exact ⟨b, o, ha, fun j z hj => x.cell (hc j z hj)⟩
structure GapsIn (gs : List Int) : Prop where
  len : gs.length ≤ 20
  num : ∀ z ∈ gs, 0 ≤ z ∧ z ≤ 9223372036854775807

set_option maxHeartbeats 1600000 in
set_option maxRecDepth 1000000 in
theorem gap_any (ga : Option Addr) (cap : Nat) (gs : List Int) (hG : GapsIn gs) (k : Nat) (hk : k ≤ 100000) (w : World) (hN : NumsAt w ga gs) :
    Calls Tryz.prog 43 #[.slice ga gs.length cap, .int .i64 k] w fun e w' => e = .returned (.string (mk (gapL gs k))) ∧ Ext w w' := by
  obtain ⟨n, hn⟩ : ∃ n, n = gs.length := ⟨_, rfl⟩
  have hnb : n ≤ 20 := by rw [hn]; exact hG.len
  have HN := Lib.hid hn
  have HNN := Lib.hid hN
  rw [← hn]
  clear hn hN
  by_cases hkn : n ≤ k
  · have HR : Hid (gapL gs k = []) := by
      show _ = _
      unfold gapL
      rw [List.getElem?_eq_none (by rw [← HN.out]; exact hkn)]
    go_enter Tryz.func43, Tryz.ntmps43
    go_wp2_with fail
    go_ret
    exact ⟨by rw [HR.out]; rfl, Ext.refl _⟩
  · obtain ⟨z, hz⟩ : ∃ z, gs[k]? = some z := ⟨_, List.getElem?_eq_getElem (by have := HN.out; omega)⟩
    obtain ⟨b, o, rfl, hc⟩ := HNN.out (by intro e; rw [e] at hz; simp at hz)
    have hck := hc k z hz
    have hzb := hG.num z (List.mem_of_getElem? hz)
    have HR : Hid (gapL gs k = gapTab.getD (z % 7).toNat []) := by
      show _ = _
      unfold gapL
      rw [hz]
    have hz0 : 0 ≤ z := hzb.1
    have hX := Ext.alloc w (.cells #[.string ⟨#[]⟩, .string ⟨#[32]⟩, .string ⟨#[32, 32]⟩, .string ⟨#[9]⟩, .string ⟨#[32, 10]⟩, .string ⟨#[13, 10, 32]⟩, .string ⟨#[12]⟩] 9)
    have hck2 := hX.cell hck
    have HX := Lib.hid hX
    have h7 : z % 7 = 0 ∨ z % 7 = 1 ∨ z % 7 = 2 ∨ z % 7 = 3 ∨ z % 7 = 4 ∨ z % 7 = 5 ∨ z % 7 = 6 := by omega
    clear hc hz hX hzb
    rcases h7 with h7 | h7 | h7 | h7 | h7 | h7 | h7
    all_goals
      rw [h7] at HR
      go_enter Tryz.func43, Tryz.ntmps43
      go_wp2_with fail
      go_ret
      exact ⟨by rw [HR.out]; rfl, HX.out⟩

/-- what a blank of the text becomes -/
def gapN (gs : List Int) (k : Nat) : List UInt8 := if gapL gs k = [] then [32] else gapL gs k
theorem gapN_len (gs : List Int) (k : Nat) : (gapN gs k).length ≤ 3 := by
  unfold gapN
  split
  · simp
  · exact gapL_len gs k
def spaceStep (gs : List Int) (st : List UInt8 × Nat) (c : UInt8) : List UInt8 × Nat := if c = 32 then (st.1 ++ gapN gs st.2, st.2 + 1) else (st.1 ++ [c], st.2)
def spaceGo (gs : List Int) (t : List UInt8) : List UInt8 × Nat := t.foldl (spaceStep gs) (gapL gs 0, 1)
/-- an expression's text with white space of its own -/
def spacedL (gs : List Int) (t : List UInt8) : List UInt8 := (spaceGo gs t).1 ++ gapL gs (spaceGo gs t).2
theorem spaceGo_snoc (gs : List Int) (t : List UInt8) (c : UInt8) : spaceGo gs (t ++ [c]) = spaceStep gs (spaceGo gs t) c := by unfold spaceGo; rw [List.foldl_append]; rfl
theorem spaceGo_bd (gs : List Int) (t : List UInt8) : (spaceGo gs t).1.length ≤ 3 + 3 * t.length ∧ (spaceGo gs t).2 ≤ t.length + 1 := by
  have key : ∀ (t : List UInt8) (st : List UInt8 × Nat), (t.foldl (spaceStep gs) st).1.length ≤ st.1.length + 3 * t.length ∧ (t.foldl (spaceStep gs) st).2 ≤ st.2 + t.length := by
    intro t
    induction t with
    | nil => intro st; simp
    | cons c r ih =>
      intro st
      have h := ih (spaceStep gs st c)
      have hs : (spaceStep gs st c).1.length ≤ st.1.length + 3 ∧ (spaceStep gs st c).2 ≤ st.2 + 1 := by
        unfold spaceStep
        split
        · have := gapN_len gs st.2; simp; omega
        · simp
      rw [List.foldl_cons, List.length_cons]
      omega
  have := key t (gapL gs 0, 1)
  have h3 := gapL_len gs 0
  unfold spaceGo
  simp only at this
  omega
end Go.Proofs.YtmaffdhcmdhjfaaGreatDoor
