/- (*cronField).add. -/
import Derived.Test.YtmaffdhcmdhjfaaGreatDoorPDays
namespace Go.Proofs.YtmaffdhcmdhjfaaGreatDoor
open Go.RowKit Go.Lib

def dec1 (z : Int) : Int := IntKind.i64.wrap (z + -1)
def addAt (zs : List Int) (k : Nat) : List Int := (zs.take k).map dec1 ++ zs.drop k
theorem addAt_len (zs : List Int) (k : Nat) : (addAt zs k).length = zs.length := by
  unfold addAt; simp; omega
theorem addAt_get (zs : List Int) (k : Nat) (x : Int) (h : zs[k]? = some x) : (addAt zs k)[k]? = some x ∧ (addAt zs k).set k (dec1 x) = addAt zs (k + 1) := by
  obtain ⟨hk, rfl⟩ := List.getElem?_eq_some_iff.mp h
  have hl : ((zs.take k).map dec1).length = k := by simp; omega
  unfold addAt
  rw [List.drop_eq_getElem_cons hk]
  constructor
  · rw [List.getElem?_append_right (by omega), hl]; simp
  · rw [List.set_append_right _ _ (by omega), hl, Nat.sub_self, List.set_cons_zero, List.take_succ_eq_append_getElem hk, List.map_append, List.append_assoc]; rfl

set_option maxHeartbeats 1600000 in
set_option maxRecDepth 1000000 in
theorem add_any (v : Value) (base : Nat) (zs : List Int) (n : Int) (w : World) (hF : Field w base v zs n) (hl : zs.length ≤ 100000000) :
    Calls Tryz.prog 95 #[v, .int .i64 (-1)] w fun e w' => e = .returned (.tuple #[]) ∧ Field w' base v (zs.map dec1) n ∧ Below base w w' := by
  obtain ⟨N, sl, rfl, hb, hN, hI⟩ := hF
  have hc : w.cell? ⟨N, 0, none⟩ = some sl := by simp [World.cell?, hN]
  rcases Nat.eq_zero_or_pos zs.length with h0 | hpos
  · have hz : zs = [] := List.length_eq_zero_iff.mp h0
    subst hz
    obtain ⟨a, cap, rfl⟩ := own_any hI
    have HI := Lib.hid hI
    have HN := Lib.hid hN
    clear hI hN h0
    simp only [List.length_nil] at hc HI HN ⊢
    go_enter Tryz.func95, Tryz.ntmps95
    go_wp2_with fail
    refine wp_loop_rounds 1 ?_
    rw [rounds_succ]
    go_wp2
    go_end0; exact ⟨rfl, ⟨N, _, rfl, hb, HN.out, HI.out⟩, Below.refl _ _⟩
  · obtain ⟨g, cap, rfl, hbg, hgl, hcell⟩ := hI.form hpos
    have hne : N ≠ g := by
      rintro rfl
      rcases hI.2 with ⟨h, _⟩ | ⟨g', cap', cur, h, _, hg', _⟩
      · cases h
      · injection h with h1; injection h1 with h1; injection h1 with h1
        subst h1
        rw [hN] at hg'
        injection hg' with hg'; injection hg' with _ hg'; cases hg'
    obtain ⟨m, hm⟩ : ∃ m, m = zs.length := ⟨_, rfl⟩
    have HI0 := Lib.hid hI
    have HN0 := Lib.hid hN
    have Hm := Lib.hid hm
    rw [← hm] at hc
    have hmb : m ≤ 100000000 := by omega
    have hmp : 0 < m := by omega
    clear hI hN hcell hm hpos
    go_enter Tryz.func95, Tryz.ntmps95
    go_wp2_with fail
    go_loopw [4, 10] (fun _ i wr => ∃ k : Nat, k ≤ m ∧ i = .int .i64 k ∧ Hid (Ints wr base (.slice (some ⟨g, 0, none⟩) zs.length cap) (addAt zs k)) ∧ Hid (wr.heap[N]? = some (.cells #[.slice (some ⟨g, 0, none⟩) zs.length cap, .int .i64 n] 92 (0, 0))) ∧ Below base w wr)
      (fun _ i _ => m - (RowKit.intOf i).toNat)
    case atStart => exact ⟨0, Nat.zero_le _, rfl, by show Ints _ _ _ _; unfold addAt; simpa using HI0.out, HN0.out, Below.refl _ _⟩
    case round =>
      obtain ⟨k, hk, rfl, HI, HN, hx⟩ := hrel
      by_cases hlt : k < m
      · obtain ⟨x, hxx⟩ : ∃ x, zs[k]? = some x := ⟨_, List.getElem?_eq_getElem (by rw [← Hm.out]; exact hlt)⟩
        have hg := addAt_get zs k x hxx
        have hI := HI.out
        have hlen := addAt_len zs k
        unfold Ints at hI
        rw [hlen] at hI
        have hcr : wr.cell? ⟨N, 0, none⟩ = some (.slice (some ⟨g, 0, none⟩) m cap) := by simp [World.cell?, HN.out, Hm.out]
        have hck : wr.cell? ⟨g, k, none⟩ = some (.int .i64 x) := by
          rw [hI.cellAt k (by rw [← Hm.out]; omega), ints, List.getElem?_map, hg.1]; rfl
        have hfk := hI.frozenAt k
        have Hst := Lib.hid (hI.stored k (.int .i64 (dec1 x)))
        have hw : IntKind.i64.wrap (x + -1) = dec1 x := rfl
        have Hg := Lib.hid hg.2
        clear hI hg hlen hxx HI HI0 HN0
        go_wp2_with fail
        go_roundw
        case rel => exact ⟨k + 1, by omega, by go_num, by rw [← Hg.out]; show World.ownsRow _ _ _ _ _ _ _; rw [List.length_set, addAt_len]; simpa [ints, List.map_set] using Hst.out.1, by rw [Hst.out.2.block N (block_lt HN.out) (by intro h; injection h with h; exact hne h)]; exact HN.out, Below.setCell hx (p := ⟨g, k, none⟩) hbg _⟩
        case measure => simp [RowKit.intOf]; omega
      · have hkn : addAt zs k = zs.map dec1 := by unfold addAt; rw [List.take_of_length_le (by rw [← Hm.out]; omega), List.drop_of_length_le (by rw [← Hm.out]; omega), List.append_nil]
        rw [hkn] at HI
        clear hkn
        go_wp2_with fail
        go_end0; exact ⟨rfl, ⟨N, _, rfl, hb, HN.out, HI.out⟩, hx⟩
end Go.Proofs.YtmaffdhcmdhjfaaGreatDoor
