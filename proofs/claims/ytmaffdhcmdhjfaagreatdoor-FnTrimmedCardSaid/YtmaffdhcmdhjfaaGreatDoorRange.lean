/- parseRangeField. -/
import Derived.Test.YtmaffdhcmdhjfaaGreatDoorLits
namespace Go.Proofs.YtmaffdhcmdhjfaaGreatDoor
open Go.RowKit Go.Lib

/-- a field that the call made: its numbers, and its special one -/
def Field (w : World) (base : Nat) (v : Value) (zs : List Int) (n : Int) : Prop :=
  ∃ N sl, v = .pointer (some ⟨N, 0, none⟩) ∧ base ≤ N ∧ w.heap[N]? = some (.cells #[sl, .int .i64 n] 92 (0, 0)) ∧ Ints w base sl zs

theorem block_lt {w : World} {N : Nat} {o : Obj} (h : w.heap[N]? = some o) : N < w.heap.size := by
  rcases Nat.lt_or_ge N w.heap.size with hlt | hge
  · exact hlt
  · rw [Array.getElem?_eq_none hge] at h; cases h
theorem Field.ext {w w' : World} {base : Nat} {v : Value} {zs : List Int} {n : Int} (h : Field w base v zs n) (x : Ext w w') : Field w' base v zs n := by
  obtain ⟨N, sl, hv, hb, hN, hI⟩ := h
  exact ⟨N, sl, hv, hb, by rw [Below.block x N (block_lt hN)]; exact hN, hI.ext x⟩
theorem Field.mk {w : World} {base : Nat} {sl : Value} {zs : List Int} {n : Int} (hI : Ints w base sl zs) (hb : base ≤ w.heap.size) :
    Field (w.alloc (.cells #[sl, .int .i64 n] 92)) base (.pointer (some ⟨w.heap.size, 0, none⟩)) zs n :=
  ⟨w.heap.size, sl, rfl, hb, by rw [← World.alloc_eq]; simp, hI.ext (Ext.alloc _ _)⟩

theorem Ints.mono {w : World} {b b' : Nat} {v : Value} {zs : List Int} (h : Ints w b v zs) (hb : b' ≤ b) : Ints w b' v zs :=
  ⟨h.1, h.2.imp id fun ⟨g, cap, cur, h1, h2, h3⟩ => ⟨g, cap, cur, h1, Nat.le_trans hb h2, h3⟩⟩
theorem Field.mono {w : World} {b b' : Nat} {v : Value} {zs : List Int} {n : Int} (h : Field w b v zs n) (hb : b' ≤ b) : Field w b' v zs n := by
  obtain ⟨N, sl, hv, hN, hc, hI⟩ := h
  exact ⟨N, sl, hv, Nat.le_trans hb hN, hc, hI.mono hb⟩

theorem fill_range_bad (a b : Int) (w : World) (h : b < a) (hE : Env w) :
    Calls Tryz.prog 83 #[.int .i64 a, .int .i64 b] w fun e w' => ∃ t p, e = .returned (.tuple #[.slice none 0 0, .iface t p]) ∧ Ext w w' := by
  go_enter Tryz.func83, Tryz.ntmps83
  go_wp2_with fail
  go_at_call 77
  refine (new_err _ _ hE).mono ?_
  rintro e w1 ⟨t, p, rfl, x⟩
  go_wp2_with fail
  go_ret2
  exact ⟨t, p, rfl, x⟩

theorem fill_step_bad (a s b : Int) (w : World) (h : b < a) (hE : Env w) :
    Calls Tryz.prog 155 #[.int .i64 a, .int .i64 s, .int .i64 b] w fun e w' => ∃ t p, e = .returned (.tuple #[.slice none 0 0, .iface t p]) ∧ Ext w w' := by
  go_enter Tryz.func155, Tryz.ntmps155
  go_wp2_with fail
  go_at_call 77
  refine (new_err _ _ hE).mono ?_
  rintro e w1 ⟨t, p, rfl, x⟩
  go_wp2_with fail
  go_ret2
  exact ⟨t, p, rfl, x⟩

def within (lo hi x : Int) : Bool := decide (lo ≤ x) && decide (x ≤ hi)
def rangeO (names : List (List UInt8)) (lo hi : Int) (l : List UInt8) : Option (List Int) := match splitL l 45 with
  | [a, b] => match normalizeO names a with
    | none => none
    | some x => match normalizeO names b with
      | none => none
      | some y => if within lo hi x && within lo hi y && decide (x ≤ y) then some (stepsL x y 1) else none
  | _ => none

theorem in_scope' (v a b : Int) (w : World) :
    Calls Tryz.prog 124 #[.int .i64 v, .int .i64 a, .int .i64 b] w fun e w' => e = .returned (.bool (within a b v)) ∧ w = w' := in_scope v a b w
theorem within_le {a b v : Int} (h : within a b v = true) : a ≤ v ∧ v ≤ b := by simpa [within] using h

set_option maxHeartbeats 1600000 in
set_option maxRecDepth 1000000 in
theorem parse_range (s : ByteArray) (lo hi : Int) (vn : Value) (names : List (List UInt8)) (w : World) (hs : s.size ≤ 4000) (hlo : 0 ≤ lo) (hhi : hi ≤ 4000) (hvn : Strs w 0 vn names) (hnn : names.length ≤ 13) (hE : Env w) :
    Calls Tryz.prog 122 #[.string s, .agg #[.int .i64 lo, .int .i64 hi], vn] w fun e w' => ((∃ zs v, rangeO names lo hi (bytes s) = some zs ∧ e = .returned (.tuple #[v, .nilIface]) ∧ Field w' w.heap.size v zs 0) ∨
      (rangeO names lo hi (bytes s) = none ∧ ∃ t p, e = .returned (.tuple #[.pointer none, .iface t p]))) ∧ Ext w w' := by
  obtain ⟨an, capn, rfl⟩ := own_any hvn
  have Hvn := Lib.hid hvn
  clear hvn
  have hx0 := Ext.alloc w (.cells #[.int .i64 lo, .int .i64 hi] 130)
  go_enter Tryz.func122, Tryz.ntmps122
  go_wp2_with fail
  go_at_call 76
  refine (zz_split s 45 _ (by omega)).mono ?_
  rintro e w1 ⟨v, rfl, hst, hx1⟩
  have hlo1 : w1.cell? ⟨w.heap.size, 0, none⟩ = some (.int .i64 lo) := hx1.cell (by simp)
  have hhi1 : w1.cell? ⟨w.heap.size, 1, none⟩ = some (.int .i64 hi) := hx1.cell (by simp)
  have hx01 := hx0.trans hx1
  clear hx0 hx1
  obtain ⟨g, cap, rfl, hb, hg, hcell⟩ := hst.form (splitL_pos _ _)
  have hitem := splitL_item (bytes s) 45
  rw [bytes_length] at hitem
  have hE1 := hE.ext hx01
  rcases hl : splitL (bytes s) 45 with _ | ⟨a, _ | ⟨b, _ | ⟨c, rest⟩⟩⟩
  · exact absurd hl (splitGo_ne _ _ _)
  · have hr : rangeO names lo hi (bytes s) = none := by simp [rangeO, hl]
    have Hr := Lib.hid hr
    clear hr hl hcell hitem hst
    go_wp2_with fail
    go_at_call 125
    refine (new_invalid s _ _ hE1 (by omega) (by decide)).mono ?_
    rintro e w2 ⟨t, p, rfl, hx2⟩
    go_wp2_with fail
    go_ret2
    exact ⟨.inr ⟨Hr.out, t, p, rfl⟩, hx01.trans hx2⟩
  · rw [hl] at hcell
    have c0 := hcell 0 a rfl
    have c1 := hcell 1 b rfl
    have ha := hitem a (by rw [hl]; simp)
    have hb := hitem b (by rw [hl]; simp)
    have Hl := Lib.hid hl
    clear hl hcell hitem hst
    go_wp2_with fail
    go_at_call 123
    refine (normalize_any _ names (mk a) _ (by rw [size_mk]; omega) hnn hE1 (Hvn.out.ext hx01)).mono ?_
    rintro e w2 ⟨⟨x, hm, rfl⟩ | ⟨hm, m, t, p, rfl⟩, hx2⟩
    · have hm' : normalizeO names a = some x := hm
      have Hm := Lib.hid hm'
      clear hm hm'
      have hlo2 := hx2.cell hlo1
      have hhi2 := hx2.cell hhi1
      have c1' := hx2.cell c1
      have hx02 := hx01.trans hx2
      have hE2 := hE.ext hx02
      clear hlo1 hhi1 c1 hx2 c0
      go_wp2_with fail
      go_at_call 123
      refine (normalize_any _ names (mk b) _ (by rw [size_mk]; omega) hnn hE2 (Hvn.out.ext hx02)).mono ?_
      rintro e w3 ⟨⟨y, hy, rfl⟩ | ⟨hy, m, t, p, rfl⟩, hx3⟩
      · have hy' : normalizeO names b = some y := hy
        have Hy := Lib.hid hy'
        clear hy hy'
        have hlo3 := hx3.cell hlo2
        have hhi3 := hx3.cell hhi2
        have hx03 := hx02.trans hx3
        have hE3 := hE.ext hx03
        clear hlo2 hhi2 c1' hx3
        have Hr : Hid (rangeO names lo hi (bytes s) = if within lo hi x && within lo hi y && decide (x ≤ y) then some (stepsL x y 1) else none) := by
          show _ = _
          simp [rangeO, Hl.out, Hm.out, Hy.out]
        go_wp2_with fail
        go_at_call 124
        refine (in_scope' x lo hi _).mono ?_
        rintro e w4 ⟨rfl, rfl⟩
        rcases hwx : within lo hi x
        · have Hr2 : Hid (rangeO names lo hi (bytes s) = none) := by
            show _ = _
            rw [Hr.out, hwx]; rfl
          clear hwx
          go_wp2_with fail
          go_at_call 125
          refine (new_invalid s _ _ hE3 (by omega) (by decide)).mono ?_
          rintro e w4 ⟨t, p, rfl, hx4⟩
          go_wp2_with fail
          go_ret2
          exact ⟨.inr ⟨Hr2.out, t, p, rfl⟩, hx03.trans hx4⟩
        · go_wp2_with fail
          go_at_call 124
          refine (in_scope' y lo hi _).mono ?_
          rintro e w4 ⟨rfl, rfl⟩
          rcases hwy : within lo hi y
          · have Hr2 : Hid (rangeO names lo hi (bytes s) = none) := by
              show _ = _
              rw [Hr.out, hwx, hwy]; rfl
            clear hwx hwy
            go_wp2_with fail
            go_at_call 125
            refine (new_invalid s _ _ hE3 (by omega) (by decide)).mono ?_
            rintro e w4 ⟨t, p, rfl, hx4⟩
            go_wp2_with fail
            go_ret2
            exact ⟨.inr ⟨Hr2.out, t, p, rfl⟩, hx03.trans hx4⟩
          · have bx := within_le hwx
            have by' := within_le hwy
            by_cases hxy : x ≤ y
            · have Hr2 : Hid (rangeO names lo hi (bytes s) = some (stepsL x y 1)) := by
                show _ = _
                rw [Hr.out, hwx, hwy, decide_eq_true hxy]; rfl
              clear hwx hwy hlo3 hhi3
              go_wp2_with fail
              go_at_call 83
              refine (fill_range x y _ (by omega) hxy (by omega)).mono ?_
              rintro e w4 ⟨v, rfl, hI, hx4⟩
              obtain ⟨av, cv, rfl⟩ := own_any hI
              have HI := Lib.hid (Ints.mono hI hx03.size)
              clear hI
              go_wp2_with fail
              go_at_call 118
              refine (new_field _ _ _ _).mono ?_
              rintro e w5 ⟨rfl, rfl⟩
              go_wp2_with fail
              go_ret2
              exact ⟨.inl ⟨_, _, Hr2.out, rfl, Field.mk HI.out (hx03.trans hx4).size⟩, (hx03.trans hx4).trans (Ext.alloc _ _)⟩
            · have Hr2 : Hid (rangeO names lo hi (bytes s) = none) := by
                show _ = _
                rw [Hr.out, hwx, hwy, decide_eq_false hxy]; rfl
              clear hwx hwy hlo3 hhi3
              go_wp2_with fail
              go_at_call 83
              refine (fill_range_bad x y _ (by omega) hE3).mono ?_
              rintro e w4 ⟨t, p, rfl, hx4⟩
              go_wp2_with fail
              go_ret2
              exact ⟨.inr ⟨Hr2.out, t, p, rfl⟩, hx03.trans hx4⟩
      · have hy' : normalizeO names b = none := hy
        have hr : rangeO names lo hi (bytes s) = none := by simp [rangeO, Hl.out, Hm.out, hy']
        have Hr := Lib.hid hr
        clear hr hy hy'
        go_wp2_with fail
        go_ret2
        exact ⟨.inr ⟨Hr.out, t, p, rfl⟩, hx02.trans hx3⟩
    · have hm' : normalizeO names a = none := hm
      have hr : rangeO names lo hi (bytes s) = none := by simp [rangeO, Hl.out, hm']
      have Hr := Lib.hid hr
      clear hr hm hm'
      go_wp2_with fail
      go_ret2
      exact ⟨.inr ⟨Hr.out, t, p, rfl⟩, hx01.trans hx2⟩
  · have hr : rangeO names lo hi (bytes s) = none := by simp [rangeO, hl]
    have Hr := Lib.hid hr
    have hlen := splitL_len (bytes s) 45
    rw [hl, bytes_length] at hlen
    simp at hlen
    clear hr hl hcell hitem hst
    go_wp2_with fail
    go_at_call 125
    refine (new_invalid s _ _ hE1 (by omega) (by decide)).mono ?_
    rintro e w2 ⟨t, p, rfl, hx2⟩
    go_wp2_with fail
    go_ret2
    exact ⟨.inr ⟨Hr.out, t, p, rfl⟩, hx01.trans hx2⟩
end Go.Proofs.YtmaffdhcmdhjfaaGreatDoor
