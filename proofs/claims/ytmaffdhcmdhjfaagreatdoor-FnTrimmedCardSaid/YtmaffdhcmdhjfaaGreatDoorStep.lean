/- parseStepField. (Printed by genstep.py.) -/
import Derived.Test.YtmaffdhcmdhjfaaGreatDoorRange
namespace Go.Proofs.YtmaffdhcmdhjfaaGreatDoor
open Go.RowKit Go.Lib

def startO (names : List (List UInt8)) (lo hi : Int) (a : List UInt8) : Option (Int × Int) :=
  if a = [42] then some (lo, hi)
  else if a.contains 45 then match splitL a 45 with
    | [c, d] => match normalizeO names c with
      | none => none
      | some x => match normalizeO names d with
        | none => none
        | some y => some (x, y)
    | _ => none
  else (normalizeO names a).map fun x => (x, hi)
def stepO (names : List (List UInt8)) (lo hi : Int) (l : List UInt8) : Option (List Int) := match splitL l 47 with
  | [a, b] => match startO names lo hi a with
    | none => none
    | some (x, y) => match atoiO b with
      | none => none
      | some st => if within lo hi x && within 1 hi st && within lo hi y && decide (x ≤ y) then some (stepsL x y st) else none
  | _ => none

set_option maxHeartbeats 3200000 in
set_option maxRecDepth 1000000 in
theorem parse_step (s : ByteArray) (lo hi : Int) (vn : Value) (names : List (List UInt8)) (w : World) (hs : s.size ≤ 4000) (hlo : 0 ≤ lo) (hhi : hi ≤ 4000) (hvn : Strs w 0 vn names) (hnn : names.length ≤ 13) (hE : Env w) :
    Calls Tryz.prog 121 #[.string s, .agg #[.int .i64 lo, .int .i64 hi], vn] w fun e w' => ((∃ zs v, stepO names lo hi (bytes s) = some zs ∧ e = .returned (.tuple #[v, .nilIface]) ∧ Field w' w.heap.size v zs 0) ∨
      (stepO names lo hi (bytes s) = none ∧ ∃ t p, e = .returned (.tuple #[.pointer none, .iface t p]))) ∧ Ext w w' := by
  obtain ⟨an, capn, rfl⟩ := own_any hvn
  have Hvn := Lib.hid hvn
  clear hvn
  have hx0 := Ext.alloc w (.cells #[.int .i64 lo, .int .i64 hi] 130)
  go_enter Tryz.func121, Tryz.ntmps121
  go_wp2_with fail
  go_at_call 76
  refine (zz_split s 47 _ (by omega)).mono ?_
  rintro e w1 ⟨v, rfl, hst, hx1⟩
  have hlo1 : w1.cell? ⟨w.heap.size, 0, none⟩ = some (.int .i64 lo) := hx1.cell (by simp)
  have hhi1 : w1.cell? ⟨w.heap.size, 1, none⟩ = some (.int .i64 hi) := hx1.cell (by simp)
  have hx01 := hx0.trans hx1
  clear hx0 hx1
  obtain ⟨g, cap, rfl, hb, hg, hcell⟩ := hst.form (splitL_pos _ _)
  have hitem := splitL_item (bytes s) 47
  rw [bytes_length] at hitem
  have hE1 := hE.ext hx01
  rcases hl : splitL (bytes s) 47 with _ | ⟨a, _ | ⟨b, _ | ⟨c, rest⟩⟩⟩
  · exact absurd hl (splitGo_ne _ _ _)
  · have hr : stepO names lo hi (bytes s) = none := by simp [stepO, hl]
    have Hr := Lib.hid hr
    clear hr hl hcell hitem hst
    go_wp2_with fail
    go_at_call 125
    refine (new_invalid s _ _ hE1 (by omega) (by decide)).mono ?_
    rintro e w9 ⟨t, p, rfl, hx9⟩
    go_wp2_with fail
    go_ret2
    exact ⟨.inr ⟨Hr.out, t, p, rfl⟩, hx01.trans hx9⟩
  · rw [hl] at hcell
    have c01 := hcell 0 a rfl
    have c11 := hcell 1 b rfl
    have ha := hitem a (by rw [hl]; simp)
    have hbl := hitem b (by rw [hl]; simp)
    have hStep : stepO names lo hi (bytes s) = match startO names lo hi a with
      | none => none
      | some (x, y) => match atoiO b with
        | none => none
        | some st => if within lo hi x && within 1 hi st && within lo hi y && decide (x ≤ y) then some (stepsL x y st) else none := by simp only [stepO, hl]
    have HS := Lib.hid hStep
    clear hl hcell hitem hst hStep
    by_cases hstar : a = [42]
    · have Hst : Hid (stepO names lo hi (bytes s) = match atoiO b with
        | none => none
        | some st => if within lo hi lo && within 1 hi st && within lo hi hi && decide (lo ≤ hi) then some (stepsL lo hi st) else none) := by
        show _ = _
        rw [HS.out, hstar]; rfl
      have heq : ((mk a).toList == [42]) = true := by rw [hstar, toList_bytes, bytes_mk]; rfl
      clear HS hstar
      go_wp2_with fail
      go_at_call 128
      refine (atoi_any (mk b) _ (by rw [size_mk]; omega) hE1).mono ?_
      rintro e w2 ⟨⟨st, hst, rfl⟩ | ⟨hst, m, t, p, rfl⟩, hx2⟩
      · have hst' : atoiO b = some st := hst
        have Hr : Hid (stepO names lo hi (bytes s) = if within lo hi lo && within 1 hi st && within lo hi hi && decide (lo ≤ hi) then some (stepsL lo hi st) else none) := by
          show _ = _
          rw [Hst.out, hst']
        clear hst hst'
        have hlo2 := hx2.cell hlo1
        have hhi2 := hx2.cell hhi1
        have hx02 := hx01.trans hx2
        have hE2 := hE.ext hx02
        clear hlo1 hhi1 c11 hx2 hE1
        go_wp2_with fail
        go_at_call 124
        refine (in_scope' lo lo hi _).mono ?_
        rintro e w9 ⟨rfl, rfl⟩
        rcases hwx : within lo hi lo
        · have Hr2 : Hid (stepO names lo hi (bytes s) = none) := by
            show _ = _
            rw [Hr.out, hwx]; rfl
          clear hwx
          go_wp2_with fail
          go_at_call 125
          refine (new_invalid s _ _ hE2 (by omega) (by decide)).mono ?_
          rintro e w9 ⟨t, p, rfl, hx9⟩
          go_wp2_with fail
          go_ret2
          exact ⟨.inr ⟨Hr2.out, t, p, rfl⟩, hx02.trans hx9⟩
        · go_wp2_with fail
          go_at_call 124
          refine (in_scope' st 1 hi _).mono ?_
          rintro e w9 ⟨rfl, rfl⟩
          rcases hws : within 1 hi st
          · have Hr2 : Hid (stepO names lo hi (bytes s) = none) := by
              show _ = _
              rw [Hr.out, hwx, hws]; rfl
            clear hwx hws
            go_wp2_with fail
            go_at_call 125
            refine (new_invalid s _ _ hE2 (by omega) (by decide)).mono ?_
            rintro e w9 ⟨t, p, rfl, hx9⟩
            go_wp2_with fail
            go_ret2
            exact ⟨.inr ⟨Hr2.out, t, p, rfl⟩, hx02.trans hx9⟩
          · go_wp2_with fail
            go_at_call 124
            refine (in_scope' hi lo hi _).mono ?_
            rintro e w9 ⟨rfl, rfl⟩
            rcases hwy : within lo hi hi
            · have Hr2 : Hid (stepO names lo hi (bytes s) = none) := by
                show _ = _
                rw [Hr.out, hwx, hws, hwy]; rfl
              clear hwx hws hwy
              go_wp2_with fail
              go_at_call 125
              refine (new_invalid s _ _ hE2 (by omega) (by decide)).mono ?_
              rintro e w9 ⟨t, p, rfl, hx9⟩
              go_wp2_with fail
              go_ret2
              exact ⟨.inr ⟨Hr2.out, t, p, rfl⟩, hx02.trans hx9⟩
            · have bx := within_le hwx
              have by' := within_le hwy
              have bs := within_le hws
              by_cases hxy : lo ≤ hi
              · have Hr2 : Hid (stepO names lo hi (bytes s) = some (stepsL lo hi st)) := by
                  show _ = _
                  rw [Hr.out, hwx, hwy, hws, decide_eq_true hxy]; rfl
                clear hwx hwy hws hlo2 hhi2
                go_wp2_with fail
                go_at_call 155
                refine (fill_step lo st hi _ (by omega) hxy (by omega) (by omega) (by omega)).mono ?_
                rintro e w9 ⟨v, rfl, hI, hx9⟩
                obtain ⟨av, cv, rfl⟩ := own_any hI
                have HI := Lib.hid (Ints.mono hI hx02.size)
                clear hI
                go_wp2_with fail
                go_at_call 118
                refine (new_field _ _ _ _).mono ?_
                rintro e w10 ⟨rfl, rfl⟩
                go_wp2_with fail
                go_ret2
                exact ⟨.inl ⟨_, _, Hr2.out, rfl, Field.mk HI.out (hx02.trans hx9).size⟩, (hx02.trans hx9).trans (Ext.alloc _ _)⟩
              · have Hr2 : Hid (stepO names lo hi (bytes s) = none) := by
                  show _ = _
                  rw [Hr.out, hwx, hwy, hws, decide_eq_false hxy]; rfl
                clear hwx hwy hws hlo2 hhi2
                go_wp2_with fail
                go_at_call 155
                refine (fill_step_bad lo st hi _ (by omega) hE2).mono ?_
                rintro e w9 ⟨t, p, rfl, hx9⟩
                go_wp2_with fail
                go_ret2
                exact ⟨.inr ⟨Hr2.out, t, p, rfl⟩, hx02.trans hx9⟩
      · have hst' : atoiO b = none := hst
        have Hr2 : Hid (stepO names lo hi (bytes s) = none) := by
          show _ = _
          rw [Hst.out, hst']
        clear hst hst'
        have hx02 := hx01.trans hx2
        have hE2 := hE.ext hx02
        clear hlo1 hhi1 c11 hx2
        go_wp2_with fail
        go_at_call 125
        refine (new_invalid s _ _ hE2 (by omega) (by decide)).mono ?_
        rintro e w9 ⟨t, p, rfl, hx9⟩
        go_wp2_with fail
        go_ret2
        exact ⟨.inr ⟨Hr2.out, t, p, rfl⟩, hx02.trans hx9⟩
    · have heq : ((mk a).toList == [42]) = false := by rw [toList_bytes, bytes_mk, beq_eq_false_iff_ne]; exact hstar
      have Hne := Lib.hid hstar
      clear hstar
      go_wp2_with fail
      go_at_call 119
      refine (zz_has (mk a) 45 _ (by rw [size_mk]; omega)).mono ?_
      rintro e w9 ⟨rfl, rfl⟩
      rw [bytes_mk]
      rcases hdash : a.contains 45
      · have hS : startO names lo hi a = (normalizeO names a).map fun x => (x, hi) := by unfold startO; rw [if_neg Hne.out, if_neg (by rw [hdash]; decide)]
        rw [hS] at HS
        clear hdash hS heq
        go_wp2_with fail
        go_at_call 123
        refine (normalize_any _ names (mk a) _ (by rw [size_mk]; omega) hnn hE1 (Hvn.out.ext hx01)).mono ?_
        rintro e w2 ⟨⟨x, hm, rfl⟩ | ⟨hm, m, t, p, rfl⟩, hx2⟩
        · have hm' : normalizeO names a = some x := hm
          have Hst : Hid (stepO names lo hi (bytes s) = match atoiO b with
            | none => none
            | some st => if within lo hi x && within 1 hi st && within lo hi hi && decide (x ≤ hi) then some (stepsL x hi st) else none) := by
            show _ = _
            rw [HS.out, hm']; rfl
          clear hm hm' HS
          have hlo2 := hx2.cell hlo1
          have hhi2 := hx2.cell hhi1
          have c12 := hx2.cell c11
          have hx02 := hx01.trans hx2
          have hE2 := hE.ext hx02
          clear hlo1 hhi1 c11 hx2 c01 hE1
          go_wp2_with fail
          go_at_call 128
          refine (atoi_any (mk b) _ (by rw [size_mk]; omega) hE2).mono ?_
          rintro e w3 ⟨⟨st, hst, rfl⟩ | ⟨hst, m, t, p, rfl⟩, hx3⟩
          · have hst' : atoiO b = some st := hst
            have Hr : Hid (stepO names lo hi (bytes s) = if within lo hi x && within 1 hi st && within lo hi hi && decide (x ≤ hi) then some (stepsL x hi st) else none) := by
              show _ = _
              rw [Hst.out, hst']
            clear hst hst'
            have hlo3 := hx3.cell hlo2
            have hhi3 := hx3.cell hhi2
            have hx03 := hx02.trans hx3
            have hE3 := hE.ext hx03
            clear hlo2 hhi2 c12 hx3 hE2
            go_wp2_with fail
            go_at_call 124
            refine (in_scope' x lo hi _).mono ?_
            rintro e w9 ⟨rfl, rfl⟩
            rcases hwx : within lo hi x
            · have Hr2 : Hid (stepO names lo hi (bytes s) = none) := by
                show _ = _
                rw [Hr.out, hwx]; rfl
              clear hwx
              go_wp2_with fail
              go_at_call 125
              refine (new_invalid s _ _ hE3 (by omega) (by decide)).mono ?_
              rintro e w9 ⟨t, p, rfl, hx9⟩
              go_wp2_with fail
              go_ret2
              exact ⟨.inr ⟨Hr2.out, t, p, rfl⟩, hx03.trans hx9⟩
            · go_wp2_with fail
              go_at_call 124
              refine (in_scope' st 1 hi _).mono ?_
              rintro e w9 ⟨rfl, rfl⟩
              rcases hws : within 1 hi st
              · have Hr2 : Hid (stepO names lo hi (bytes s) = none) := by
                  show _ = _
                  rw [Hr.out, hwx, hws]; rfl
                clear hwx hws
                go_wp2_with fail
                go_at_call 125
                refine (new_invalid s _ _ hE3 (by omega) (by decide)).mono ?_
                rintro e w9 ⟨t, p, rfl, hx9⟩
                go_wp2_with fail
                go_ret2
                exact ⟨.inr ⟨Hr2.out, t, p, rfl⟩, hx03.trans hx9⟩
              · go_wp2_with fail
                go_at_call 124
                refine (in_scope' hi lo hi _).mono ?_
                rintro e w9 ⟨rfl, rfl⟩
                rcases hwy : within lo hi hi
                · have Hr2 : Hid (stepO names lo hi (bytes s) = none) := by
                    show _ = _
                    rw [Hr.out, hwx, hws, hwy]; rfl
                  clear hwx hws hwy
                  go_wp2_with fail
                  go_at_call 125
                  refine (new_invalid s _ _ hE3 (by omega) (by decide)).mono ?_
                  rintro e w9 ⟨t, p, rfl, hx9⟩
                  go_wp2_with fail
                  go_ret2
                  exact ⟨.inr ⟨Hr2.out, t, p, rfl⟩, hx03.trans hx9⟩
                · have bx := within_le hwx
                  have by' := within_le hwy
                  have bs := within_le hws
                  by_cases hxy : x ≤ hi
                  · have Hr2 : Hid (stepO names lo hi (bytes s) = some (stepsL x hi st)) := by
                      show _ = _
                      rw [Hr.out, hwx, hwy, hws, decide_eq_true hxy]; rfl
                    clear hwx hwy hws hlo3 hhi3
                    go_wp2_with fail
                    go_at_call 155
                    refine (fill_step x st hi _ (by omega) hxy (by omega) (by omega) (by omega)).mono ?_
                    rintro e w9 ⟨v, rfl, hI, hx9⟩
                    obtain ⟨av, cv, rfl⟩ := own_any hI
                    have HI := Lib.hid (Ints.mono hI hx03.size)
                    clear hI
                    go_wp2_with fail
                    go_at_call 118
                    refine (new_field _ _ _ _).mono ?_
                    rintro e w10 ⟨rfl, rfl⟩
                    go_wp2_with fail
                    go_ret2
                    exact ⟨.inl ⟨_, _, Hr2.out, rfl, Field.mk HI.out (hx03.trans hx9).size⟩, (hx03.trans hx9).trans (Ext.alloc _ _)⟩
                  · have Hr2 : Hid (stepO names lo hi (bytes s) = none) := by
                      show _ = _
                      rw [Hr.out, hwx, hwy, hws, decide_eq_false hxy]; rfl
                    clear hwx hwy hws hlo3 hhi3
                    go_wp2_with fail
                    go_at_call 155
                    refine (fill_step_bad x st hi _ (by omega) hE3).mono ?_
                    rintro e w9 ⟨t, p, rfl, hx9⟩
                    go_wp2_with fail
                    go_ret2
                    exact ⟨.inr ⟨Hr2.out, t, p, rfl⟩, hx03.trans hx9⟩
          · have hst' : atoiO b = none := hst
            have Hr2 : Hid (stepO names lo hi (bytes s) = none) := by
              show _ = _
              rw [Hst.out, hst']
            clear hst hst'
            have hx03 := hx02.trans hx3
            have hE3 := hE.ext hx03
            clear hlo2 hhi2 c12 hx3
            go_wp2_with fail
            go_at_call 125
            refine (new_invalid s _ _ hE3 (by omega) (by decide)).mono ?_
            rintro e w9 ⟨t, p, rfl, hx9⟩
            go_wp2_with fail
            go_ret2
            exact ⟨.inr ⟨Hr2.out, t, p, rfl⟩, hx03.trans hx9⟩
        · have hm' : normalizeO names a = none := hm
          rw [hm'] at HS
          have Hr2 := HS
          clear hm hm' HS
          go_wp2_with fail
          go_ret2
          exact ⟨.inr ⟨Hr2.out, t, p, rfl⟩, hx01.trans hx2⟩
      · have hS : startO names lo hi a = match splitL a 45 with
          | [c, d] => match normalizeO names c with
            | none => none
            | some x => match normalizeO names d with
              | none => none
              | some y => some (x, y)
          | _ => none := by unfold startO; rw [if_neg Hne.out, if_pos (by rw [hdash])]
        rw [hS] at HS
        clear hdash hS heq
        go_wp2_with fail
        go_at_call 76
        refine (zz_split (mk a) 45 _ (by rw [size_mk]; omega)).mono ?_
        rintro e w2 ⟨v, rfl, hst, hx2⟩
        have hlo2 := hx2.cell hlo1
        have hhi2 := hx2.cell hhi1
        have c12 := hx2.cell c11
        have hx02 := hx01.trans hx2
        have hE2 := hE.ext hx02
        clear hlo1 hhi1 c11 hx2 c01 hE1
        obtain ⟨g2, cap2, rfl, hb2, hg2, hcell⟩ := hst.form (splitL_pos _ _)
        have hitem := splitL_item (bytes (mk a)) 45
        rw [bytes_length, size_mk] at hitem
        rw [bytes_mk] at hitem hcell ⊢
        rcases hl : splitL a 45 with _ | ⟨c, _ | ⟨d, _ | ⟨c3, rest⟩⟩⟩
        · exact absurd hl (splitGo_ne _ _ _)
        · rw [hl] at HS
          have Hr2 := HS
          clear HS hl hcell hitem hst
          go_wp2_with fail
          go_at_call 125
          refine (new_invalid s _ _ hE2 (by omega) (by decide)).mono ?_
          rintro e w9 ⟨t, p, rfl, hx9⟩
          go_wp2_with fail
          go_ret2
          exact ⟨.inr ⟨Hr2.out, t, p, rfl⟩, hx02.trans hx9⟩
        · rw [hl] at hcell HS
          have d0 := hcell 0 c rfl
          have d1 := hcell 1 d rfl
          have hc := hitem c (by rw [hl]; simp)
          have hd := hitem d (by rw [hl]; simp)
          clear hl hcell hitem hst
          go_wp2_with fail
          go_at_call 123
          refine (normalize_any _ names (mk c) _ (by rw [size_mk]; omega) hnn hE2 (Hvn.out.ext hx02)).mono ?_
          rintro e w3 ⟨⟨x, hm, rfl⟩ | ⟨hm, m, t, p, rfl⟩, hx3⟩
          · have hm' : normalizeO names c = some x := hm
            replace HS : Hid (_ = _) := HS
            have HS2 : Hid (stepO names lo hi (bytes s) = match (match normalizeO names d with
                | none => none
                | some y => some (x, y)) with
              | none => none
              | some (x, y) => match atoiO b with
                | none => none
                | some st => if within lo hi x && within 1 hi st && within lo hi y && decide (x ≤ y) then some (stepsL x y st) else none) := by
              show _ = _
              rw [HS.out]; simp only [hm']
            clear hm hm' HS
            have hlo3 := hx3.cell hlo2
            have hhi3 := hx3.cell hhi2
            have c13 := hx3.cell c12
            have d13 := hx3.cell d1
            have hx03 := hx02.trans hx3
            have hE3 := hE.ext hx03
            clear hlo2 hhi2 c12 hx3 d0 d1 hE2
            go_wp2_with fail
            go_at_call 123
            refine (normalize_any _ names (mk d) _ (by rw [size_mk]; omega) hnn hE3 (Hvn.out.ext hx03)).mono ?_
            rintro e w4 ⟨⟨y, hm, rfl⟩ | ⟨hm, m, t, p, rfl⟩, hx4⟩
            · have hm' : normalizeO names d = some y := hm
              have Hst : Hid (stepO names lo hi (bytes s) = match atoiO b with
                | none => none
                | some st => if within lo hi x && within 1 hi st && within lo hi y && decide (x ≤ y) then some (stepsL x y st) else none) := by
                show _ = _
                rw [HS2.out]; simp only [hm']
              clear hm hm' HS2
              have hlo4 := hx4.cell hlo3
              have hhi4 := hx4.cell hhi3
              have c14 := hx4.cell c13
              have hx04 := hx03.trans hx4
              have hE4 := hE.ext hx04
              clear hlo3 hhi3 c13 hx4 d13 hE3
              go_wp2_with fail
              go_at_call 128
              refine (atoi_any (mk b) _ (by rw [size_mk]; omega) hE4).mono ?_
              rintro e w5 ⟨⟨st, hst, rfl⟩ | ⟨hst, m, t, p, rfl⟩, hx5⟩
              · have hst' : atoiO b = some st := hst
                have Hr : Hid (stepO names lo hi (bytes s) = if within lo hi x && within 1 hi st && within lo hi y && decide (x ≤ y) then some (stepsL x y st) else none) := by
                  show _ = _
                  rw [Hst.out, hst']
                clear hst hst'
                have hlo5 := hx5.cell hlo4
                have hhi5 := hx5.cell hhi4
                have hx05 := hx04.trans hx5
                have hE5 := hE.ext hx05
                clear hlo4 hhi4 c14 hx5 hE4
                go_wp2_with fail
                go_at_call 124
                refine (in_scope' x lo hi _).mono ?_
                rintro e w9 ⟨rfl, rfl⟩
                rcases hwx : within lo hi x
                · have Hr2 : Hid (stepO names lo hi (bytes s) = none) := by
                    show _ = _
                    rw [Hr.out, hwx]; rfl
                  clear hwx
                  go_wp2_with fail
                  go_at_call 125
                  refine (new_invalid s _ _ hE5 (by omega) (by decide)).mono ?_
                  rintro e w9 ⟨t, p, rfl, hx9⟩
                  go_wp2_with fail
                  go_ret2
                  exact ⟨.inr ⟨Hr2.out, t, p, rfl⟩, hx05.trans hx9⟩
                · go_wp2_with fail
                  go_at_call 124
                  refine (in_scope' st 1 hi _).mono ?_
                  rintro e w9 ⟨rfl, rfl⟩
                  rcases hws : within 1 hi st
                  · have Hr2 : Hid (stepO names lo hi (bytes s) = none) := by
                      show _ = _
                      rw [Hr.out, hwx, hws]; rfl
                    clear hwx hws
                    go_wp2_with fail
                    go_at_call 125
                    refine (new_invalid s _ _ hE5 (by omega) (by decide)).mono ?_
                    rintro e w9 ⟨t, p, rfl, hx9⟩
                    go_wp2_with fail
                    go_ret2
                    exact ⟨.inr ⟨Hr2.out, t, p, rfl⟩, hx05.trans hx9⟩
                  · go_wp2_with fail
                    go_at_call 124
                    refine (in_scope' y lo hi _).mono ?_
                    rintro e w9 ⟨rfl, rfl⟩
                    rcases hwy : within lo hi y
                    · have Hr2 : Hid (stepO names lo hi (bytes s) = none) := by
                        show _ = _
                        rw [Hr.out, hwx, hws, hwy]; rfl
                      clear hwx hws hwy
                      go_wp2_with fail
                      go_at_call 125
                      refine (new_invalid s _ _ hE5 (by omega) (by decide)).mono ?_
                      rintro e w9 ⟨t, p, rfl, hx9⟩
                      go_wp2_with fail
                      go_ret2
                      exact ⟨.inr ⟨Hr2.out, t, p, rfl⟩, hx05.trans hx9⟩
                    · have bx := within_le hwx
                      have by' := within_le hwy
                      have bs := within_le hws
                      by_cases hxy : x ≤ y
                      · have Hr2 : Hid (stepO names lo hi (bytes s) = some (stepsL x y st)) := by
                          show _ = _
                          rw [Hr.out, hwx, hwy, hws, decide_eq_true hxy]; rfl
                        clear hwx hwy hws hlo5 hhi5
                        go_wp2_with fail
                        go_at_call 155
                        refine (fill_step x st y _ (by omega) hxy (by omega) (by omega) (by omega)).mono ?_
                        rintro e w9 ⟨v, rfl, hI, hx9⟩
                        obtain ⟨av, cv, rfl⟩ := own_any hI
                        have HI := Lib.hid (Ints.mono hI hx05.size)
                        clear hI
                        go_wp2_with fail
                        go_at_call 118
                        refine (new_field _ _ _ _).mono ?_
                        rintro e w10 ⟨rfl, rfl⟩
                        go_wp2_with fail
                        go_ret2
                        exact ⟨.inl ⟨_, _, Hr2.out, rfl, Field.mk HI.out (hx05.trans hx9).size⟩, (hx05.trans hx9).trans (Ext.alloc _ _)⟩
                      · have Hr2 : Hid (stepO names lo hi (bytes s) = none) := by
                          show _ = _
                          rw [Hr.out, hwx, hwy, hws, decide_eq_false hxy]; rfl
                        clear hwx hwy hws hlo5 hhi5
                        go_wp2_with fail
                        go_at_call 155
                        refine (fill_step_bad x st y _ (by omega) hE5).mono ?_
                        rintro e w9 ⟨t, p, rfl, hx9⟩
                        go_wp2_with fail
                        go_ret2
                        exact ⟨.inr ⟨Hr2.out, t, p, rfl⟩, hx05.trans hx9⟩
              · have hst' : atoiO b = none := hst
                have Hr2 : Hid (stepO names lo hi (bytes s) = none) := by
                  show _ = _
                  rw [Hst.out, hst']
                clear hst hst'
                have hx05 := hx04.trans hx5
                have hE5 := hE.ext hx05
                clear hlo4 hhi4 c14 hx5
                go_wp2_with fail
                go_at_call 125
                refine (new_invalid s _ _ hE5 (by omega) (by decide)).mono ?_
                rintro e w9 ⟨t, p, rfl, hx9⟩
                go_wp2_with fail
                go_ret2
                exact ⟨.inr ⟨Hr2.out, t, p, rfl⟩, hx05.trans hx9⟩
            · have hm' : normalizeO names d = none := hm
              have Hr2 : Hid (stepO names lo hi (bytes s) = none) := by
                show _ = _
                rw [HS2.out]; simp only [hm']
              clear hm hm' HS2
              go_wp2_with fail
              go_ret2
              exact ⟨.inr ⟨Hr2.out, t, p, rfl⟩, hx03.trans hx4⟩
          · have hm' : normalizeO names c = none := hm
            have Hr2 : Hid (stepO names lo hi (bytes s) = none) := by
              show _ = _
              rw [HS.out]; simp only [hm']
            clear hm hm' HS
            go_wp2_with fail
            go_ret2
            exact ⟨.inr ⟨Hr2.out, t, p, rfl⟩, hx02.trans hx3⟩
        · rw [hl] at HS
          have Hr2 := HS
          have hlen := splitL_len a 45
          rw [hl] at hlen
          simp at hlen
          clear HS hl hcell hitem hst
          go_wp2_with fail
          go_at_call 125
          refine (new_invalid s _ _ hE2 (by omega) (by decide)).mono ?_
          rintro e w9 ⟨t, p, rfl, hx9⟩
          go_wp2_with fail
          go_ret2
          exact ⟨.inr ⟨Hr2.out, t, p, rfl⟩, hx02.trans hx9⟩
  · have hr : stepO names lo hi (bytes s) = none := by simp [stepO, hl]
    have Hr := Lib.hid hr
    have hlen := splitL_len (bytes s) 47
    rw [hl, bytes_length] at hlen
    simp at hlen
    clear hr hl hcell hitem hst
    go_wp2_with fail
    go_at_call 125
    refine (new_invalid s _ _ hE1 (by omega) (by decide)).mono ?_
    rintro e w9 ⟨t, p, rfl, hx9⟩
    go_wp2_with fail
    go_ret2
    exact ⟨.inr ⟨Hr.out, t, p, rfl⟩, hx01.trans hx9⟩
end Go.Proofs.YtmaffdhcmdhjfaaGreatDoor
