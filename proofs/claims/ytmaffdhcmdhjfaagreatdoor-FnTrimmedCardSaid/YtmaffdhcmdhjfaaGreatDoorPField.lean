/- parseField. (Printed by genfield.py.) -/
import Derived.Test.YtmaffdhcmdhjfaaGreatDoorList
namespace Go.Proofs.YtmaffdhcmdhjfaaGreatDoor
open Go.RowKit Go.Lib

def fieldO (names : List (List UInt8)) (lo hi : Int) (l : List UInt8) : Option (List Int) :=
  if l = [42] ∨ l = [63] then some []
  else if l.contains 44 then listO names lo hi l
  else if l.contains 47 then stepO names lo hi l
  else if l.contains 45 then rangeO names lo hi l
  else match normalizeO names l with
    | none => none
    | some x => if within lo hi x then some [x] else none

theorem Field.nil (w : World) (n : Int) : Field ((w.alloc (.cells #[] 3)).alloc (.cells #[.slice (some ⟨w.heap.size, 0, none⟩) 0 0, .int .i64 n] 92)) w.heap.size (.pointer (some ⟨w.heap.size + 1, 0, none⟩)) [] n := by
  have h : Ints (w.alloc (.cells #[] 3)) w.heap.size (.slice (some ⟨w.heap.size, 0, none⟩) 0 0) [] := World.ownsRow_lit w (e := 3) (size := 1) #[] 0 (Nat.le_refl _) (by decide) rfl
  have := Field.mk (n := n) h (by simp)
  simpa using this
theorem Field.one (w : World) (x n : Int) : Field ((w.alloc (.cells #[.int .i64 x] 3)).alloc (.cells #[.slice (some ⟨w.heap.size, 0, none⟩) 1 1, .int .i64 n] 92)) w.heap.size (.pointer (some ⟨w.heap.size + 1, 0, none⟩)) [x] n := by
  have h : Ints (w.alloc (.cells #[.int .i64 x] 3)) w.heap.size (.slice (some ⟨w.heap.size, 0, none⟩) 1 1) [x] := World.ownsRow_lit w (e := 3) (size := 1) #[.int .i64 x] 1 (Nat.le_refl _) (by decide) rfl
  have := Field.mk (n := n) h (by simp)
  simpa using this

theorem str_yes {s : ByteArray} {l : List UInt8} (h : bytes s = l) : (s.toList == l) = true := by rw [toList_bytes, h]; simp
theorem str_no {s : ByteArray} {l : List UInt8} (h : ¬ bytes s = l) : (s.toList == l) = false := by rw [toList_bytes, beq_eq_false_iff_ne]; exact h

set_option maxHeartbeats 3200000 in
set_option maxRecDepth 1000000 in
theorem parse_field (s : ByteArray) (lo hi : Int) (vn : Value) (names : List (List UInt8)) (w : World) (hs : s.size ≤ 2000) (hlo : 0 ≤ lo) (hhi : hi ≤ 4000) (hvn : Strs w 0 vn names) (hnn : names.length ≤ 13) (hE : Env w) :
    Calls Tryz.prog 90 #[.string s, .agg #[.int .i64 lo, .int .i64 hi], vn] w fun e w' => ((∃ zs v, fieldO names lo hi (bytes s) = some zs ∧ e = .returned (.tuple #[v, .nilIface]) ∧ Field w' w.heap.size v zs 0) ∨
      (fieldO names lo hi (bytes s) = none ∧ ∃ t p, e = .returned (.tuple #[.pointer none, .iface t p]))) ∧ Ext w w' := by
  obtain ⟨an, capn, rfl⟩ := own_any hvn
  have hx0 := Ext.alloc w (.cells #[.int .i64 lo, .int .i64 hi] 130)
  have hE0 := hE.ext hx0
  have hvn0 := hvn.ext hx0
  have Hvn := Lib.hid hvn0
  clear hvn hvn0
  have fin : Field (((w.alloc (.cells #[.int .i64 lo, .int .i64 hi] 130)).alloc (.cells #[] 3)).alloc (.cells #[.slice (some ⟨w.heap.size + 1, 0, none⟩) 0 0, .int .i64 0] 92)) w.heap.size (.pointer (some ⟨w.heap.size + 1 + 1, 0, none⟩)) [] 0 := by
    have := (Field.nil (w.alloc (.cells #[.int .i64 lo, .int .i64 hi] 130)) 0).mono hx0.size
    simpa using this
  have fin1 : ∀ x, Field (((w.alloc (.cells #[.int .i64 lo, .int .i64 hi] 130)).alloc (.cells #[.int .i64 x] 3)).alloc (.cells #[.slice (some ⟨w.heap.size + 1, 0, none⟩) 1 1, .int .i64 0] 92)) w.heap.size (.pointer (some ⟨w.heap.size + 1 + 1, 0, none⟩)) [x] 0 := by
    intro x
    have := (Field.one (w.alloc (.cells #[.int .i64 lo, .int .i64 hi] 130)) x 0).mono hx0.size
    simpa using this
  have Hfin := Lib.hid fin
  have Hfin1 := Lib.hid fin1
  clear fin fin1
  by_cases hany : bytes s = [42] ∨ bytes s = [63]
  · have hr : fieldO names lo hi (bytes s) = some [] := by unfold fieldO; rw [if_pos hany]
    have Hr := Lib.hid hr
    by_cases h1 : bytes s = [42]
    · have e1 := str_yes h1
      clear hr h1 hany
      go_enter Tryz.func90, Tryz.ntmps90
      go_wp2_with fail
      go_at_call 118
      refine (new_field _ _ _ _).mono ?_
      rintro e w1 ⟨rfl, rfl⟩
      go_wp2_with fail
      go_ret2
      exact ⟨.inl ⟨_, _, Hr.out, rfl, by simpa using Hfin.out⟩, (hx0.trans (Ext.alloc _ _)).trans (Ext.alloc _ _)⟩
    · have e1 := str_no h1
      have e2 := str_yes (hany.resolve_left h1)
      clear hr h1 hany
      go_enter Tryz.func90, Tryz.ntmps90
      go_wp2_with fail
      go_at_call 118
      refine (new_field _ _ _ _).mono ?_
      rintro e w1 ⟨rfl, rfl⟩
      go_wp2_with fail
      go_ret2
      exact ⟨.inl ⟨_, _, Hr.out, rfl, by simpa using Hfin.out⟩, (hx0.trans (Ext.alloc _ _)).trans (Ext.alloc _ _)⟩
  · have hF : fieldO names lo hi (bytes s) = if (bytes s).contains 44 then listO names lo hi (bytes s)
      else if (bytes s).contains 47 then stepO names lo hi (bytes s)
      else if (bytes s).contains 45 then rangeO names lo hi (bytes s)
      else match normalizeO names (bytes s) with
        | none => none
        | some x => if within lo hi x then some [x] else none := by unfold fieldO; rw [if_neg hany]
    have HF := Lib.hid hF
    have e1 := str_no (fun h => hany (.inl h))
    have e2 := str_no (fun h => hany (.inr h))
    clear hF hany
    go_enter Tryz.func90, Tryz.ntmps90
    go_wp2_with fail
    go_at_call 119
    refine (zz_has s 44 _ (by omega)).mono ?_
    rintro e w1 ⟨rfl, rfl⟩
    rcases h44 : (bytes s).contains 44
    · skip
      go_wp2_with fail
      go_at_call 119
      refine (zz_has s 47 _ (by omega)).mono ?_
      rintro e w1 ⟨rfl, rfl⟩
      rcases h47 : (bytes s).contains 47
      · skip
        go_wp2_with fail
        go_at_call 119
        refine (zz_has s 45 _ (by omega)).mono ?_
        rintro e w1 ⟨rfl, rfl⟩
        rcases h45 : (bytes s).contains 45
        · have hF2 : fieldO names lo hi (bytes s) = match normalizeO names (bytes s) with
            | none => none
            | some x => if within lo hi x then some [x] else none := by rw [HF.out, h44, h47, h45]; rfl
          have HF2 := Lib.hid hF2
          clear hF2 HF h44 h47 h45
          go_wp2_with fail
          go_at_call 123
          refine (normalize_any _ names s _ (by omega) hnn hE0 Hvn.out).mono ?_
          rintro e w1 ⟨⟨x, hm, rfl⟩ | ⟨hm, m, t, p, rfl⟩, hx1⟩
          · have hF3 : fieldO names lo hi (bytes s) = if within lo hi x then some [x] else none := by rw [HF2.out, hm]
            have HF3 := Lib.hid hF3
            have hlo1 : w1.cell? ⟨w.heap.size, 0, none⟩ = some (.int .i64 lo) := hx1.cell (by simp)
            have hhi1 : w1.cell? ⟨w.heap.size, 1, none⟩ = some (.int .i64 hi) := hx1.cell (by simp)
            clear hF3 HF2 hm
            go_wp2_with fail
            go_at_call 124
            refine (in_scope' x lo hi _).mono ?_
            rintro e w9 ⟨rfl, rfl⟩
            rcases hwx : within lo hi x
            · have Hr2 : Hid (fieldO names lo hi (bytes s) = none) := by
                show _ = _
                rw [HF3.out, hwx]; rfl
              clear hwx
              go_wp2_with fail
              go_at_call 125
              refine (new_invalid s _ _ (hE0.ext hx1) (by omega) (by decide)).mono ?_
              rintro e w5 ⟨t, p, rfl, hx5⟩
              go_wp2_with fail
              go_ret2
              exact ⟨.inr ⟨Hr2.out, t, p, rfl⟩, (hx0.trans hx1).trans hx5⟩
            · have Hr2 : Hid (fieldO names lo hi (bytes s) = some [x]) := by
                show _ = _
                rw [HF3.out, hwx]; rfl
              clear hwx HF3 hlo1 hhi1
              have F1 := Lib.hid ((Field.one w1 x 0).mono (hx0.trans hx1).size)
              go_wp2_with fail
              go_at_call 118
              refine (new_field _ _ _ _).mono ?_
              rintro e w2 ⟨rfl, rfl⟩
              go_wp2_with fail
              go_ret2
              exact ⟨.inl ⟨_, _, Hr2.out, rfl, by simpa using F1.out⟩, ((hx0.trans hx1).trans (Ext.alloc _ _)).trans (Ext.alloc _ _)⟩
          · have Hr2 : Hid (fieldO names lo hi (bytes s) = none) := by
              show _ = _
              rw [HF2.out, hm]
            clear hm HF2
            go_wp2_with fail
            go_ret2
            exact ⟨.inr ⟨Hr2.out, t, p, rfl⟩, hx0.trans hx1⟩
        · skip
          have Hr : Hid (fieldO names lo hi (bytes s) = rangeO names lo hi (bytes s)) := by
            show _ = _
            rw [HF.out, h44, h47, h45]; simp only [Bool.false_eq_true, if_false, if_true]
          clear h44 h47 h45 HF
          go_wp2_with fail
          go_at_call 122
          refine (parse_range s lo hi _ names _ (by omega) hlo hhi Hvn.out hnn hE0).mono ?_
          rintro e w2 ⟨⟨zs, v, hz, rfl, hF⟩ | ⟨hz, t, p, rfl⟩, hx⟩
          · have HF2 := Lib.hid (hF.mono hx0.size)
            have Hz := Lib.hid (Hr.out.trans hz)
            clear hF hz Hr
            go_wp2_with fail
            go_ret2
            exact ⟨.inl ⟨zs, _, Hz.out, rfl, HF2.out⟩, hx0.trans hx⟩
          · have Hz := Lib.hid (Hr.out.trans hz)
            clear hz Hr
            go_wp2_with fail
            go_ret2
            exact ⟨.inr ⟨Hz.out, t, p, rfl⟩, hx0.trans hx⟩
      · skip
        have Hr : Hid (fieldO names lo hi (bytes s) = stepO names lo hi (bytes s)) := by
          show _ = _
          rw [HF.out, h44, h47]; simp only [Bool.false_eq_true, if_false, if_true]
        clear h44 h47 HF
        go_wp2_with fail
        go_at_call 121
        refine (parse_step s lo hi _ names _ (by omega) hlo hhi Hvn.out hnn hE0).mono ?_
        rintro e w2 ⟨⟨zs, v, hz, rfl, hF⟩ | ⟨hz, t, p, rfl⟩, hx⟩
        · have HF2 := Lib.hid (hF.mono hx0.size)
          have Hz := Lib.hid (Hr.out.trans hz)
          clear hF hz Hr
          go_wp2_with fail
          go_ret2
          exact ⟨.inl ⟨zs, _, Hz.out, rfl, HF2.out⟩, hx0.trans hx⟩
        · have Hz := Lib.hid (Hr.out.trans hz)
          clear hz Hr
          go_wp2_with fail
          go_ret2
          exact ⟨.inr ⟨Hz.out, t, p, rfl⟩, hx0.trans hx⟩
    · skip
      have Hr : Hid (fieldO names lo hi (bytes s) = listO names lo hi (bytes s)) := by
        show _ = _
        rw [HF.out, h44]; simp only [Bool.false_eq_true, if_false, if_true]
      clear h44 HF
      go_wp2_with fail
      go_at_call 120
      refine (parse_list s lo hi _ names _ (by omega) hlo hhi Hvn.out hnn hE0).mono ?_
      rintro e w2 ⟨⟨zs, v, hz, rfl, hF⟩ | ⟨hz, t, p, rfl⟩, hx⟩
      · have HF2 := Lib.hid (hF.mono hx0.size)
        have Hz := Lib.hid (Hr.out.trans hz)
        clear hF hz Hr
        go_wp2_with fail
        go_ret2
        exact ⟨.inl ⟨zs, _, Hz.out, rfl, HF2.out⟩, hx0.trans hx⟩
      · have Hz := Lib.hid (Hr.out.trans hz)
        clear hz Hr
        go_wp2_with fail
        go_ret2
        exact ⟨.inr ⟨Hz.out, t, p, rfl⟩, hx0.trans hx⟩
end Go.Proofs.YtmaffdhcmdhjfaaGreatDoor
