/- parseDayOfMonthField, parseDayOfWeekField. (Printed by gendays.py.) -/
import Derived.Test.YtmaffdhcmdhjfaaGreatDoorPField
namespace Go.Proofs.YtmaffdhcmdhjfaaGreatDoor
open Go.RowKit Go.Lib

def domO (names : List (List UInt8)) (lo hi : Int) (l : List UInt8) : Option (List Int × Int) :=
  if l.contains 76 && lastDayB l then
    if l = [76] then some (([] : List Int), (1 : Int))
    else match splitL l 45 with
      | [_, b] => match atoiO b with
        | none => none
        | some n => if within lo hi n then some (([] : List Int), -n) else none
      | _ => none
  else if l.contains 87 then
    if l = [76, 87] then some ([(0 : Int)], (3 : Int))
    else if weekdayB l then match atoiO l.dropLast with
      | none => none
      | some n => if within lo hi n then some ([n], (2 : Int)) else none
    else (fieldO names lo hi l).map fun z => (z, (0 : Int))
  else (fieldO names lo hi l).map fun z => (z, (0 : Int))

def dowO (names : List (List UInt8)) (lo hi : Int) (l : List UInt8) : Option (List Int × Int) :=
  if l.contains 76 && lastWeekdayB l then
    if l.dropLast = [] then some ([(7 : Int)], (-1 : Int))
    else match normalizeO names l.dropLast with
      | none => none
      | some n => if within lo hi n then some ([n], (-1 : Int)) else none
  else if l.contains 35 && hashB l then match splitL l 35 with
    | [a, b] => match normalizeO names a with
      | none => none
      | some d => if within lo hi d then match atoiO b with
          | none => none
          | some n => if within 1 5 n then some ([d], n) else none
        else none
    | _ => none
  else (fieldO names lo hi l).map fun z => (z, (0 : Int))

theorem weekdayB_size {s : ByteArray} (h : weekdayB (bytes s) = true) : 1 < s.size := by
  unfold weekdayB at h
  simp only [Bool.and_eq_true, decide_eq_true_eq] at h
  have := h.1
  rwa [bytes_length] at this
theorem lastWeekdayB_size {s : ByteArray} (h : lastWeekdayB (bytes s) = true) : 0 < s.size := by
  unfold lastWeekdayB at h
  simp only [Bool.and_eq_true, decide_eq_true_eq] at h
  have := h.1
  rwa [bytes_length] at this

set_option maxHeartbeats 3200000 in
set_option maxRecDepth 1000000 in
theorem parse_dom (s : ByteArray) (lo hi : Int) (vn : Value) (names : List (List UInt8)) (w : World) (hs : s.size ≤ 2000) (hlo : 0 ≤ lo) (hhi : hi ≤ 4000) (hvn : Strs w 0 vn names) (hnn : names.length ≤ 13) (hE : Env w) :
    Calls Tryz.prog 91 #[.string s, .agg #[.int .i64 lo, .int .i64 hi], vn] w fun e w' => ((∃ zs n v, domO names lo hi (bytes s) = some (zs, n) ∧ e = .returned (.tuple #[v, .nilIface]) ∧ Field w' w.heap.size v zs n) ∨
      (domO names lo hi (bytes s) = none ∧ ∃ t p, e = .returned (.tuple #[.pointer none, .iface t p]))) ∧ Ext w w' := by
  obtain ⟨an, capn, rfl⟩ := own_any hvn
  have hx0 := Ext.alloc w (.cells #[.int .i64 lo, .int .i64 hi] 130)
  have hlo0 : (w.alloc (.cells #[.int .i64 lo, .int .i64 hi] 130)).cell? ⟨w.heap.size, 0, none⟩ = some (.int .i64 lo) := by simp
  have hhi0 : (w.alloc (.cells #[.int .i64 lo, .int .i64 hi] 130)).cell? ⟨w.heap.size, 1, none⟩ = some (.int .i64 hi) := by simp
  have hE0 := hE.ext hx0
  have hvn0 := hvn.ext hx0
  have Hvn := Lib.hid hvn0
  clear hvn hvn0
  go_enter Tryz.func91, Tryz.ntmps91
  go_wp2_with fail
  obtain ⟨w0, hw0⟩ : ∃ w0, w0 = w.alloc (.cells #[.int .i64 lo, .int .i64 hi] 130) := ⟨_, rfl⟩
  rw [← hw0] at hx0 hlo0 hhi0 hE0 Hvn ⊢
  clear hw0
  go_at_call 119
  refine (zz_has s 76 _ (by omega)).mono ?_
  rintro e w1 ⟨rfl, rfl⟩
  rcases h76 : (bytes s).contains 76
  · have hcond : ((bytes s).contains 76 && lastDayB (bytes s)) = false := by rw [h76]; rfl
    clear h76
    have hF : domO names lo hi (bytes s) = if (bytes s).contains 87 then
        if bytes s = [76, 87] then some ([(0 : Int)], (3 : Int))
        else if weekdayB (bytes s) then match atoiO (bytes s).dropLast with
          | none => none
          | some n => if within lo hi n then some ([n], (2 : Int)) else none
        else (fieldO names lo hi (bytes s)).map fun z => (z, (0 : Int))
      else (fieldO names lo hi (bytes s)).map fun z => (z, (0 : Int)) := by unfold domO; rw [if_neg (by rw [hcond]; decide)]
    have HF := Lib.hid hF
    clear hF hcond
    go_wp2_with fail
    go_at_call 119
    refine (zz_has s 87 _ (by omega)).mono ?_
    rintro e w1 ⟨rfl, rfl⟩
    rcases h87 : (bytes s).contains 87
    · skip
      have Hr : Hid (domO names lo hi (bytes s) = (fieldO names lo hi (bytes s)).map fun z => (z, (0 : Int))) := by
        show _ = _
        rw [HF.out, h87]; rfl
      clear HF h87
      go_wp2_with fail
      go_at_call 90
      refine (parse_field s lo hi _ names _ hs hlo hhi (Hvn.out.ext (Ext.refl _)) hnn (hE0.ext (Ext.refl _))).mono ?_
      rintro e w12 ⟨⟨zs, v, hz, rfl, hF⟩ | ⟨hz, t, p, rfl⟩, hx12⟩
      · have HF2 := Lib.hid (hF.mono (hx0.trans (Ext.refl _)).size)
        have Hz : Hid (domO names lo hi (bytes s) = some (zs, 0)) := by
          show _ = _
          rw [Hr.out, hz]; rfl
        clear hF hz Hr
        go_wp2_with fail
        go_ret2
        exact ⟨.inl ⟨zs, 0, _, Hz.out, rfl, HF2.out⟩, (hx0.trans (Ext.refl _)).trans hx12⟩
      · have Hz : Hid (domO names lo hi (bytes s) = none) := by
          show _ = _
          rw [Hr.out, hz]; rfl
        clear hz Hr
        go_wp2_with fail
        go_ret2
        exact ⟨.inr ⟨Hz.out, t, p, rfl⟩, (hx0.trans (Ext.refl _)).trans hx12⟩
    · have hF : domO names lo hi (bytes s) = if bytes s = [76, 87] then some ([(0 : Int)], (3 : Int))
        else if weekdayB (bytes s) then match atoiO (bytes s).dropLast with
          | none => none
          | some n => if within lo hi n then some ([n], (2 : Int)) else none
        else (fieldO names lo hi (bytes s)).map fun z => (z, (0 : Int)) := by rw [HF.out, h87]; rfl
      have HG := Lib.hid hF
      clear hF h87 HF
      by_cases hlw : bytes s = [76, 87]
      · have Hr2 : Hid (domO names lo hi (bytes s) = some ([(0 : Int)], (3 : Int))) := by
          show _ = _
          rw [HG.out, if_pos hlw]
        have e1 := str_yes hlw
        clear HG hlw hlo0 hhi0
        have F1 := Lib.hid ((Field.one w0 (0) (3)).mono (hx0).size)
        go_wp2_with fail
        go_at_call 127
        refine (new_fieldN _ _ _ _ _).mono ?_
        rintro e w20 ⟨rfl, rfl⟩
        go_wp2_with fail
        go_ret2
        exact ⟨.inl ⟨_, _, _, Hr2.out, rfl, by simpa using F1.out⟩, ((hx0).trans (Ext.alloc _ _)).trans (Ext.alloc _ _)⟩
      · have hF : domO names lo hi (bytes s) = if weekdayB (bytes s) then match atoiO (bytes s).dropLast with
            | none => none
            | some n => if within lo hi n then some ([n], (2 : Int)) else none
          else (fieldO names lo hi (bytes s)).map fun z => (z, (0 : Int)) := by rw [HG.out, if_neg hlw]
        have HF := Lib.hid hF
        have e1 := str_no hlw
        clear hF hlw HG
        go_wp2_with fail
        go_at_call 129
        refine (is_weekday s _ (by omega)).mono ?_
        rintro e w1 ⟨rfl, rfl⟩
        rcases hwd : weekdayB (bytes s)
        · skip
          have Hr : Hid (domO names lo hi (bytes s) = (fieldO names lo hi (bytes s)).map fun z => (z, (0 : Int))) := by
            show _ = _
            rw [HF.out, hwd]; rfl
          clear HF hwd e1
          go_wp2_with fail
          go_at_call 90
          refine (parse_field s lo hi _ names _ hs hlo hhi (Hvn.out.ext (Ext.refl _)) hnn (hE0.ext (Ext.refl _))).mono ?_
          rintro e w12 ⟨⟨zs, v, hz, rfl, hF⟩ | ⟨hz, t, p, rfl⟩, hx12⟩
          · have HF2 := Lib.hid (hF.mono (hx0.trans (Ext.refl _)).size)
            have Hz : Hid (domO names lo hi (bytes s) = some (zs, 0)) := by
              show _ = _
              rw [Hr.out, hz]; rfl
            clear hF hz Hr
            go_wp2_with fail
            go_ret2
            exact ⟨.inl ⟨zs, 0, _, Hz.out, rfl, HF2.out⟩, (hx0.trans (Ext.refl _)).trans hx12⟩
          · have Hz : Hid (domO names lo hi (bytes s) = none) := by
              show _ = _
              rw [Hr.out, hz]; rfl
            clear hz Hr
            go_wp2_with fail
            go_ret2
            exact ⟨.inr ⟨Hz.out, t, p, rfl⟩, (hx0.trans (Ext.refl _)).trans hx12⟩
        · have hsz := weekdayB_size hwd
          have hF : domO names lo hi (bytes s) = match atoiO (bytes s).dropLast with
            | none => none
            | some n => if within lo hi n then some ([n], (2 : Int)) else none := by rw [HF.out, hwd]; rfl
          have HG := Lib.hid hF
          have hne : ¬ bytes (mk (bytes s).dropLast) = [] := by
            rw [bytes_mk]
            intro h
            have := congrArg List.length h
            simp [bytes_length] at this
            omega
          have e2 := str_no hne
          have hsz2 : (mk (bytes s).dropLast).size ≤ 2000 := by rw [size_mk, List.length_dropLast, bytes_length]; omega
          clear hF hwd HF hne
          go_wp2_with fail
          go_at_call 130
          refine (without_last s _ (by omega) (by omega)).mono ?_
          rintro e w1 ⟨rfl, rfl⟩
          go_wp2_with fail
          go_at_call 128
          refine (atoi_any _ _ (by omega) hE0).mono ?_
          rintro e w1 ⟨⟨n, hn, rfl⟩ | ⟨hn, m, t, p, rfl⟩, hx1⟩
          · rw [bytes_mk] at hn
            have hF : domO names lo hi (bytes s) = if within lo hi n then some ([n], (2 : Int)) else none := by rw [HG.out, hn]
            have HF := Lib.hid hF
            have hlo1 := hx1.cell hlo0
            have hhi1 := hx1.cell hhi0
            clear hF HG hn hlo0 hhi0
            go_wp2_with fail
            go_at_call 124
            refine (in_scope' n lo hi _).mono ?_
            rintro e w9 ⟨rfl, rfl⟩
            rcases hwx : within lo hi n
            · have Hr2 : Hid (domO names lo hi (bytes s) = none) := by
                show _ = _
                rw [HF.out, hwx]; rfl
              clear hwx
              go_wp2_with fail
              go_at_call 125
              refine (new_invalid s _ _ (hE0.ext hx1) (by omega) (by decide)).mono ?_
              rintro e w5 ⟨t, p, rfl, hx5⟩
              go_wp2_with fail
              go_ret2
              exact ⟨.inr ⟨Hr2.out, t, p, rfl⟩, (hx0.trans hx1).trans hx5⟩
            · have Hr2 : Hid (domO names lo hi (bytes s) = some ([n], (2 : Int))) := by
                show _ = _
                rw [HF.out, hwx]; rfl
              clear hwx HF hlo1 hhi1
              have F1 := Lib.hid ((Field.one w1 (n) (2)).mono (hx0.trans hx1).size)
              go_wp2_with fail
              go_at_call 127
              refine (new_fieldN _ _ _ _ _).mono ?_
              rintro e w20 ⟨rfl, rfl⟩
              go_wp2_with fail
              go_ret2
              exact ⟨.inl ⟨_, _, _, Hr2.out, rfl, by simpa using F1.out⟩, ((hx0.trans hx1).trans (Ext.alloc _ _)).trans (Ext.alloc _ _)⟩
          · rw [bytes_mk] at hn
            have Hr2 : Hid (domO names lo hi (bytes s) = none) := by
              show _ = _
              rw [HG.out, hn]
            clear hn HG hlo0 hhi0
            go_wp2_with fail
            go_at_call 125
            refine (new_invalid s _ _ (hE0.ext hx1) (by omega) (by decide)).mono ?_
            rintro e w5 ⟨t, p, rfl, hx5⟩
            go_wp2_with fail
            go_ret2
            exact ⟨.inr ⟨Hr2.out, t, p, rfl⟩, (hx0.trans hx1).trans hx5⟩
  · go_wp2_with fail
    go_at_call 126
    refine (is_last_day s _ (by omega)).mono ?_
    rintro e w1 ⟨rfl, rfl⟩
    rcases hld : lastDayB (bytes s)
    · have hcond : ((bytes s).contains 76 && lastDayB (bytes s)) = false := by rw [h76, hld]; rfl
      clear h76 hld
      have hF : domO names lo hi (bytes s) = if (bytes s).contains 87 then
          if bytes s = [76, 87] then some ([(0 : Int)], (3 : Int))
          else if weekdayB (bytes s) then match atoiO (bytes s).dropLast with
            | none => none
            | some n => if within lo hi n then some ([n], (2 : Int)) else none
          else (fieldO names lo hi (bytes s)).map fun z => (z, (0 : Int))
        else (fieldO names lo hi (bytes s)).map fun z => (z, (0 : Int)) := by unfold domO; rw [if_neg (by rw [hcond]; decide)]
      have HF := Lib.hid hF
      clear hF hcond
      go_wp2_with fail
      go_at_call 119
      refine (zz_has s 87 _ (by omega)).mono ?_
      rintro e w1 ⟨rfl, rfl⟩
      rcases h87 : (bytes s).contains 87
      · skip
        have Hr : Hid (domO names lo hi (bytes s) = (fieldO names lo hi (bytes s)).map fun z => (z, (0 : Int))) := by
          show _ = _
          rw [HF.out, h87]; rfl
        clear HF h87
        go_wp2_with fail
        go_at_call 90
        refine (parse_field s lo hi _ names _ hs hlo hhi (Hvn.out.ext (Ext.refl _)) hnn (hE0.ext (Ext.refl _))).mono ?_
        rintro e w12 ⟨⟨zs, v, hz, rfl, hF⟩ | ⟨hz, t, p, rfl⟩, hx12⟩
        · have HF2 := Lib.hid (hF.mono (hx0.trans (Ext.refl _)).size)
          have Hz : Hid (domO names lo hi (bytes s) = some (zs, 0)) := by
            show _ = _
            rw [Hr.out, hz]; rfl
          clear hF hz Hr
          go_wp2_with fail
          go_ret2
          exact ⟨.inl ⟨zs, 0, _, Hz.out, rfl, HF2.out⟩, (hx0.trans (Ext.refl _)).trans hx12⟩
        · have Hz : Hid (domO names lo hi (bytes s) = none) := by
            show _ = _
            rw [Hr.out, hz]; rfl
          clear hz Hr
          go_wp2_with fail
          go_ret2
          exact ⟨.inr ⟨Hz.out, t, p, rfl⟩, (hx0.trans (Ext.refl _)).trans hx12⟩
      · have hF : domO names lo hi (bytes s) = if bytes s = [76, 87] then some ([(0 : Int)], (3 : Int))
          else if weekdayB (bytes s) then match atoiO (bytes s).dropLast with
            | none => none
            | some n => if within lo hi n then some ([n], (2 : Int)) else none
          else (fieldO names lo hi (bytes s)).map fun z => (z, (0 : Int)) := by rw [HF.out, h87]; rfl
        have HG := Lib.hid hF
        clear hF h87 HF
        by_cases hlw : bytes s = [76, 87]
        · have Hr2 : Hid (domO names lo hi (bytes s) = some ([(0 : Int)], (3 : Int))) := by
            show _ = _
            rw [HG.out, if_pos hlw]
          have e1 := str_yes hlw
          clear HG hlw hlo0 hhi0
          have F1 := Lib.hid ((Field.one w0 (0) (3)).mono (hx0).size)
          go_wp2_with fail
          go_at_call 127
          refine (new_fieldN _ _ _ _ _).mono ?_
          rintro e w20 ⟨rfl, rfl⟩
          go_wp2_with fail
          go_ret2
          exact ⟨.inl ⟨_, _, _, Hr2.out, rfl, by simpa using F1.out⟩, ((hx0).trans (Ext.alloc _ _)).trans (Ext.alloc _ _)⟩
        · have hF : domO names lo hi (bytes s) = if weekdayB (bytes s) then match atoiO (bytes s).dropLast with
              | none => none
              | some n => if within lo hi n then some ([n], (2 : Int)) else none
            else (fieldO names lo hi (bytes s)).map fun z => (z, (0 : Int)) := by rw [HG.out, if_neg hlw]
          have HF := Lib.hid hF
          have e1 := str_no hlw
          clear hF hlw HG
          go_wp2_with fail
          go_at_call 129
          refine (is_weekday s _ (by omega)).mono ?_
          rintro e w1 ⟨rfl, rfl⟩
          rcases hwd : weekdayB (bytes s)
          · skip
            have Hr : Hid (domO names lo hi (bytes s) = (fieldO names lo hi (bytes s)).map fun z => (z, (0 : Int))) := by
              show _ = _
              rw [HF.out, hwd]; rfl
            clear HF hwd e1
            go_wp2_with fail
            go_at_call 90
            refine (parse_field s lo hi _ names _ hs hlo hhi (Hvn.out.ext (Ext.refl _)) hnn (hE0.ext (Ext.refl _))).mono ?_
            rintro e w12 ⟨⟨zs, v, hz, rfl, hF⟩ | ⟨hz, t, p, rfl⟩, hx12⟩
            · have HF2 := Lib.hid (hF.mono (hx0.trans (Ext.refl _)).size)
              have Hz : Hid (domO names lo hi (bytes s) = some (zs, 0)) := by
                show _ = _
                rw [Hr.out, hz]; rfl
              clear hF hz Hr
              go_wp2_with fail
              go_ret2
              exact ⟨.inl ⟨zs, 0, _, Hz.out, rfl, HF2.out⟩, (hx0.trans (Ext.refl _)).trans hx12⟩
            · have Hz : Hid (domO names lo hi (bytes s) = none) := by
                show _ = _
                rw [Hr.out, hz]; rfl
              clear hz Hr
              go_wp2_with fail
              go_ret2
              exact ⟨.inr ⟨Hz.out, t, p, rfl⟩, (hx0.trans (Ext.refl _)).trans hx12⟩
          · have hsz := weekdayB_size hwd
            have hF : domO names lo hi (bytes s) = match atoiO (bytes s).dropLast with
              | none => none
              | some n => if within lo hi n then some ([n], (2 : Int)) else none := by rw [HF.out, hwd]; rfl
            have HG := Lib.hid hF
            have hne : ¬ bytes (mk (bytes s).dropLast) = [] := by
              rw [bytes_mk]
              intro h
              have := congrArg List.length h
              simp [bytes_length] at this
              omega
            have e2 := str_no hne
            have hsz2 : (mk (bytes s).dropLast).size ≤ 2000 := by rw [size_mk, List.length_dropLast, bytes_length]; omega
            clear hF hwd HF hne
            go_wp2_with fail
            go_at_call 130
            refine (without_last s _ (by omega) (by omega)).mono ?_
            rintro e w1 ⟨rfl, rfl⟩
            go_wp2_with fail
            go_at_call 128
            refine (atoi_any _ _ (by omega) hE0).mono ?_
            rintro e w1 ⟨⟨n, hn, rfl⟩ | ⟨hn, m, t, p, rfl⟩, hx1⟩
            · rw [bytes_mk] at hn
              have hF : domO names lo hi (bytes s) = if within lo hi n then some ([n], (2 : Int)) else none := by rw [HG.out, hn]
              have HF := Lib.hid hF
              have hlo1 := hx1.cell hlo0
              have hhi1 := hx1.cell hhi0
              clear hF HG hn hlo0 hhi0
              go_wp2_with fail
              go_at_call 124
              refine (in_scope' n lo hi _).mono ?_
              rintro e w9 ⟨rfl, rfl⟩
              rcases hwx : within lo hi n
              · have Hr2 : Hid (domO names lo hi (bytes s) = none) := by
                  show _ = _
                  rw [HF.out, hwx]; rfl
                clear hwx
                go_wp2_with fail
                go_at_call 125
                refine (new_invalid s _ _ (hE0.ext hx1) (by omega) (by decide)).mono ?_
                rintro e w5 ⟨t, p, rfl, hx5⟩
                go_wp2_with fail
                go_ret2
                exact ⟨.inr ⟨Hr2.out, t, p, rfl⟩, (hx0.trans hx1).trans hx5⟩
              · have Hr2 : Hid (domO names lo hi (bytes s) = some ([n], (2 : Int))) := by
                  show _ = _
                  rw [HF.out, hwx]; rfl
                clear hwx HF hlo1 hhi1
                have F1 := Lib.hid ((Field.one w1 (n) (2)).mono (hx0.trans hx1).size)
                go_wp2_with fail
                go_at_call 127
                refine (new_fieldN _ _ _ _ _).mono ?_
                rintro e w20 ⟨rfl, rfl⟩
                go_wp2_with fail
                go_ret2
                exact ⟨.inl ⟨_, _, _, Hr2.out, rfl, by simpa using F1.out⟩, ((hx0.trans hx1).trans (Ext.alloc _ _)).trans (Ext.alloc _ _)⟩
            · rw [bytes_mk] at hn
              have Hr2 : Hid (domO names lo hi (bytes s) = none) := by
                show _ = _
                rw [HG.out, hn]
              clear hn HG hlo0 hhi0
              go_wp2_with fail
              go_at_call 125
              refine (new_invalid s _ _ (hE0.ext hx1) (by omega) (by decide)).mono ?_
              rintro e w5 ⟨t, p, rfl, hx5⟩
              go_wp2_with fail
              go_ret2
              exact ⟨.inr ⟨Hr2.out, t, p, rfl⟩, (hx0.trans hx1).trans hx5⟩
    · have hF : domO names lo hi (bytes s) = if bytes s = [76] then some (([] : List Int), (1 : Int))
        else match splitL (bytes s) 45 with
          | [_, b] => match atoiO b with
            | none => none
            | some n => if within lo hi n then some (([] : List Int), -n) else none
          | _ => none := by unfold domO; rw [h76, hld]; rfl
      have HF := Lib.hid hF
      clear hF h76 hld
      by_cases hl1 : bytes s = [76]
      · have Hr2 : Hid (domO names lo hi (bytes s) = some (([] : List Int), (1 : Int))) := by
          show _ = _
          rw [HF.out, if_pos hl1]
        have e1 := str_yes hl1
        clear HF hl1 hlo0 hhi0
        have F1 := Lib.hid ((Field.nil w0 (1)).mono (hx0).size)
        go_wp2_with fail
        go_at_call 127
        refine (new_fieldN _ _ _ _ _).mono ?_
        rintro e w20 ⟨rfl, rfl⟩
        go_wp2_with fail
        go_ret2
        exact ⟨.inl ⟨_, _, _, Hr2.out, rfl, by simpa using F1.out⟩, ((hx0).trans (Ext.alloc _ _)).trans (Ext.alloc _ _)⟩
      · have hF : domO names lo hi (bytes s) = match splitL (bytes s) 45 with
          | [_, b] => match atoiO b with
            | none => none
            | some n => if within lo hi n then some (([] : List Int), -n) else none
          | _ => none := by rw [HF.out, if_neg hl1]
        have HG := Lib.hid hF
        have e1 := str_no hl1
        clear hF hl1 HF
        go_wp2_with fail
        go_at_call 76
        refine (zz_split s 45 _ (by omega)).mono ?_
        rintro e w1 ⟨v, rfl, hst, hx1⟩
        have hlo1 := hx1.cell hlo0
        have hhi1 := hx1.cell hhi0
        have hE1 := hE0.ext hx1
        obtain ⟨g, cap, rfl, hb, hg, hcell⟩ := hst.form (splitL_pos _ _)
        have hitem := splitL_item (bytes s) 45
        rw [bytes_length] at hitem
        clear hlo0 hhi0
        rcases hl : splitL (bytes s) 45 with _ | ⟨a, _ | ⟨b, _ | ⟨c, rest⟩⟩⟩
        · exact absurd hl (splitGo_ne _ _ _)
        · rw [hl] at HG
          have Hr2 := HG
          clear HG hl hcell hitem hst
          go_wp2_with fail
          go_at_call 125
          refine (new_invalid s _ _ hE1 (by omega) (by decide)).mono ?_
          rintro e w5 ⟨t, p, rfl, hx5⟩
          go_wp2_with fail
          go_ret2
          exact ⟨.inr ⟨Hr2.out, t, p, rfl⟩, (hx0.trans hx1).trans hx5⟩
        · rw [hl] at hcell HG
          have c1 := hcell 1 b rfl
          have hbl := hitem b (by rw [hl]; simp)
          clear hl hcell hitem hst
          go_wp2_with fail
          go_at_call 128
          refine (atoi_any (mk b) _ (by rw [size_mk]; omega) hE1).mono ?_
          rintro e w2 ⟨⟨n, hn, rfl⟩ | ⟨hn, m, t, p, rfl⟩, hx2⟩
          · have hn' : atoiO b = some n := hn
            have hF : domO names lo hi (bytes s) = if within lo hi n then some (([] : List Int), -n) else none := by rw [HG.out]; simp only [hn']
            have HF := Lib.hid hF
            have hlo2 := hx2.cell hlo1
            have hhi2 := hx2.cell hhi1
            clear hF HG hn hn' hlo1 hhi1 c1
            go_wp2_with fail
            go_at_call 124
            refine (in_scope' n lo hi _).mono ?_
            rintro e w9 ⟨rfl, rfl⟩
            rcases hwx : within lo hi n
            · have Hr2 : Hid (domO names lo hi (bytes s) = none) := by
                show _ = _
                rw [HF.out, hwx]; rfl
              clear hwx
              go_wp2_with fail
              go_at_call 125
              refine (new_invalid s _ _ (hE1.ext hx2) (by omega) (by decide)).mono ?_
              rintro e w5 ⟨t, p, rfl, hx5⟩
              go_wp2_with fail
              go_ret2
              exact ⟨.inr ⟨Hr2.out, t, p, rfl⟩, ((hx0.trans hx1).trans hx2).trans hx5⟩
            · have Hr2 : Hid (domO names lo hi (bytes s) = some (([] : List Int), -n)) := by
                show _ = _
                rw [HF.out, hwx]; rfl
              have hwl := within_le hwx
              clear hwx HF hlo2 hhi2
              have F1 := Lib.hid ((Field.nil w2 (-n)).mono ((hx0.trans hx1).trans hx2).size)
              go_wp2_with fail
              go_at_call 127
              refine (new_fieldN _ _ _ _ _).mono ?_
              rintro e w20 ⟨rfl, rfl⟩
              go_wp2_with fail
              go_ret2
              exact ⟨.inl ⟨_, _, _, Hr2.out, rfl, by simpa using F1.out⟩, (((hx0.trans hx1).trans hx2).trans (Ext.alloc _ _)).trans (Ext.alloc _ _)⟩
          · have hn' : atoiO b = none := hn
            have Hr2 : Hid (domO names lo hi (bytes s) = none) := by
              show _ = _
              rw [HG.out]; simp only [hn']
            clear hn hn' HG hlo1 hhi1 c1
            go_wp2_with fail
            go_at_call 125
            refine (new_invalid s _ _ (hE1.ext hx2) (by omega) (by decide)).mono ?_
            rintro e w5 ⟨t, p, rfl, hx5⟩
            go_wp2_with fail
            go_ret2
            exact ⟨.inr ⟨Hr2.out, t, p, rfl⟩, ((hx0.trans hx1).trans hx2).trans hx5⟩
        · rw [hl] at HG
          have Hr2 := HG
          have hlen := splitL_len (bytes s) 45
          rw [hl, bytes_length] at hlen
          simp at hlen
          clear HG hl hcell hitem hst
          go_wp2_with fail
          go_at_call 125
          refine (new_invalid s _ _ hE1 (by omega) (by decide)).mono ?_
          rintro e w5 ⟨t, p, rfl, hx5⟩
          go_wp2_with fail
          go_ret2
          exact ⟨.inr ⟨Hr2.out, t, p, rfl⟩, (hx0.trans hx1).trans hx5⟩

set_option maxHeartbeats 3200000 in
set_option maxRecDepth 1000000 in
theorem parse_dow (s : ByteArray) (lo hi : Int) (vn : Value) (names : List (List UInt8)) (w : World) (hs : s.size ≤ 2000) (hlo : 0 ≤ lo) (hhi : hi ≤ 4000) (hvn : Strs w 0 vn names) (hnn : names.length ≤ 13) (hE : Env w) :
    Calls Tryz.prog 93 #[.string s, .agg #[.int .i64 lo, .int .i64 hi], vn] w fun e w' => ((∃ zs n v, dowO names lo hi (bytes s) = some (zs, n) ∧ e = .returned (.tuple #[v, .nilIface]) ∧ Field w' w.heap.size v zs n) ∨
      (dowO names lo hi (bytes s) = none ∧ ∃ t p, e = .returned (.tuple #[.pointer none, .iface t p]))) ∧ Ext w w' := by
  obtain ⟨an, capn, rfl⟩ := own_any hvn
  have hx0 := Ext.alloc w (.cells #[.int .i64 lo, .int .i64 hi] 130)
  have hlo0 : (w.alloc (.cells #[.int .i64 lo, .int .i64 hi] 130)).cell? ⟨w.heap.size, 0, none⟩ = some (.int .i64 lo) := by simp
  have hhi0 : (w.alloc (.cells #[.int .i64 lo, .int .i64 hi] 130)).cell? ⟨w.heap.size, 1, none⟩ = some (.int .i64 hi) := by simp
  have hE0 := hE.ext hx0
  have hvn0 := hvn.ext hx0
  have Hvn := Lib.hid hvn0
  clear hvn hvn0
  go_enter Tryz.func93, Tryz.ntmps93
  go_wp2_with fail
  obtain ⟨w0, hw0⟩ : ∃ w0, w0 = w.alloc (.cells #[.int .i64 lo, .int .i64 hi] 130) := ⟨_, rfl⟩
  rw [← hw0] at hx0 hlo0 hhi0 hE0 Hvn ⊢
  clear hw0
  go_at_call 119
  refine (zz_has s 76 _ (by omega)).mono ?_
  rintro e w1 ⟨rfl, rfl⟩
  rcases h76 : (bytes s).contains 76
  · have hcond : ((bytes s).contains 76 && lastWeekdayB (bytes s)) = false := by rw [h76]; rfl
    clear h76
    have hF : dowO names lo hi (bytes s) = if (bytes s).contains 35 && hashB (bytes s) then match splitL (bytes s) 35 with
        | [a, b] => match normalizeO names a with
          | none => none
          | some d => if within lo hi d then match atoiO b with
              | none => none
              | some n => if within 1 5 n then some ([d], n) else none
            else none
        | _ => none
      else (fieldO names lo hi (bytes s)).map fun z => (z, (0 : Int)) := by unfold dowO; rw [if_neg (by rw [hcond]; decide)]
    have HF := Lib.hid hF
    clear hF hcond
    go_wp2_with fail
    go_at_call 119
    refine (zz_has s 35 _ (by omega)).mono ?_
    rintro e w1 ⟨rfl, rfl⟩
    rcases h35 : (bytes s).contains 35
    · skip
      have Hr : Hid (dowO names lo hi (bytes s) = (fieldO names lo hi (bytes s)).map fun z => (z, (0 : Int))) := by
        show _ = _
        rw [HF.out, h35]; rfl
      clear HF h35
      go_wp2_with fail
      go_at_call 90
      refine (parse_field s lo hi _ names _ hs hlo hhi (Hvn.out.ext (Ext.refl _)) hnn (hE0.ext (Ext.refl _))).mono ?_
      rintro e w12 ⟨⟨zs, v, hz, rfl, hF⟩ | ⟨hz, t, p, rfl⟩, hx12⟩
      · have HF2 := Lib.hid (hF.mono (hx0.trans (Ext.refl _)).size)
        have Hz : Hid (dowO names lo hi (bytes s) = some (zs, 0)) := by
          show _ = _
          rw [Hr.out, hz]; rfl
        clear hF hz Hr
        go_wp2_with fail
        go_ret2
        exact ⟨.inl ⟨zs, 0, _, Hz.out, rfl, HF2.out⟩, (hx0.trans (Ext.refl _)).trans hx12⟩
      · have Hz : Hid (dowO names lo hi (bytes s) = none) := by
          show _ = _
          rw [Hr.out, hz]; rfl
        clear hz Hr
        go_wp2_with fail
        go_ret2
        exact ⟨.inr ⟨Hz.out, t, p, rfl⟩, (hx0.trans (Ext.refl _)).trans hx12⟩
    · go_wp2_with fail
      go_at_call 132
      refine (is_hash s _ (by omega)).mono ?_
      rintro e w1 ⟨rfl, hx1⟩
      have hlo1 := hx1.cell hlo0
      have hhi1 := hx1.cell hhi0
      have hE1 := hE0.ext hx1
      clear hlo0 hhi0
      rcases hh : hashB (bytes s)
      · skip
        have Hr : Hid (dowO names lo hi (bytes s) = (fieldO names lo hi (bytes s)).map fun z => (z, (0 : Int))) := by
          show _ = _
          rw [HF.out, h35, hh]; rfl
        clear HF h35 hh
        go_wp2_with fail
        go_at_call 90
        refine (parse_field s lo hi _ names _ hs hlo hhi (Hvn.out.ext (hx1)) hnn (hE0.ext (hx1))).mono ?_
        rintro e w12 ⟨⟨zs, v, hz, rfl, hF⟩ | ⟨hz, t, p, rfl⟩, hx12⟩
        · have HF2 := Lib.hid (hF.mono (hx0.trans (hx1)).size)
          have Hz : Hid (dowO names lo hi (bytes s) = some (zs, 0)) := by
            show _ = _
            rw [Hr.out, hz]; rfl
          clear hF hz Hr
          go_wp2_with fail
          go_ret2
          exact ⟨.inl ⟨zs, 0, _, Hz.out, rfl, HF2.out⟩, (hx0.trans (hx1)).trans hx12⟩
        · have Hz : Hid (dowO names lo hi (bytes s) = none) := by
            show _ = _
            rw [Hr.out, hz]; rfl
          clear hz Hr
          go_wp2_with fail
          go_ret2
          exact ⟨.inr ⟨Hz.out, t, p, rfl⟩, (hx0.trans (hx1)).trans hx12⟩
      · have hF : dowO names lo hi (bytes s) = match splitL (bytes s) 35 with
          | [a, b] => match normalizeO names a with
            | none => none
            | some d => if within lo hi d then match atoiO b with
                | none => none
                | some n => if within 1 5 n then some ([d], n) else none
              else none
          | _ => none := by rw [HF.out, h35, hh]; rfl
        have HG := Lib.hid hF
        clear hF h35 hh HF
        go_wp2_with fail
        go_at_call 76
        refine (zz_split s 35 _ (by omega)).mono ?_
        rintro e w2 ⟨v, rfl, hst, hx2⟩
        have hlo2 := hx2.cell hlo1
        have hhi2 := hx2.cell hhi1
        have hE2 := hE1.ext hx2
        obtain ⟨g, cap, rfl, hb, hg, hcell⟩ := hst.form (splitL_pos _ _)
        have hitem := splitL_item (bytes s) 35
        rw [bytes_length] at hitem
        have hx02 := (hx0.trans hx1).trans hx2
        clear hlo1 hhi1
        rcases hl : splitL (bytes s) 35 with _ | ⟨a, _ | ⟨b, _ | ⟨c, rest⟩⟩⟩
        · exact absurd hl (splitGo_ne _ _ _)
        · rw [hl] at HG
          have Hr2 := HG
          clear HG hl hcell hitem hst
          go_wp2_with fail
          go_at_call 125
          refine (new_invalid s _ _ hE2 (by omega) (by decide)).mono ?_
          rintro e w5 ⟨t, p, rfl, hx5⟩
          go_wp2_with fail
          go_ret2
          exact ⟨.inr ⟨Hr2.out, t, p, rfl⟩, hx02.trans hx5⟩
        · rw [hl] at hcell HG
          have c0 := hcell 0 a rfl
          have c1 := hcell 1 b rfl
          have hal := hitem a (by rw [hl]; simp)
          have hbl := hitem b (by rw [hl]; simp)
          clear hl hcell hitem hst
          go_wp2_with fail
          go_at_call 123
          refine (normalize_any _ names (mk a) _ (by rw [size_mk]; omega) hnn hE2 ((Hvn.out.ext hx1).ext hx2)).mono ?_
          rintro e w3 ⟨⟨d, hn, rfl⟩ | ⟨hn, m, t, p, rfl⟩, hx3⟩
          · have hn' : normalizeO names a = some d := hn
            have hF : dowO names lo hi (bytes s) = if within lo hi d then match atoiO b with
                  | none => none
                  | some n => if within 1 5 n then some ([d], n) else none
                else none := by rw [HG.out]; simp only [hn']
            have HF := Lib.hid hF
            have hlo3 := hx3.cell hlo2
            have hhi3 := hx3.cell hhi2
            have c13 := hx3.cell c1
            have hE3 := hE2.ext hx3
            have hx03 := hx02.trans hx3
            clear hF HG hn hn' hlo2 hhi2 c1 c0
            go_wp2_with fail
            go_at_call 124
            refine (in_scope' d lo hi _).mono ?_
            rintro e w9 ⟨rfl, rfl⟩
            rcases hwx : within lo hi d
            · have Hr2 : Hid (dowO names lo hi (bytes s) = none) := by
                show _ = _
                rw [HF.out, hwx]; rfl
              clear hwx
              go_wp2_with fail
              go_at_call 125
              refine (new_invalid s _ _ hE3 (by omega) (by decide)).mono ?_
              rintro e w5 ⟨t, p, rfl, hx5⟩
              go_wp2_with fail
              go_ret2
              exact ⟨.inr ⟨Hr2.out, t, p, rfl⟩, hx03.trans hx5⟩
            · have hG : dowO names lo hi (bytes s) = match atoiO b with
                  | none => none
                  | some n => if within 1 5 n then some ([d], n) else none := by rw [HF.out, hwx]; rfl
              have HG := Lib.hid hG
              clear hG HF hwx
              go_wp2_with fail
              go_at_call 128
              refine (atoi_any (mk b) _ (by rw [size_mk]; omega) hE3).mono ?_
              rintro e w4 ⟨⟨n, hn, rfl⟩ | ⟨hn, m, t, p, rfl⟩, hx4⟩
              · have hn' : atoiO b = some n := hn
                have hF : dowO names lo hi (bytes s) = if within 1 5 n then some ([d], n) else none := by rw [HG.out]; simp only [hn']
                have HF := Lib.hid hF
                clear hF HG hn hn' hlo3 hhi3 c13
                go_wp2_with fail
                go_at_call 124
                refine (in_scope' n 1 5 _).mono ?_
                rintro e w9 ⟨rfl, rfl⟩
                rcases hwx : within 1 5 n
                · have Hr2 : Hid (dowO names lo hi (bytes s) = none) := by
                    show _ = _
                    rw [HF.out, hwx]; rfl
                  clear hwx
                  go_wp2_with fail
                  go_at_call 125
                  refine (new_invalid s _ _ (hE3.ext hx4) (by omega) (by decide)).mono ?_
                  rintro e w5 ⟨t, p, rfl, hx5⟩
                  go_wp2_with fail
                  go_ret2
                  exact ⟨.inr ⟨Hr2.out, t, p, rfl⟩, (hx03.trans hx4).trans hx5⟩
                · have Hr2 : Hid (dowO names lo hi (bytes s) = some ([d], n)) := by
                    show _ = _
                    rw [HF.out, hwx]; rfl
                  clear hwx HF
                  have F1 := Lib.hid ((Field.one w4 (d) (n)).mono (hx03.trans hx4).size)
                  go_wp2_with fail
                  go_at_call 127
                  refine (new_fieldN _ _ _ _ _).mono ?_
                  rintro e w20 ⟨rfl, rfl⟩
                  go_wp2_with fail
                  go_ret2
                  exact ⟨.inl ⟨_, _, _, Hr2.out, rfl, by simpa using F1.out⟩, ((hx03.trans hx4).trans (Ext.alloc _ _)).trans (Ext.alloc _ _)⟩
              · have hn' : atoiO b = none := hn
                have Hr2 : Hid (dowO names lo hi (bytes s) = none) := by
                  show _ = _
                  rw [HG.out]; simp only [hn']
                clear hn hn' HG hlo3 hhi3 c13
                go_wp2_with fail
                go_at_call 125
                refine (new_invalid s _ _ (hE3.ext hx4) (by omega) (by decide)).mono ?_
                rintro e w5 ⟨t, p, rfl, hx5⟩
                go_wp2_with fail
                go_ret2
                exact ⟨.inr ⟨Hr2.out, t, p, rfl⟩, (hx03.trans hx4).trans hx5⟩
          · have hn' : normalizeO names a = none := hn
            have Hr2 : Hid (dowO names lo hi (bytes s) = none) := by
              show _ = _
              rw [HG.out]; simp only [hn']
            clear hn hn' HG hlo2 hhi2 c1 c0
            go_wp2_with fail
            go_at_call 125
            refine (new_invalid s _ _ (hE2.ext hx3) (by omega) (by decide)).mono ?_
            rintro e w5 ⟨t, p, rfl, hx5⟩
            go_wp2_with fail
            go_ret2
            exact ⟨.inr ⟨Hr2.out, t, p, rfl⟩, (hx02.trans hx3).trans hx5⟩
        · rw [hl] at HG
          have Hr2 := HG
          have hlen := splitL_len (bytes s) 35
          rw [hl, bytes_length] at hlen
          simp at hlen
          clear HG hl hcell hitem hst
          go_wp2_with fail
          go_at_call 125
          refine (new_invalid s _ _ hE2 (by omega) (by decide)).mono ?_
          rintro e w5 ⟨t, p, rfl, hx5⟩
          go_wp2_with fail
          go_ret2
          exact ⟨.inr ⟨Hr2.out, t, p, rfl⟩, hx02.trans hx5⟩
  · go_wp2_with fail
    go_at_call 131
    refine (is_last_weekday s _ (by omega)).mono ?_
    rintro e w1 ⟨rfl, rfl⟩
    rcases hld : lastWeekdayB (bytes s)
    · have hcond : ((bytes s).contains 76 && lastWeekdayB (bytes s)) = false := by rw [h76, hld]; rfl
      clear h76 hld
      have hF : dowO names lo hi (bytes s) = if (bytes s).contains 35 && hashB (bytes s) then match splitL (bytes s) 35 with
          | [a, b] => match normalizeO names a with
            | none => none
            | some d => if within lo hi d then match atoiO b with
                | none => none
                | some n => if within 1 5 n then some ([d], n) else none
              else none
          | _ => none
        else (fieldO names lo hi (bytes s)).map fun z => (z, (0 : Int)) := by unfold dowO; rw [if_neg (by rw [hcond]; decide)]
      have HF := Lib.hid hF
      clear hF hcond
      go_wp2_with fail
      go_at_call 119
      refine (zz_has s 35 _ (by omega)).mono ?_
      rintro e w1 ⟨rfl, rfl⟩
      rcases h35 : (bytes s).contains 35
      · skip
        have Hr : Hid (dowO names lo hi (bytes s) = (fieldO names lo hi (bytes s)).map fun z => (z, (0 : Int))) := by
          show _ = _
          rw [HF.out, h35]; rfl
        clear HF h35
        go_wp2_with fail
        go_at_call 90
        refine (parse_field s lo hi _ names _ hs hlo hhi (Hvn.out.ext (Ext.refl _)) hnn (hE0.ext (Ext.refl _))).mono ?_
        rintro e w12 ⟨⟨zs, v, hz, rfl, hF⟩ | ⟨hz, t, p, rfl⟩, hx12⟩
        · have HF2 := Lib.hid (hF.mono (hx0.trans (Ext.refl _)).size)
          have Hz : Hid (dowO names lo hi (bytes s) = some (zs, 0)) := by
            show _ = _
            rw [Hr.out, hz]; rfl
          clear hF hz Hr
          go_wp2_with fail
          go_ret2
          exact ⟨.inl ⟨zs, 0, _, Hz.out, rfl, HF2.out⟩, (hx0.trans (Ext.refl _)).trans hx12⟩
        · have Hz : Hid (dowO names lo hi (bytes s) = none) := by
            show _ = _
            rw [Hr.out, hz]; rfl
          clear hz Hr
          go_wp2_with fail
          go_ret2
          exact ⟨.inr ⟨Hz.out, t, p, rfl⟩, (hx0.trans (Ext.refl _)).trans hx12⟩
      · go_wp2_with fail
        go_at_call 132
        refine (is_hash s _ (by omega)).mono ?_
        rintro e w1 ⟨rfl, hx1⟩
        have hlo1 := hx1.cell hlo0
        have hhi1 := hx1.cell hhi0
        have hE1 := hE0.ext hx1
        clear hlo0 hhi0
        rcases hh : hashB (bytes s)
        · skip
          have Hr : Hid (dowO names lo hi (bytes s) = (fieldO names lo hi (bytes s)).map fun z => (z, (0 : Int))) := by
            show _ = _
            rw [HF.out, h35, hh]; rfl
          clear HF h35 hh
          go_wp2_with fail
          go_at_call 90
          refine (parse_field s lo hi _ names _ hs hlo hhi (Hvn.out.ext (hx1)) hnn (hE0.ext (hx1))).mono ?_
          rintro e w12 ⟨⟨zs, v, hz, rfl, hF⟩ | ⟨hz, t, p, rfl⟩, hx12⟩
          · have HF2 := Lib.hid (hF.mono (hx0.trans (hx1)).size)
            have Hz : Hid (dowO names lo hi (bytes s) = some (zs, 0)) := by
              show _ = _
              rw [Hr.out, hz]; rfl
            clear hF hz Hr
            go_wp2_with fail
            go_ret2
            exact ⟨.inl ⟨zs, 0, _, Hz.out, rfl, HF2.out⟩, (hx0.trans (hx1)).trans hx12⟩
          · have Hz : Hid (dowO names lo hi (bytes s) = none) := by
              show _ = _
              rw [Hr.out, hz]; rfl
            clear hz Hr
            go_wp2_with fail
            go_ret2
            exact ⟨.inr ⟨Hz.out, t, p, rfl⟩, (hx0.trans (hx1)).trans hx12⟩
        · have hF : dowO names lo hi (bytes s) = match splitL (bytes s) 35 with
            | [a, b] => match normalizeO names a with
              | none => none
              | some d => if within lo hi d then match atoiO b with
                  | none => none
                  | some n => if within 1 5 n then some ([d], n) else none
                else none
            | _ => none := by rw [HF.out, h35, hh]; rfl
          have HG := Lib.hid hF
          clear hF h35 hh HF
          go_wp2_with fail
          go_at_call 76
          refine (zz_split s 35 _ (by omega)).mono ?_
          rintro e w2 ⟨v, rfl, hst, hx2⟩
          have hlo2 := hx2.cell hlo1
          have hhi2 := hx2.cell hhi1
          have hE2 := hE1.ext hx2
          obtain ⟨g, cap, rfl, hb, hg, hcell⟩ := hst.form (splitL_pos _ _)
          have hitem := splitL_item (bytes s) 35
          rw [bytes_length] at hitem
          have hx02 := (hx0.trans hx1).trans hx2
          clear hlo1 hhi1
          rcases hl : splitL (bytes s) 35 with _ | ⟨a, _ | ⟨b, _ | ⟨c, rest⟩⟩⟩
          · exact absurd hl (splitGo_ne _ _ _)
          · rw [hl] at HG
            have Hr2 := HG
            clear HG hl hcell hitem hst
            go_wp2_with fail
            go_at_call 125
            refine (new_invalid s _ _ hE2 (by omega) (by decide)).mono ?_
            rintro e w5 ⟨t, p, rfl, hx5⟩
            go_wp2_with fail
            go_ret2
            exact ⟨.inr ⟨Hr2.out, t, p, rfl⟩, hx02.trans hx5⟩
          · rw [hl] at hcell HG
            have c0 := hcell 0 a rfl
            have c1 := hcell 1 b rfl
            have hal := hitem a (by rw [hl]; simp)
            have hbl := hitem b (by rw [hl]; simp)
            clear hl hcell hitem hst
            go_wp2_with fail
            go_at_call 123
            refine (normalize_any _ names (mk a) _ (by rw [size_mk]; omega) hnn hE2 ((Hvn.out.ext hx1).ext hx2)).mono ?_
            rintro e w3 ⟨⟨d, hn, rfl⟩ | ⟨hn, m, t, p, rfl⟩, hx3⟩
            · have hn' : normalizeO names a = some d := hn
              have hF : dowO names lo hi (bytes s) = if within lo hi d then match atoiO b with
                    | none => none
                    | some n => if within 1 5 n then some ([d], n) else none
                  else none := by rw [HG.out]; simp only [hn']
              have HF := Lib.hid hF
              have hlo3 := hx3.cell hlo2
              have hhi3 := hx3.cell hhi2
              have c13 := hx3.cell c1
              have hE3 := hE2.ext hx3
              have hx03 := hx02.trans hx3
              clear hF HG hn hn' hlo2 hhi2 c1 c0
              go_wp2_with fail
              go_at_call 124
              refine (in_scope' d lo hi _).mono ?_
              rintro e w9 ⟨rfl, rfl⟩
              rcases hwx : within lo hi d
              · have Hr2 : Hid (dowO names lo hi (bytes s) = none) := by
                  show _ = _
                  rw [HF.out, hwx]; rfl
                clear hwx
                go_wp2_with fail
                go_at_call 125
                refine (new_invalid s _ _ hE3 (by omega) (by decide)).mono ?_
                rintro e w5 ⟨t, p, rfl, hx5⟩
                go_wp2_with fail
                go_ret2
                exact ⟨.inr ⟨Hr2.out, t, p, rfl⟩, hx03.trans hx5⟩
              · have hG : dowO names lo hi (bytes s) = match atoiO b with
                    | none => none
                    | some n => if within 1 5 n then some ([d], n) else none := by rw [HF.out, hwx]; rfl
                have HG := Lib.hid hG
                clear hG HF hwx
                go_wp2_with fail
                go_at_call 128
                refine (atoi_any (mk b) _ (by rw [size_mk]; omega) hE3).mono ?_
                rintro e w4 ⟨⟨n, hn, rfl⟩ | ⟨hn, m, t, p, rfl⟩, hx4⟩
                · have hn' : atoiO b = some n := hn
                  have hF : dowO names lo hi (bytes s) = if within 1 5 n then some ([d], n) else none := by rw [HG.out]; simp only [hn']
                  have HF := Lib.hid hF
                  clear hF HG hn hn' hlo3 hhi3 c13
                  go_wp2_with fail
                  go_at_call 124
                  refine (in_scope' n 1 5 _).mono ?_
                  rintro e w9 ⟨rfl, rfl⟩
                  rcases hwx : within 1 5 n
                  · have Hr2 : Hid (dowO names lo hi (bytes s) = none) := by
                      show _ = _
                      rw [HF.out, hwx]; rfl
                    clear hwx
                    go_wp2_with fail
                    go_at_call 125
                    refine (new_invalid s _ _ (hE3.ext hx4) (by omega) (by decide)).mono ?_
                    rintro e w5 ⟨t, p, rfl, hx5⟩
                    go_wp2_with fail
                    go_ret2
                    exact ⟨.inr ⟨Hr2.out, t, p, rfl⟩, (hx03.trans hx4).trans hx5⟩
                  · have Hr2 : Hid (dowO names lo hi (bytes s) = some ([d], n)) := by
                      show _ = _
                      rw [HF.out, hwx]; rfl
                    clear hwx HF
                    have F1 := Lib.hid ((Field.one w4 (d) (n)).mono (hx03.trans hx4).size)
                    go_wp2_with fail
                    go_at_call 127
                    refine (new_fieldN _ _ _ _ _).mono ?_
                    rintro e w20 ⟨rfl, rfl⟩
                    go_wp2_with fail
                    go_ret2
                    exact ⟨.inl ⟨_, _, _, Hr2.out, rfl, by simpa using F1.out⟩, ((hx03.trans hx4).trans (Ext.alloc _ _)).trans (Ext.alloc _ _)⟩
                · have hn' : atoiO b = none := hn
                  have Hr2 : Hid (dowO names lo hi (bytes s) = none) := by
                    show _ = _
                    rw [HG.out]; simp only [hn']
                  clear hn hn' HG hlo3 hhi3 c13
                  go_wp2_with fail
                  go_at_call 125
                  refine (new_invalid s _ _ (hE3.ext hx4) (by omega) (by decide)).mono ?_
                  rintro e w5 ⟨t, p, rfl, hx5⟩
                  go_wp2_with fail
                  go_ret2
                  exact ⟨.inr ⟨Hr2.out, t, p, rfl⟩, (hx03.trans hx4).trans hx5⟩
            · have hn' : normalizeO names a = none := hn
              have Hr2 : Hid (dowO names lo hi (bytes s) = none) := by
                show _ = _
                rw [HG.out]; simp only [hn']
              clear hn hn' HG hlo2 hhi2 c1 c0
              go_wp2_with fail
              go_at_call 125
              refine (new_invalid s _ _ (hE2.ext hx3) (by omega) (by decide)).mono ?_
              rintro e w5 ⟨t, p, rfl, hx5⟩
              go_wp2_with fail
              go_ret2
              exact ⟨.inr ⟨Hr2.out, t, p, rfl⟩, (hx02.trans hx3).trans hx5⟩
          · rw [hl] at HG
            have Hr2 := HG
            have hlen := splitL_len (bytes s) 35
            rw [hl, bytes_length] at hlen
            simp at hlen
            clear HG hl hcell hitem hst
            go_wp2_with fail
            go_at_call 125
            refine (new_invalid s _ _ hE2 (by omega) (by decide)).mono ?_
            rintro e w5 ⟨t, p, rfl, hx5⟩
            go_wp2_with fail
            go_ret2
            exact ⟨.inr ⟨Hr2.out, t, p, rfl⟩, hx02.trans hx5⟩
    · have hsz := lastWeekdayB_size hld
      have hF : dowO names lo hi (bytes s) = if (bytes s).dropLast = [] then some ([(7 : Int)], (-1 : Int))
        else match normalizeO names (bytes s).dropLast with
          | none => none
          | some n => if within lo hi n then some ([n], (-1 : Int)) else none := by unfold dowO; rw [h76, hld]; rfl
      have HF := Lib.hid hF
      have hsz2 : (mk (bytes s).dropLast).size ≤ 2000 := by rw [size_mk, List.length_dropLast, bytes_length]; omega
      clear hF h76 hld
      go_wp2_with fail
      go_at_call 130
      refine (without_last s _ (by omega) hsz).mono ?_
      rintro e w1 ⟨rfl, rfl⟩
      by_cases hem : (bytes s).dropLast = []
      · have Hr2 : Hid (dowO names lo hi (bytes s) = some ([(7 : Int)], (-1 : Int))) := by
          show _ = _
          rw [HF.out, if_pos hem]
        have e1 : ((mk (bytes s).dropLast).toList == []) = true := str_yes (s := mk (bytes s).dropLast) hem
        clear HF hem hlo0 hhi0
        have F1 := Lib.hid ((Field.one w0 (7) (-1)).mono (hx0).size)
        go_wp2_with fail
        go_at_call 127
        refine (new_fieldN _ _ _ _ _).mono ?_
        rintro e w20 ⟨rfl, rfl⟩
        go_wp2_with fail
        go_ret2
        exact ⟨.inl ⟨_, _, _, Hr2.out, rfl, by simpa using F1.out⟩, ((hx0).trans (Ext.alloc _ _)).trans (Ext.alloc _ _)⟩
      · have hF : dowO names lo hi (bytes s) = match normalizeO names (bytes s).dropLast with
          | none => none
          | some n => if within lo hi n then some ([n], (-1 : Int)) else none := by rw [HF.out, if_neg hem]
        have HG := Lib.hid hF
        have e1 : ((mk (bytes s).dropLast).toList == []) = false := str_no (s := mk (bytes s).dropLast) hem
        clear HF hem hF
        go_wp2_with fail
        go_at_call 123
        refine (normalize_any _ names (mk (bytes s).dropLast) _ (by omega) hnn hE0 Hvn.out).mono ?_
        rintro e w1 ⟨⟨n, hn, rfl⟩ | ⟨hn, m, t, p, rfl⟩, hx1⟩
        · rw [bytes_mk] at hn
          have hF : dowO names lo hi (bytes s) = if within lo hi n then some ([n], (-1 : Int)) else none := by rw [HG.out, hn]
          have HF := Lib.hid hF
          have hlo1 := hx1.cell hlo0
          have hhi1 := hx1.cell hhi0
          clear hF HG hn hlo0 hhi0
          go_wp2_with fail
          go_at_call 124
          refine (in_scope' n lo hi _).mono ?_
          rintro e w9 ⟨rfl, rfl⟩
          rcases hwx : within lo hi n
          · have Hr2 : Hid (dowO names lo hi (bytes s) = none) := by
              show _ = _
              rw [HF.out, hwx]; rfl
            clear hwx
            go_wp2_with fail
            go_at_call 125
            refine (new_invalid s _ _ (hE0.ext hx1) (by omega) (by decide)).mono ?_
            rintro e w5 ⟨t, p, rfl, hx5⟩
            go_wp2_with fail
            go_ret2
            exact ⟨.inr ⟨Hr2.out, t, p, rfl⟩, (hx0.trans hx1).trans hx5⟩
          · have Hr2 : Hid (dowO names lo hi (bytes s) = some ([n], (-1 : Int))) := by
              show _ = _
              rw [HF.out, hwx]; rfl
            clear hwx HF hlo1 hhi1
            have F1 := Lib.hid ((Field.one w1 (n) (-1)).mono (hx0.trans hx1).size)
            go_wp2_with fail
            go_at_call 127
            refine (new_fieldN _ _ _ _ _).mono ?_
            rintro e w20 ⟨rfl, rfl⟩
            go_wp2_with fail
            go_ret2
            exact ⟨.inl ⟨_, _, _, Hr2.out, rfl, by simpa using F1.out⟩, ((hx0.trans hx1).trans (Ext.alloc _ _)).trans (Ext.alloc _ _)⟩
        · rw [bytes_mk] at hn
          have Hr2 : Hid (dowO names lo hi (bytes s) = none) := by
            show _ = _
            rw [HG.out, hn]
          clear hn HG hlo0 hhi0
          go_wp2_with fail
          go_at_call 125
          refine (new_invalid s _ _ (hE0.ext hx1) (by omega) (by decide)).mono ?_
          rintro e w5 ⟨t, p, rfl, hx5⟩
          go_wp2_with fail
          go_ret2
          exact ⟨.inr ⟨Hr2.out, t, p, rfl⟩, (hx0.trans hx1).trans hx5⟩
end Go.Proofs.YtmaffdhcmdhjfaaGreatDoor
