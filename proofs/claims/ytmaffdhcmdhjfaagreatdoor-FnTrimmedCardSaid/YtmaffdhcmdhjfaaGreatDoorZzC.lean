/- zzWithoutLast, zzIsLastDay, zzIsWeekday, zzIsLastWeekday. -/
import Derived.Test.YtmaffdhcmdhjfaaGreatDoorEnv
namespace Go.Proofs.YtmaffdhcmdhjfaaGreatDoor
open Go.RowKit Go.Lib

theorem toList_bytes (s : ByteArray) : s.toList = bytes s := by
  rw [ByteArray.toList_eq]; rfl

theorem dropLast_mk (s : ByteArray) : s.extract 0 (s.size - 1) = mk (bytes s).dropLast := by
  rw [List.dropLast_eq_take, ← mk_bytes (s.extract 0 (s.size - 1)), bytes_extract, bytes_length]; rfl
theorem last_bytes (s : ByteArray) (h : s.size - 1 < s.size) : (bytes s).getLast? = some s[s.size - 1] := by
  rw [List.getLast?_eq_getElem?, bytes_length, List.getElem?_eq_getElem (by rw [bytes_length]; exact h)]; rfl
theorem last_is (s : ByteArray) (c : UInt8) (h : s.size - 1 < s.size) : ((bytes s).getLast? == some c) = ((s[s.size - 1].toNat : Int) == (c.toNat : Int)) := by
  rw [last_bytes s h, Bool.eq_iff_iff]; simp only [beq_iff_eq, Option.some.injEq]
  exact ⟨fun h => by rw [h], fun h => UInt8.toNat.inj (by omega)⟩

theorem without_last (s : ByteArray) (w : World) (hs : s.size ≤ 4096) (h0 : 0 < s.size) :
    Calls Tryz.prog 130 #[.string s] w fun e w' => e = .returned (.string (mk (bytes s).dropLast)) ∧ w = w' := by
  rw [← dropLast_mk]
  go_enter Tryz.func130, Tryz.ntmps130
  go_wp2
  go_ret
  exact ⟨rfl, rfl⟩

theorem is_last_day (s : ByteArray) (w : World) (hs : s.size ≤ 4096) :
    Calls Tryz.prog 126 #[.string s] w fun e w' => e = .returned (.bool (lastDayB (bytes s))) ∧ w = w' := by
  have h2 : 2 < s.size → bytes (s.extract 2 s.size) = (bytes s).drop 2 := fun _ => by rw [bytes_extract, take_all s _ (Nat.le_refl _)]
  have H2 := Lib.hid h2
  clear h2
  have h3 : bytes (s.extract 0 2) = (bytes s).take 2 := by rw [bytes_extract]; rfl
  have H3 := Lib.hid h3
  clear h3
  have hl := Lib.hid (bytes_length s)
  go_enter Tryz.func126, Tryz.ntmps126
  go_wp2_with fail
  · go_ret
    refine ⟨ret_bool ?_, rfl⟩
    simp_all [lastDayB, toList_bytes]
  · go_at_call 157
    refine (zz_digits _ _ (by simp; omega)).mono ?_
    rintro e w1 ⟨rfl, rfl⟩
    go_wp2_with fail
    go_ret
    refine ⟨ret_bool ?_, rfl⟩
    rename_i ha hb hc
    have hb' : 2 < s.size := by omega
    rw [toList_bytes] at ha hc
    rw [H3.out] at hc
    rw [H2.out hb']
    simp [lastDayB, hc, hl.out, hb', toList_bytes]
  · go_ret
    refine ⟨ret_bool ?_, rfl⟩
    rename_i ha hb hc
    rw [toList_bytes] at ha hc ⊢
    rw [H3.out] at hc
    simp [lastDayB, ha, hc]
  · go_ret
    refine ⟨ret_bool ?_, rfl⟩
    rename_i ha hb
    rw [toList_bytes] at ha ⊢
    have hb' : ¬ 2 < s.size := by omega
    simp [lastDayB, ha, hl.out, hb']

theorem is_weekday (s : ByteArray) (w : World) (hs : s.size ≤ 4096) :
    Calls Tryz.prog 129 #[.string s] w fun e w' => e = .returned (.bool (weekdayB (bytes s))) ∧ w = w' := by
  have h1 := Lib.hid (last_is s 87)
  have hl := Lib.hid (bytes_length s)
  have hd := Lib.hid (dropLast_mk s)
  go_enter Tryz.func129, Tryz.ntmps129
  go_wp2_with fail
  · go_at_call 157
    refine (zz_digits _ _ (by simp; omega)).mono ?_
    rintro e w1 ⟨rfl, rfl⟩
    go_wp2_with fail
    go_ret
    refine ⟨ret_bool ?_, rfl⟩
    rename_i ha _ hb
    have ha' : 1 < s.size := by omega
    have := h1.out (by omega)
    rw [hd.out, bytes_mk, weekdayB, this, hl.out]
    simp [ha', hb]
  · rename_i ha hb
    go_ret
    refine ⟨ret_bool ?_, rfl⟩
    have := h1.out (by omega)
    rw [weekdayB, this, hl.out]
    simp [hb]
  · rename_i ha
    go_ret
    refine ⟨ret_bool ?_, rfl⟩
    rw [weekdayB, hl.out]
    have ha' : ¬ 1 < s.size := by omega
    simp [ha']

theorem is_last_weekday (s : ByteArray) (w : World) (hs : s.size ≤ 4096) :
    Calls Tryz.prog 131 #[.string s] w fun e w' => e = .returned (.bool (lastWeekdayB (bytes s))) ∧ w = w' := by
  have h1 := Lib.hid (last_is s 76)
  have hl := Lib.hid (bytes_length s)
  go_enter Tryz.func131, Tryz.ntmps131
  go_wp2_with fail
  · go_at_call 160
    refine (zz_words _ _ hs).mono ?_
    rintro e w1 ⟨rfl, rfl⟩
    go_wp2_with fail
    go_ret
    refine ⟨ret_bool ?_, rfl⟩
    rename_i ha _ hb
    have ha' : 0 < s.size := by omega
    have := h1.out (by omega)
    rw [lastWeekdayB, this, hl.out]
    simp [ha', hb]
  · rename_i ha hb
    go_ret
    refine ⟨ret_bool ?_, rfl⟩
    have := h1.out (by omega)
    rw [lastWeekdayB, this, hl.out]
    simp [hb]
  · rename_i ha
    go_ret
    refine ⟨ret_bool ?_, rfl⟩
    rw [lastWeekdayB, hl.out]
    have ha' : ¬ 0 < s.size := by omega
    simp [ha']
end Go.Proofs.YtmaffdhcmdhjfaaGreatDoor
