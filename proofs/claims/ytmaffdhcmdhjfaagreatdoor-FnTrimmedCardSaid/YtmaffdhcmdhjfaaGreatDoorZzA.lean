/- The small functions on texts: zzHas, zzDigits, zzWords. -/
import Derived.Test.YtmaffdhcmdhjfaaGreatDoorShelf
import Derived.Test.YtmaffdhcmdhjfaaGreatDoorPure
namespace Go.Proofs.YtmaffdhcmdhjfaaGreatDoor
open Go.RowKit Go.Lib

theorem take_snoc (s : ByteArray) (k : Nat) (h : k < s.size) : (bytes s).take (k + 1) = (bytes s).take k ++ [s[k]] := by
  unfold bytes; rw [List.take_succ_eq_append_getElem (by simpa using h)]; rfl
theorem take_all (s : ByteArray) (k : Nat) (h : s.size ≤ k) : (bytes s).take k = bytes s := by
  unfold bytes; rw [List.take_of_length_le (by simpa using h)]
theorem bytes_split (s : ByteArray) (k : Nat) (h : k < s.size) : bytes s = (bytes s).take k ++ s[k] :: (bytes s).drop (k + 1) := by
  have : (bytes s)[k]'(by unfold bytes; simpa using h) = s[k] := rfl
  rw [← this, List.getElem_cons_drop]
  simp
theorem ret_bool {a b : Bool} (h : a = b) : Ending.returned (.bool a) = .returned (.bool b) := by rw [h]

set_option maxHeartbeats 400000 in
theorem zz_has (s : ByteArray) (c : UInt8) (w : World) (hs : s.size ≤ 4096) :
    Calls Tryz.prog 119 #[.string s, .int .u8 c.toNat] w fun e w' => e = .returned (.bool ((bytes s).contains c)) ∧ w = w' := by
  go_enter Tryz.func119, Tryz.ntmps119
  go_wp2
  go_loop [5] (fun i => ∃ k : Nat, k ≤ s.size ∧ i = .int .i64 k ∧ c ∉ (bytes s).take k) (fun i => s.size - (RowKit.intOf i).toNat)
  case atStart => exact ⟨0, Nat.zero_le _, rfl, by simp⟩
  case round =>
    obtain ⟨k, hk, rfl, hn⟩ := hrel
    have Hn := Lib.hid hn
    clear hn
    by_cases hlt : k < s.size
    · by_cases he : s[k] = c
      · have h1 : ((s[k].toNat : Int) == (c.toNat : Int)) = true := by rw [he]; simp
        go_wp2
        go_ret
        refine ⟨ret_bool ?_, rfl⟩
        rw [bytes_split s k hlt, he]; simp
      · have h1 : ((s[k].toNat : Int) == (c.toNat : Int)) = false := by
          rw [beq_eq_false_iff_ne]; intro h; exact he (UInt8.toNat.inj (by omega))
        go_wp2
        go_round
        case rel => exact ⟨k + 1, by omega, by go_num, by rw [take_snoc s k hlt]; simp [Hn.out]; exact fun h => he h.symm⟩
        case measure => simp [RowKit.intOf]; omega
    · go_wp2
      go_ret
      refine ⟨ret_bool ?_, rfl⟩
      have := Hn.out
      rw [take_all s k (by omega)] at this
      simpa using this

set_option maxHeartbeats 400000 in
theorem zz_digits (s : ByteArray) (w : World) (hs : s.size ≤ 4096) :
    Calls Tryz.prog 157 #[.string s] w fun e w' => e = .returned (.bool (digitsB (bytes s))) ∧ w = w' := by
  go_enter Tryz.func157, Tryz.ntmps157
  go_wp2
  go_loop [3] (fun i => ∃ k : Nat, k ≤ s.size ∧ i = .int .i64 k ∧ ((bytes s).take k).all isDig = true) (fun i => s.size - (RowKit.intOf i).toNat)
  case atStart => exact ⟨0, Nat.zero_le _, rfl, by simp⟩
  case round =>
    obtain ⟨k, hk, rfl, hn⟩ := hrel
    have Hn := Lib.hid hn
    clear hn
    by_cases hlt : k < s.size
    · by_cases he : 48 ≤ s[k].toNat ∧ s[k].toNat ≤ 57
      · have h1 : decide ((s[k].toNat : Int) < 48) = false := by simp; omega
        have h2 : decide (57 < (s[k].toNat : Int)) = false := by simp; omega
        have hd : isDig s[k] = true := by simp [isDig]; omega
        go_wp2
        go_round
        case rel => exact ⟨k + 1, by omega, by go_num, by rw [take_snoc s k hlt, List.all_append, Hn.out]; simpa using hd⟩
        case measure => simp [RowKit.intOf]; omega
      · have hd : isDig s[k] = false := by simp [isDig]; omega
        have hb : digitsB (bytes s) = false := by
          rw [bytes_split s k hlt]; simp [digitsB, hd]
        have Hb := Lib.hid hb
        clear hb
        by_cases h48 : s[k].toNat < 48
        · have h1 : decide ((s[k].toNat : Int) < 48) = true := by simp; omega
          go_wp2
          go_ret
          exact ⟨ret_bool Hb.out.symm, rfl⟩
        · have h1 : decide ((s[k].toNat : Int) < 48) = false := by simp; omega
          have h2 : decide (57 < (s[k].toNat : Int)) = true := by simp; omega
          go_wp2
          go_ret
          exact ⟨ret_bool Hb.out.symm, rfl⟩
    · have h0 : decide (0 < s.size) = decide (0 < (bytes s).length) := rfl
      have H0 := Lib.hid h0
      clear h0
      go_wp2
      all_goals go_ret
      all_goals
        refine ⟨ret_bool ?_, rfl⟩
        have := Hn.out
        rw [take_all s k (by omega)] at this
        simp [digitsB, this, ← H0.out]

set_option maxHeartbeats 800000 in
theorem zz_words (s : ByteArray) (w : World) (hs : s.size ≤ 4096) :
    Calls Tryz.prog 160 #[.string s] w fun e w' => e = .returned (.bool ((bytes s).all isWord)) ∧ w = w' := by
  go_enter Tryz.func160, Tryz.ntmps160
  go_wp2
  go_loop [3] (fun i => ∃ k : Nat, k ≤ s.size ∧ i = .int .i64 k ∧ ((bytes s).take k).all isWord = true) (fun i => s.size - (RowKit.intOf i).toNat)
  case atStart => exact ⟨0, Nat.zero_le _, rfl, by simp⟩
  case round =>
    obtain ⟨k, hk, rfl, hn⟩ := hrel
    have Hn := Lib.hid hn
    clear hn
    by_cases hlt : k < s.size
    · have hcl : isWord s[k] = ((decide (48 ≤ (s[k].toNat : Int)) && decide ((s[k].toNat : Int) ≤ 57)) || (decide (97 ≤ (s[k].toNat : Int)) && decide ((s[k].toNat : Int) ≤ 122)) || (decide (65 ≤ (s[k].toNat : Int)) && decide ((s[k].toNat : Int) ≤ 90))) := by
        rw [Bool.eq_iff_iff]; simp [isWord]; omega
      have Hcl := Lib.hid hcl
      clear hcl
      have hrest : isWord s[k] = false → ((bytes s).all isWord) = false := by
        intro h; rw [bytes_split s k hlt]; simp [h]
      have hgo : isWord s[k] = true → ((bytes s).take (k+1)).all isWord = true := by
        intro h; rw [take_snoc s k hlt, List.all_append, Hn.out]; simpa using h
      have Hr := Lib.hid hrest
      have Hg := Lib.hid hgo
      clear hrest hgo
      go_wp2
      all_goals first
        | (go_ret; refine ⟨ret_bool ?_, rfl⟩; symm; apply Hr.out; rw [Hcl.out]; simp only [Bool.or_eq_false_iff, Bool.and_eq_false_imp, decide_eq_true_eq, decide_eq_false_iff_not]; omega)
        | (go_round
           case rel => exact ⟨k+1, by omega, by go_num, Hg.out (by rw [Hcl.out]; simp only [Bool.or_eq_true, Bool.and_eq_true, decide_eq_true_eq]; omega)⟩
           case measure => simp [RowKit.intOf]; omega)
    · go_wp2
      go_ret
      refine ⟨ret_bool ?_, rfl⟩
      have := Hn.out
      rw [take_all s k (by omega)] at this
      simp [this]
end Go.Proofs.YtmaffdhcmdhjfaaGreatDoor
