/- spec.least, most, name. -/
import Derived.Test.YtmaffdhcmdhjfaaGreatDoorFields
import Derived.Lib.ItoaLen
namespace Go.Proofs.YtmaffdhcmdhjfaaGreatDoor
open Go.RowKit Go.Lib

def leastF (f : Nat) : Int := if f = 6 then 1970 else if 3 ≤ f then 1 else 0
def mostF (f : Nat) : Int := if f = 0 then 59 else if f = 1 then 59 else if f = 2 then 23 else if f = 3 then 31 else if f = 4 then 12 else if f = 5 then 7 else 2199

theorem least_any (f : Nat) (hf : f < 7) (w : World) : Calls Tryz.prog 58 #[.int .i64 f] w fun e w' => e = .returned (.int .i64 (leastF f)) ∧ Ext w w' := by
  have h : f = 0 ∨ f = 1 ∨ f = 2 ∨ f = 3 ∨ f = 4 ∨ f = 5 ∨ f = 6 := by omega
  rcases h with rfl | rfl | rfl | rfl | rfl | rfl | rfl
  all_goals
    go_enter Tryz.func58, Tryz.ntmps58
    go_wp2
    go_ret
    exact ⟨rfl, Ext.alloc _ _⟩
theorem most_any (f : Nat) (hf : f < 7) (w : World) : Calls Tryz.prog 57 #[.int .i64 f] w fun e w' => e = .returned (.int .i64 (mostF f)) ∧ Ext w w' := by
  have h : f = 0 ∨ f = 1 ∨ f = 2 ∨ f = 3 ∨ f = 4 ∨ f = 5 ∨ f = 6 := by omega
  rcases h with rfl | rfl | rfl | rfl | rfl | rfl | rfl
  all_goals
    go_enter Tryz.func57, Tryz.ntmps57
    go_wp2
    go_ret
    exact ⟨rfl, Ext.alloc _ _⟩

def lowC (c : UInt8) : UInt8 := if 65 ≤ c.toNat ∧ c.toNat ≤ 90 then UInt8.ofNat (c.toNat + 32) else c
def lowerL (l : List UInt8) : List UInt8 := l.map lowC
def baseL (f : Nat) (n : Int) : List UInt8 :=
  if f = 4 ∧ 1 ≤ n ∧ n ≤ 12 then monthN.getD n.toNat [] else if f = 5 ∧ 1 ≤ n ∧ n ≤ 7 then dayN.getD n.toNat [] else Lib.itoa n
def nameL (f : Nat) (n named : Int) : List UInt8 :=
  if named = 0 then Lib.itoa n else if named = 2 then lowerL (baseL f n) else baseL f n

def lowAt (l : List UInt8) (k j : Nat) : Nat := (if j < k then lowC (l.getD j 0) else l.getD j 0).toNat
theorem lowAt_succ (l : List UInt8) (k j : Nat) (h : j ≠ k) : lowAt l (k + 1) j = lowAt l k j := by
  unfold lowAt
  by_cases h1 : j < k
  · rw [if_pos h1, if_pos (by omega)]
  · rw [if_neg h1, if_neg (by omega)]
theorem lowAt_at (l : List UInt8) (k : Nat) : lowAt l k k = (l.getD k 0).toNat := by unfold lowAt; rw [if_neg (by omega)]
theorem lowAt_now (l : List UInt8) (k : Nat) : lowAt l (k + 1) k = (lowC (l.getD k 0)).toNat := by unfold lowAt; rw [if_pos (by omega)]
theorem lowC_in (b : UInt8) (h1 : 65 ≤ b.toNat) (h2 : b.toNat ≤ 90) : ((lowC b).toNat : Int) = (b.toNat : Int) + 32 := by
  unfold lowC
  rw [if_pos ⟨h1, h2⟩]
  have : (UInt8.ofNat (b.toNat + 32)).toNat = b.toNat + 32 := by simp; omega
  rw [this]; omega
theorem lowC_out (b : UInt8) (h : ¬ (65 ≤ b.toNat ∧ b.toNat ≤ 90)) : lowC b = b := by unfold lowC; rw [if_neg h]
theorem lower_keep {wr : World} {N : Nat} {s : ByteArray} {k X : Nat} (Hc : ∀ j, j < s.size → wr.cell? ⟨N, j, none⟩ = some (.int .u8 (lowAt (bytes s) k j))) (hX : X = ((bytes s).getD k 0).toNat) (h : ¬ (65 ≤ X ∧ X ≤ 90)) :
    ∀ j, j < s.size → wr.cell? ⟨N, j, none⟩ = some (.int .u8 (lowAt (bytes s) (k + 1) j)) := by
  intro j hj
  by_cases hjk : j = k
  · subst hjk
    rw [Hc j hj, lowAt_at, lowAt_now, lowC_out _ (by rw [← hX]; exact h)]
  · rw [Hc j hj, lowAt_succ _ _ _ hjk]
theorem lower_set {wr : World} {N : Nat} {s : ByteArray} {k X : Nat} (Hc : ∀ j, j < s.size → wr.cell? ⟨N, j, none⟩ = some (.int .u8 (lowAt (bytes s) k j))) (hX : X = ((bytes s).getD k 0).toNat) (h1 : 65 ≤ X) (h2 : X ≤ 90) :
    ∀ j, j < s.size → (wr.setCell ⟨N, k, none⟩ (.int .u8 ((X : Int) + 32))).cell? ⟨N, j, none⟩ = some (.int .u8 (lowAt (bytes s) (k + 1) j)) := by
  intro j hj
  by_cases hjk : j = k
  · subst hjk
    rw [World.cell?_setCell_same _ _ _ (Hc j hj), lowAt_now, lowC_in _ (by rw [← hX]; exact h1) (by rw [← hX]; exact h2), hX]
  · rw [World.cell?_setCell_other _ _ _ _ (by intro e; injection e with _ e; exact hjk e.symm), Hc j hj, lowAt_succ _ _ _ hjk]

theorem itoa_len (n : Int) (h : Joins.In64 n) : (Lib.itoa n).length ≤ 21 := by
  have := Lib.itoa_length_le n h.1 h.2
  omega

set_option maxHeartbeats 1600000 in
set_option maxRecDepth 1000000 in
theorem name_plain (f : Nat) (hf : f < 7) (n : Int) (h : Joins.In64 n) (w : World) (hE : Env w) :
    Calls Tryz.prog 60 #[.int .i64 f, .int .i64 n, .int .i64 0] w fun e w' => e = .returned (.string (mk (nameL f n 0))) ∧ Ext w w' := by
  have Hn : Hid (nameL f n 0 = Lib.itoa n) := by show _ = _; unfold nameL; rw [if_pos rfl]
  go_enter Tryz.func60, Tryz.ntmps60
  go_wp2_with fail
  go_at_call 56
  refine (itoa_any n h _ hE).mono ?_
  rintro e w1 ⟨rfl, hx⟩
  go_wp2_with fail
  go_ret
  exact ⟨by rw [Hn.out]; rfl, hx⟩

set_option maxHeartbeats 3200000 in
set_option maxRecDepth 1000000 in
theorem name_any (f : Nat) (hf : f < 7) (n named : Int) (h : Joins.In64 n) (h0 : named ≠ 0) (w : World) (hE : Env w) :
    Calls Tryz.prog 60 #[.int .i64 f, .int .i64 n, .int .i64 named] w fun e w' => e = .returned (.string (mk (nameL f n named))) ∧ Ext w w' := by
  have hz : (named == 0) = false := by rw [beq_eq_false_iff_ne]; exact h0
  have hil := itoa_len n h
  have Hil := Lib.hid hil
  have Hn : Hid (nameL f n named = if named = 2 then lowerL (baseL f n) else baseL f n) := by show _ = _; unfold nameL; rw [if_neg h0]
  clear hil
  go_enter Tryz.func60, Tryz.ntmps60
  go_wp2_with fail
  go_at_call 56
  refine (itoa_any n h _ hE).mono ?_
  rintro e w1 ⟨rfl, hx⟩
  by_cases h4 : f = 4 ∧ 1 ≤ n ∧ n ≤ 12
  · skip
    obtain ⟨rfl, hn1, hn2⟩ := h4
    obtain ⟨m, rfl⟩ : ∃ m : Nat, n = (m : Int) + 1 := ⟨(n - 1).toNat, by omega⟩
    have hm : m < 12 := by omega
    have hbe : ∀ hh, ([Value.string ⟨#[74, 65, 78]⟩, Value.string ⟨#[70, 69, 66]⟩, Value.string ⟨#[77, 65, 82]⟩, Value.string ⟨#[65, 80, 82]⟩, Value.string ⟨#[77, 65, 89]⟩, Value.string ⟨#[74, 85, 78]⟩, Value.string ⟨#[74, 85, 76]⟩, Value.string ⟨#[65, 85, 71]⟩, Value.string ⟨#[83, 69, 80]⟩, Value.string ⟨#[79, 67, 84]⟩, Value.string ⟨#[78, 79, 86]⟩, Value.string ⟨#[68, 69, 67]⟩] : List Value)[m]'hh = .string (mk (baseL 4 ((m : Int) + 1))) := by
      intro hh
      have : m = 0 ∨ m = 1 ∨ m = 2 ∨ m = 3 ∨ m = 4 ∨ m = 5 ∨ m = 6 ∨ m = 7 ∨ m = 8 ∨ m = 9 ∨ m = 10 ∨ m = 11 := by omega
      rcases this with rfl | rfl | rfl | rfl | rfl | rfl | rfl | rfl | rfl | rfl | rfl | rfl <;> rfl
    have Hbl : Hid ((mk (baseL 4 ((m : Int) + 1))).size ≤ 21) := by
      show _ ≤ _
      have : m = 0 ∨ m = 1 ∨ m = 2 ∨ m = 3 ∨ m = 4 ∨ m = 5 ∨ m = 6 ∨ m = 7 ∨ m = 8 ∨ m = 9 ∨ m = 10 ∨ m = 11 := by omega
      rcases this with rfl | rfl | rfl | rfl | rfl | rfl | rfl | rfl | rfl | rfl | rfl | rfl <;> decide
    have hxa := hx.trans (Ext.alloc w1 (.cells ([Value.string ⟨#[74, 65, 78]⟩, Value.string ⟨#[70, 69, 66]⟩, Value.string ⟨#[77, 65, 82]⟩, Value.string ⟨#[65, 80, 82]⟩, Value.string ⟨#[77, 65, 89]⟩, Value.string ⟨#[74, 85, 78]⟩, Value.string ⟨#[74, 85, 76]⟩, Value.string ⟨#[65, 85, 71]⟩, Value.string ⟨#[83, 69, 80]⟩, Value.string ⟨#[79, 67, 84]⟩, Value.string ⟨#[78, 79, 86]⟩, Value.string ⟨#[68, 69, 67]⟩]).toArray 9))
    by_cases h2 : named = 2
    · subst h2
      have Hr := Lib.hid (Hn.out.trans (if_pos (by trivial)))
      have hsz := Hbl.out
      obtain ⟨cap, wc, hcv, hxc, hzc, hcc, hfc⟩ := conv_bytes (mk (baseL 4 ((m : Int) + 1))) (w1.alloc (.cells #[Value.string ⟨#[74, 65, 78]⟩, Value.string ⟨#[70, 69, 66]⟩, Value.string ⟨#[77, 65, 82]⟩, Value.string ⟨#[65, 80, 82]⟩, Value.string ⟨#[77, 65, 89]⟩, Value.string ⟨#[74, 85, 78]⟩, Value.string ⟨#[74, 85, 76]⟩, Value.string ⟨#[65, 85, 71]⟩, Value.string ⟨#[83, 69, 80]⟩, Value.string ⟨#[79, 67, 84]⟩, Value.string ⟨#[78, 79, 86]⟩, Value.string ⟨#[68, 69, 67]⟩] 9))
      obtain ⟨N, hN⟩ : ∃ N, N = (w1.alloc (.cells #[Value.string ⟨#[74, 65, 78]⟩, Value.string ⟨#[70, 69, 66]⟩, Value.string ⟨#[77, 65, 82]⟩, Value.string ⟨#[65, 80, 82]⟩, Value.string ⟨#[77, 65, 89]⟩, Value.string ⟨#[74, 85, 78]⟩, Value.string ⟨#[74, 85, 76]⟩, Value.string ⟨#[65, 85, 71]⟩, Value.string ⟨#[83, 69, 80]⟩, Value.string ⟨#[79, 67, 84]⟩, Value.string ⟨#[78, 79, 86]⟩, Value.string ⟨#[68, 69, 67]⟩] 9)).heap.size := ⟨_, rfl⟩
      rw [← hN] at hcv hzc hcc hfc
      have HN := Lib.hid hN
      clear hN
      go_wp2_with fail
      clear hbe
      go_loopw [9] (fun i wr => ∃ k : Nat, k ≤ (mk (baseL 4 ((m : Int) + 1))).size ∧ i = .int .i64 k ∧ Ext (w1.alloc (.cells #[Value.string ⟨#[74, 65, 78]⟩, Value.string ⟨#[70, 69, 66]⟩, Value.string ⟨#[77, 65, 82]⟩, Value.string ⟨#[65, 80, 82]⟩, Value.string ⟨#[77, 65, 89]⟩, Value.string ⟨#[74, 85, 78]⟩, Value.string ⟨#[74, 85, 76]⟩, Value.string ⟨#[65, 85, 71]⟩, Value.string ⟨#[83, 69, 80]⟩, Value.string ⟨#[79, 67, 84]⟩, Value.string ⟨#[78, 79, 86]⟩, Value.string ⟨#[68, 69, 67]⟩] 9)) wr ∧ Hid (∀ j, j < (mk (baseL 4 ((m : Int) + 1))).size → wr.cell? ⟨N, j, none⟩ = some (.int .u8 (lowAt (bytes (mk (baseL 4 ((m : Int) + 1)))) k j))) ∧ Hid (∀ j, j < (mk (baseL 4 ((m : Int) + 1))).size → wr.frozen? ⟨N, j, none⟩ = false))
        (fun i _ => (mk (baseL 4 ((m : Int) + 1))).size - (RowKit.intOf i).toNat)
      case atStart => exact ⟨0, Nat.zero_le _, rfl, hxc, hcc, hfc⟩
      case round =>
        obtain ⟨k, hk, rfl, hxr, Hc, Hf⟩ := hrel
        by_cases hlt : k < (mk (baseL 4 ((m : Int) + 1))).size
        · obtain ⟨Y, hY⟩ : ∃ Y, Y = ((bytes (mk (baseL 4 ((m : Int) + 1)))).getD k 0).toNat := ⟨_, rfl⟩
          have hck : wr.cell? ⟨N, k, none⟩ = some (.int .u8 (Y : Int)) := by rw [Hc.out k hlt, lowAt_at, hY]
          have hfk := Hf.out k hlt
          have HY := Lib.hid hY
          have hY2 : Y < 256 := by rw [hY]; exact UInt8.toNat_lt _
          clear hY hcv
          go_wp2_with fail
          all_goals go_roundw
          all_goals first
            | (case rel => exact ⟨k + 1, by omega, by go_num, hxr.set (by rw [HN.out]; exact Nat.le_refl _) _ _, lower_set Hc.out HY.out (by omega) (by omega), fun j hj => by rw [World.frozen?_setCell]; exact Hf.out j hj⟩)
            | (case rel => exact ⟨k + 1, by omega, by go_num, hxr, lower_keep Hc.out HY.out (by omega), Hf⟩)
            | skip
          all_goals (simp [RowKit.intOf]; omega)
        · have hb : (convert 109 9 (.slice (some ⟨N, 0, none⟩) (mk (baseL 4 ((m : Int) + 1))).size cap)).run Tryz.prog wr = .ok (.string (mk (lowerL (baseL 4 ((m : Int) + 1))))) wr := by
            have hlen : (lowerL (baseL 4 ((m : Int) + 1))).length = (mk (baseL 4 ((m : Int) + 1))).size := by simp [lowerL, size_mk]
            have := conv_back N cap (lowerL (baseL 4 ((m : Int) + 1))) wr (fun j hj => by
              have hj' : j < ((baseL 4 ((m : Int) + 1))).length := by rw [hlen, size_mk] at hj; exact hj
              rw [Hc.out j (by rw [← hlen]; exact hj), bytes_mk]
              unfold lowAt lowerL
              rw [if_pos (by rw [size_mk] at hlt hk; omega), List.getD_eq_getElem?_getD, List.getD_eq_getElem?_getD, List.getElem?_map, List.getElem?_eq_getElem hj']
              rfl)
            rw [hlen] at this
            exact this
          clear hcv
          go_wp2_with fail
          go_ret
          exact ⟨by rw [Hr.out]; rfl, (hxa).trans hxr⟩
    · have H2 := Lib.hid h2
      have b2 : (named == 2) = false := by rw [beq_eq_false_iff_ne]; exact h2
      clear h2
      go_wp2_with fail
      have Hr := Lib.hid (Hn.out.trans (if_neg H2.out))
      go_ret
      exact ⟨by rw [Hr.out]; rfl, hxa⟩
  · by_cases h5 : f = 5 ∧ 1 ≤ n ∧ n ≤ 7
    · skip
      obtain ⟨rfl, hn1, hn2⟩ := h5
      obtain ⟨m, rfl⟩ : ∃ m : Nat, n = (m : Int) + 1 := ⟨(n - 1).toNat, by omega⟩
      have hm : m < 7 := by omega
      have hbe : ∀ hh, ([Value.string ⟨#[83, 85, 78]⟩, Value.string ⟨#[77, 79, 78]⟩, Value.string ⟨#[84, 85, 69]⟩, Value.string ⟨#[87, 69, 68]⟩, Value.string ⟨#[84, 72, 85]⟩, Value.string ⟨#[70, 82, 73]⟩, Value.string ⟨#[83, 65, 84]⟩] : List Value)[m]'hh = .string (mk (baseL 5 ((m : Int) + 1))) := by
        intro hh
        have : m = 0 ∨ m = 1 ∨ m = 2 ∨ m = 3 ∨ m = 4 ∨ m = 5 ∨ m = 6 := by omega
        rcases this with rfl | rfl | rfl | rfl | rfl | rfl | rfl <;> rfl
      have Hbl : Hid ((mk (baseL 5 ((m : Int) + 1))).size ≤ 21) := by
        show _ ≤ _
        have : m = 0 ∨ m = 1 ∨ m = 2 ∨ m = 3 ∨ m = 4 ∨ m = 5 ∨ m = 6 := by omega
        rcases this with rfl | rfl | rfl | rfl | rfl | rfl | rfl <;> decide
      have hxa := hx.trans (Ext.alloc w1 (.cells ([Value.string ⟨#[83, 85, 78]⟩, Value.string ⟨#[77, 79, 78]⟩, Value.string ⟨#[84, 85, 69]⟩, Value.string ⟨#[87, 69, 68]⟩, Value.string ⟨#[84, 72, 85]⟩, Value.string ⟨#[70, 82, 73]⟩, Value.string ⟨#[83, 65, 84]⟩]).toArray 9))
      by_cases h2 : named = 2
      · subst h2
        have Hr := Lib.hid (Hn.out.trans (if_pos (by trivial)))
        have hsz := Hbl.out
        obtain ⟨cap, wc, hcv, hxc, hzc, hcc, hfc⟩ := conv_bytes (mk (baseL 5 ((m : Int) + 1))) (w1.alloc (.cells #[Value.string ⟨#[83, 85, 78]⟩, Value.string ⟨#[77, 79, 78]⟩, Value.string ⟨#[84, 85, 69]⟩, Value.string ⟨#[87, 69, 68]⟩, Value.string ⟨#[84, 72, 85]⟩, Value.string ⟨#[70, 82, 73]⟩, Value.string ⟨#[83, 65, 84]⟩] 9))
        obtain ⟨N, hN⟩ : ∃ N, N = (w1.alloc (.cells #[Value.string ⟨#[83, 85, 78]⟩, Value.string ⟨#[77, 79, 78]⟩, Value.string ⟨#[84, 85, 69]⟩, Value.string ⟨#[87, 69, 68]⟩, Value.string ⟨#[84, 72, 85]⟩, Value.string ⟨#[70, 82, 73]⟩, Value.string ⟨#[83, 65, 84]⟩] 9)).heap.size := ⟨_, rfl⟩
        rw [← hN] at hcv hzc hcc hfc
        have HN := Lib.hid hN
        clear hN
        go_wp2_with fail
        clear hbe
        go_loopw [9] (fun i wr => ∃ k : Nat, k ≤ (mk (baseL 5 ((m : Int) + 1))).size ∧ i = .int .i64 k ∧ Ext (w1.alloc (.cells #[Value.string ⟨#[83, 85, 78]⟩, Value.string ⟨#[77, 79, 78]⟩, Value.string ⟨#[84, 85, 69]⟩, Value.string ⟨#[87, 69, 68]⟩, Value.string ⟨#[84, 72, 85]⟩, Value.string ⟨#[70, 82, 73]⟩, Value.string ⟨#[83, 65, 84]⟩] 9)) wr ∧ Hid (∀ j, j < (mk (baseL 5 ((m : Int) + 1))).size → wr.cell? ⟨N, j, none⟩ = some (.int .u8 (lowAt (bytes (mk (baseL 5 ((m : Int) + 1)))) k j))) ∧ Hid (∀ j, j < (mk (baseL 5 ((m : Int) + 1))).size → wr.frozen? ⟨N, j, none⟩ = false))
          (fun i _ => (mk (baseL 5 ((m : Int) + 1))).size - (RowKit.intOf i).toNat)
        case atStart => exact ⟨0, Nat.zero_le _, rfl, hxc, hcc, hfc⟩
        case round =>
          obtain ⟨k, hk, rfl, hxr, Hc, Hf⟩ := hrel
          by_cases hlt : k < (mk (baseL 5 ((m : Int) + 1))).size
          · obtain ⟨Y, hY⟩ : ∃ Y, Y = ((bytes (mk (baseL 5 ((m : Int) + 1)))).getD k 0).toNat := ⟨_, rfl⟩
            have hck : wr.cell? ⟨N, k, none⟩ = some (.int .u8 (Y : Int)) := by rw [Hc.out k hlt, lowAt_at, hY]
            have hfk := Hf.out k hlt
            have HY := Lib.hid hY
            have hY2 : Y < 256 := by rw [hY]; exact UInt8.toNat_lt _
            clear hY hcv
            go_wp2_with fail
            all_goals go_roundw
            all_goals first
              | (case rel => exact ⟨k + 1, by omega, by go_num, hxr.set (by rw [HN.out]; exact Nat.le_refl _) _ _, lower_set Hc.out HY.out (by omega) (by omega), fun j hj => by rw [World.frozen?_setCell]; exact Hf.out j hj⟩)
              | (case rel => exact ⟨k + 1, by omega, by go_num, hxr, lower_keep Hc.out HY.out (by omega), Hf⟩)
              | skip
            all_goals (simp [RowKit.intOf]; omega)
          · have hb : (convert 109 9 (.slice (some ⟨N, 0, none⟩) (mk (baseL 5 ((m : Int) + 1))).size cap)).run Tryz.prog wr = .ok (.string (mk (lowerL (baseL 5 ((m : Int) + 1))))) wr := by
              have hlen : (lowerL (baseL 5 ((m : Int) + 1))).length = (mk (baseL 5 ((m : Int) + 1))).size := by simp [lowerL, size_mk]
              have := conv_back N cap (lowerL (baseL 5 ((m : Int) + 1))) wr (fun j hj => by
                have hj' : j < ((baseL 5 ((m : Int) + 1))).length := by rw [hlen, size_mk] at hj; exact hj
                rw [Hc.out j (by rw [← hlen]; exact hj), bytes_mk]
                unfold lowAt lowerL
                rw [if_pos (by rw [size_mk] at hlt hk; omega), List.getD_eq_getElem?_getD, List.getD_eq_getElem?_getD, List.getElem?_map, List.getElem?_eq_getElem hj']
                rfl)
              rw [hlen] at this
              exact this
            clear hcv
            go_wp2_with fail
            go_ret
            exact ⟨by rw [Hr.out]; rfl, (hxa).trans hxr⟩
      · have H2 := Lib.hid h2
        have b2 : (named == 2) = false := by rw [beq_eq_false_iff_ne]; exact h2
        clear h2
        go_wp2_with fail
        have Hr := Lib.hid (Hn.out.trans (if_neg H2.out))
        go_ret
        exact ⟨by rw [Hr.out]; rfl, hxa⟩
    · have hbl : baseL f n = Lib.itoa n := by unfold baseL; rw [if_neg h4, if_neg h5]
      rw [hbl] at Hn
      have Hbl : Hid ((mk (Lib.itoa n)).size ≤ 21) := Hil.out
      clear hbl
      by_cases h2 : named = 2
      · subst h2
        have Hr := Lib.hid (Hn.out.trans (if_pos (by trivial)))
        have hsz := Hbl.out
        obtain ⟨cap, wc, hcv, hxc, hzc, hcc, hfc⟩ := conv_bytes (mk (Lib.itoa n)) (w1)
        obtain ⟨N, hN⟩ : ∃ N, N = (w1).heap.size := ⟨_, rfl⟩
        rw [← hN] at hcv hzc hcc hfc
        have HN := Lib.hid hN
        clear hN
        go_wp2_with fail
        all_goals
          go_loopw [9] (fun i wr => ∃ k : Nat, k ≤ (mk (Lib.itoa n)).size ∧ i = .int .i64 k ∧ Ext (w1) wr ∧ Hid (∀ j, j < (mk (Lib.itoa n)).size → wr.cell? ⟨N, j, none⟩ = some (.int .u8 (lowAt (bytes (mk (Lib.itoa n))) k j))) ∧ Hid (∀ j, j < (mk (Lib.itoa n)).size → wr.frozen? ⟨N, j, none⟩ = false))
            (fun i _ => (mk (Lib.itoa n)).size - (RowKit.intOf i).toNat)
          case atStart => exact ⟨0, Nat.zero_le _, rfl, hxc, hcc, hfc⟩
          case round =>
            obtain ⟨k, hk, rfl, hxr, Hc, Hf⟩ := hrel
            by_cases hlt : k < (mk (Lib.itoa n)).size
            · obtain ⟨Y, hY⟩ : ∃ Y, Y = ((bytes (mk (Lib.itoa n))).getD k 0).toNat := ⟨_, rfl⟩
              have hck : wr.cell? ⟨N, k, none⟩ = some (.int .u8 (Y : Int)) := by rw [Hc.out k hlt, lowAt_at, hY]
              have hfk := Hf.out k hlt
              have HY := Lib.hid hY
              have hY2 : Y < 256 := by rw [hY]; exact UInt8.toNat_lt _
              clear hY hcv
              go_wp2_with fail
              all_goals go_roundw
              all_goals first
                | (case rel => exact ⟨k + 1, by omega, by go_num, hxr.set (by rw [HN.out]; exact Nat.le_refl _) _ _, lower_set Hc.out HY.out (by omega) (by omega), fun j hj => by rw [World.frozen?_setCell]; exact Hf.out j hj⟩)
                | (case rel => exact ⟨k + 1, by omega, by go_num, hxr, lower_keep Hc.out HY.out (by omega), Hf⟩)
                | skip
              all_goals (simp [RowKit.intOf]; omega)
            · have hb : (convert 109 9 (.slice (some ⟨N, 0, none⟩) (mk (Lib.itoa n)).size cap)).run Tryz.prog wr = .ok (.string (mk (lowerL (Lib.itoa n)))) wr := by
                have hlen : (lowerL (Lib.itoa n)).length = (mk (Lib.itoa n)).size := by simp [lowerL, size_mk]
                have := conv_back N cap (lowerL (Lib.itoa n)) wr (fun j hj => by
                  have hj' : j < ((Lib.itoa n)).length := by rw [hlen, size_mk] at hj; exact hj
                  rw [Hc.out j (by rw [← hlen]; exact hj), bytes_mk]
                  unfold lowAt lowerL
                  rw [if_pos (by rw [size_mk] at hlt hk; omega), List.getD_eq_getElem?_getD, List.getD_eq_getElem?_getD, List.getElem?_map, List.getElem?_eq_getElem hj']
                  rfl)
                rw [hlen] at this
                exact this
              clear hcv
              go_wp2_with fail
              go_ret
              exact ⟨by rw [Hr.out]; rfl, (hx).trans hxr⟩
      · have H2 := Lib.hid h2
        have b2 : (named == 2) = false := by rw [beq_eq_false_iff_ne]; exact h2
        clear h2
        go_wp2_with fail
        all_goals
          have Hr := Lib.hid (Hn.out.trans (if_neg H2.out))
          go_ret
          exact ⟨by rw [Hr.out]; rfl, hx⟩
end Go.Proofs.YtmaffdhcmdhjfaaGreatDoor
