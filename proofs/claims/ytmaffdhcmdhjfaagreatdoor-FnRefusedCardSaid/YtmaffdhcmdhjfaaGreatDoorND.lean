/- spec.least, most, name. The plain law of an expression's text, first part: names, numbers, splits. The plain law of an expression's text, second part: a part's text and its numbers; each field's reading gives them. The plain law of an expression's text, third part: lists; the two fields of days. A region that draws its order and whose callees may make memory: one walk, in the order of the text, over a class of worlds. spec.simple. -/
import Derived.Test.YtmaffdhcmdhjfaaGreatDoorNC
import Derived.Lib.ItoaLen
import Derived.Test.YtmaffdhcmdhjfaaGreatDoorNA
import Derived.Deep.DeepCutAuto
set_option linter.unusedSimpArgs false
set_option linter.unusedVariables false
namespace Go.Proofs.YtmaffdhcmdhjfaaGreatDoor
open Go.RowKit Go.Lib
def leastF (f : Nat) : Int := if f = 6 then 1970 else if 3 ≤ f then 1 else 0
def mostF (f : Nat) : Int := if f = 0 then 59 else if f = 1 then 59 else if f = 2 then 23 else if f = 3 then 31 else if f = 4 then 12 else if f = 5 then 7 else 2199
theorem least_any (f : Nat) (hf : f < 7) (w : World) : Calls Tryz.prog 58 #[.int .i64 f] w fun e w' => e = .returned (.int .i64 (leastF f)) ∧ Ext w w' := by
 have h : f = 0 ∨ f = 1 ∨ f = 2 ∨ f = 3 ∨ f = 4 ∨ f = 5 ∨ f = 6 := by omega
 rcases h with rfl | rfl | rfl | rfl | rfl | rfl | rfl
 all_goals
  go_enter Tryz.func58, Tryz.ntmps58
  go_wp2
  go_ret
  exact ⟨rfl, Ext.alloc _ _⟩
theorem most_any (f : Nat) (hf : f < 7) (w : World) : Calls Tryz.prog 57 #[.int .i64 f] w fun e w' => e = .returned (.int .i64 (mostF f)) ∧ Ext w w' := by
 have h : f = 0 ∨ f = 1 ∨ f = 2 ∨ f = 3 ∨ f = 4 ∨ f = 5 ∨ f = 6 := by omega
 rcases h with rfl | rfl | rfl | rfl | rfl | rfl | rfl
 all_goals
  go_enter Tryz.func57, Tryz.ntmps57
  go_wp2
  go_ret
  exact ⟨rfl, Ext.alloc _ _⟩
def lowC (c : UInt8) : UInt8 := if 65 ≤ c.toNat ∧ c.toNat ≤ 90 then UInt8.ofNat (c.toNat + 32) else c
def lowerL (l : List UInt8) : List UInt8 := l.map lowC
def baseL (f : Nat) (n : Int) : List UInt8 :=
 if f = 4 ∧ 1 ≤ n ∧ n ≤ 12 then monthN.getD n.toNat [] else if f = 5 ∧ 1 ≤ n ∧ n ≤ 7 then dayN.getD n.toNat [] else Lib.itoa n
def nameL (f : Nat) (n named : Int) : List UInt8 :=
 if named = 0 then Lib.itoa n else if named = 2 then lowerL (baseL f n) else baseL f n
def lowAt (l : List UInt8) (k j : Nat) : Nat := (if j < k then lowC (l.getD j 0) else l.getD j 0).toNat
theorem lowAt_succ (l : List UInt8) (k j : Nat) (h : j ≠ k) : lowAt l (k + 1) j = lowAt l k j := by
 unfold lowAt
 by_cases h1 : j < k
 ·rw [if_pos h1, if_pos (by omega)]
 ·rw [if_neg h1, if_neg (by omega)]
theorem lowAt_at (l : List UInt8) (k : Nat) : lowAt l k k = (l.getD k 0).toNat := by unfold lowAt; rw [if_neg (by omega)]
theorem lowAt_now (l : List UInt8) (k : Nat) : lowAt l (k + 1) k = (lowC (l.getD k 0)).toNat := by unfold lowAt; rw [if_pos (by omega)]
theorem lowC_in (b : UInt8) (h1 : 65 ≤ b.toNat) (h2 : b.toNat ≤ 90) : ((lowC b).toNat : Int) = (b.toNat : Int) + 32 := by
 unfold lowC
 rw [if_pos ⟨h1, h2⟩]
 have : (UInt8.ofNat (b.toNat + 32)).toNat = b.toNat + 32 := by simp; omega
 rw [this]; omega
theorem lowC_out (b : UInt8) (h : ¬ (65 ≤ b.toNat ∧ b.toNat ≤ 90)) : lowC b = b := by unfold lowC; rw [if_neg h]
theorem lower_keep {wr : World} {N : Nat} {s : ByteArray} {k X : Nat} (Hc : ∀ j, j < s.size → wr.cell? ⟨N, j, none⟩ = some (.int .u8 (lowAt (bytes s) k j))) (hX : X = ((bytes s).getD k 0).toNat) (h : ¬ (65 ≤ X ∧ X ≤ 90)) :
 ∀ j, j < s.size → wr.cell? ⟨N, j, none⟩ = some (.int .u8 (lowAt (bytes s) (k + 1) j)) := by
 intro j hj
 by_cases hjk : j = k
 ·subst hjk
  rw [Hc j hj, lowAt_at, lowAt_now, lowC_out _ (by rw [← hX]; exact h)]
 ·rw [Hc j hj, lowAt_succ _ _ _ hjk]
theorem lower_set {wr : World} {N : Nat} {s : ByteArray} {k X : Nat} (Hc : ∀ j, j < s.size → wr.cell? ⟨N, j, none⟩ = some (.int .u8 (lowAt (bytes s) k j))) (hX : X = ((bytes s).getD k 0).toNat) (h1 : 65 ≤ X) (h2 : X ≤ 90) :
 ∀ j, j < s.size → (wr.setCell ⟨N, k, none⟩ (.int .u8 ((X : Int) + 32))).cell? ⟨N, j, none⟩ = some (.int .u8 (lowAt (bytes s) (k + 1) j)) := by
 intro j hj
 by_cases hjk : j = k
 ·subst hjk
  rw [World.cell?_setCell_same _ _ _ (Hc j hj), lowAt_now, lowC_in _ (by rw [← hX]; exact h1) (by rw [← hX]; exact h2), hX]
 ·rw [World.cell?_setCell_other _ _ _ _ (by intro e; injection e with _ e; exact hjk e.symm), Hc j hj, lowAt_succ _ _ _ hjk]
theorem itoa_len (n : Int) (h : Joins.In64 n) : (Lib.itoa n).length ≤ 21 := by
 have := Lib.itoa_length_le n h.1 h.2
 omega
set_option maxHeartbeats 1600000 in
set_option maxRecDepth 1000000 in
theorem name_plain (f : Nat) (hf : f < 7) (n : Int) (h : Joins.In64 n) (w : World) (hE : Env w) :
 Calls Tryz.prog 60 #[.int .i64 f, .int .i64 n, .int .i64 0] w fun e w' => e = .returned (.string (mk (nameL f n 0))) ∧ Ext w w' := by
 have Hn : Hid (nameL f n 0 = Lib.itoa n) := by show _ = _; unfold nameL; rw [if_pos rfl]
 go_enter Tryz.func60, Tryz.ntmps60
 go_wp2_with fail
 go_at_call 56
 refine (itoa_any n h _ hE).mono ?_
 rintro e w1 ⟨rfl, hx⟩
 go_wp2_with fail
 go_ret
 exact ⟨by rw [Hn.out]; rfl, hx⟩
set_option maxHeartbeats 3200000 in
set_option maxRecDepth 1000000 in
theorem name_any (f : Nat) (hf : f < 7) (n named : Int) (h : Joins.In64 n) (h0 : named ≠ 0) (w : World) (hE : Env w) :
 Calls Tryz.prog 60 #[.int .i64 f, .int .i64 n, .int .i64 named] w fun e w' => e = .returned (.string (mk (nameL f n named))) ∧ Ext w w' := by
 have hz : (named == 0) = false := by rw [beq_eq_false_iff_ne]; exact h0
 have hil := itoa_len n h
 have Hil := Lib.hid hil
 have Hn : Hid (nameL f n named = if named = 2 then lowerL (baseL f n) else baseL f n) := by show _ = _; unfold nameL; rw [if_neg h0]
 clear hil
 go_enter Tryz.func60, Tryz.ntmps60
 go_wp2_with fail
 go_at_call 56
 refine (itoa_any n h _ hE).mono ?_
 rintro e w1 ⟨rfl, hx⟩
 by_cases h4 : f = 4 ∧ 1 ≤ n ∧ n ≤ 12
 ·skip
  obtain ⟨rfl, hn1, hn2⟩ := h4
  obtain ⟨m, rfl⟩ : ∃ m : Nat, n = (m : Int) + 1 := ⟨(n - 1).toNat, by omega⟩
  have hm : m < 12 := by omega
  have hbe : ∀ hh, ([Value.string ⟨#[74, 65, 78]⟩, Value.string ⟨#[70, 69, 66]⟩, Value.string ⟨#[77, 65, 82]⟩, Value.string ⟨#[65, 80, 82]⟩, Value.string ⟨#[77, 65, 89]⟩, Value.string ⟨#[74, 85, 78]⟩, Value.string ⟨#[74, 85, 76]⟩, Value.string ⟨#[65, 85, 71]⟩, Value.string ⟨#[83, 69, 80]⟩, Value.string ⟨#[79, 67, 84]⟩, Value.string ⟨#[78, 79, 86]⟩, Value.string ⟨#[68, 69, 67]⟩] : List Value)[m]'hh = .string (mk (baseL 4 ((m : Int) + 1))) := by
   intro hh
   have : m = 0 ∨ m = 1 ∨ m = 2 ∨ m = 3 ∨ m = 4 ∨ m = 5 ∨ m = 6 ∨ m = 7 ∨ m = 8 ∨ m = 9 ∨ m = 10 ∨ m = 11 := by omega
   rcases this with rfl | rfl | rfl | rfl | rfl | rfl | rfl | rfl | rfl | rfl | rfl | rfl <;> rfl
  have Hbl : Hid ((mk (baseL 4 ((m : Int) + 1))).size ≤ 21) := by
   show _ ≤ _
   have : m = 0 ∨ m = 1 ∨ m = 2 ∨ m = 3 ∨ m = 4 ∨ m = 5 ∨ m = 6 ∨ m = 7 ∨ m = 8 ∨ m = 9 ∨ m = 10 ∨ m = 11 := by omega
   rcases this with rfl | rfl | rfl | rfl | rfl | rfl | rfl | rfl | rfl | rfl | rfl | rfl <;> decide
  have hxa := hx.trans (Ext.alloc w1 (.cells ([Value.string ⟨#[74, 65, 78]⟩, Value.string ⟨#[70, 69, 66]⟩, Value.string ⟨#[77, 65, 82]⟩, Value.string ⟨#[65, 80, 82]⟩, Value.string ⟨#[77, 65, 89]⟩, Value.string ⟨#[74, 85, 78]⟩, Value.string ⟨#[74, 85, 76]⟩, Value.string ⟨#[65, 85, 71]⟩, Value.string ⟨#[83, 69, 80]⟩, Value.string ⟨#[79, 67, 84]⟩, Value.string ⟨#[78, 79, 86]⟩, Value.string ⟨#[68, 69, 67]⟩]).toArray 9))
  by_cases h2 : named = 2
  ·subst h2
   have Hr := Lib.hid (Hn.out.trans (if_pos (by trivial)))
   have hsz := Hbl.out
   obtain ⟨cap, wc, hcv, hxc, hzc, hcc, hfc⟩ := conv_bytes (mk (baseL 4 ((m : Int) + 1))) (w1.alloc (.cells #[Value.string ⟨#[74, 65, 78]⟩, Value.string ⟨#[70, 69, 66]⟩, Value.string ⟨#[77, 65, 82]⟩, Value.string ⟨#[65, 80, 82]⟩, Value.string ⟨#[77, 65, 89]⟩, Value.string ⟨#[74, 85, 78]⟩, Value.string ⟨#[74, 85, 76]⟩, Value.string ⟨#[65, 85, 71]⟩, Value.string ⟨#[83, 69, 80]⟩, Value.string ⟨#[79, 67, 84]⟩, Value.string ⟨#[78, 79, 86]⟩, Value.string ⟨#[68, 69, 67]⟩] 9))
   obtain ⟨N, hN⟩ : ∃ N, N = (w1.alloc (.cells #[Value.string ⟨#[74, 65, 78]⟩, Value.string ⟨#[70, 69, 66]⟩, Value.string ⟨#[77, 65, 82]⟩, Value.string ⟨#[65, 80, 82]⟩, Value.string ⟨#[77, 65, 89]⟩, Value.string ⟨#[74, 85, 78]⟩, Value.string ⟨#[74, 85, 76]⟩, Value.string ⟨#[65, 85, 71]⟩, Value.string ⟨#[83, 69, 80]⟩, Value.string ⟨#[79, 67, 84]⟩, Value.string ⟨#[78, 79, 86]⟩, Value.string ⟨#[68, 69, 67]⟩] 9)).heap.size := ⟨_, rfl⟩
   rw [← hN] at hcv hzc hcc hfc
   have HN := Lib.hid hN
   clear hN
   go_wp2_with fail
   clear hbe
   go_loopw [9] (fun i wr => ∃ k : Nat, k ≤ (mk (baseL 4 ((m : Int) + 1))).size ∧ i = .int .i64 k ∧ Ext (w1.alloc (.cells #[Value.string ⟨#[74, 65, 78]⟩, Value.string ⟨#[70, 69, 66]⟩, Value.string ⟨#[77, 65, 82]⟩, Value.string ⟨#[65, 80, 82]⟩, Value.string ⟨#[77, 65, 89]⟩, Value.string ⟨#[74, 85, 78]⟩, Value.string ⟨#[74, 85, 76]⟩, Value.string ⟨#[65, 85, 71]⟩, Value.string ⟨#[83, 69, 80]⟩, Value.string ⟨#[79, 67, 84]⟩, Value.string ⟨#[78, 79, 86]⟩, Value.string ⟨#[68, 69, 67]⟩] 9)) wr ∧ Hid (∀ j, j < (mk (baseL 4 ((m : Int) + 1))).size → wr.cell? ⟨N, j, none⟩ = some (.int .u8 (lowAt (bytes (mk (baseL 4 ((m : Int) + 1)))) k j))) ∧ Hid (∀ j, j < (mk (baseL 4 ((m : Int) + 1))).size → wr.frozen? ⟨N, j, none⟩ = false))
    (fun i _ => (mk (baseL 4 ((m : Int) + 1))).size - (RowKit.intOf i).toNat)
   case atStart => exact ⟨0, Nat.zero_le _, rfl, hxc, hcc, hfc⟩
   case round =>
    obtain ⟨k, hk, rfl, hxr, Hc, Hf⟩ := hrel
    by_cases hlt : k < (mk (baseL 4 ((m : Int) + 1))).size
    ·obtain ⟨Y, hY⟩ : ∃ Y, Y = ((bytes (mk (baseL 4 ((m : Int) + 1)))).getD k 0).toNat := ⟨_, rfl⟩
     have hck : wr.cell? ⟨N, k, none⟩ = some (.int .u8 (Y : Int)) := by rw [Hc.out k hlt, lowAt_at, hY]
     have hfk := Hf.out k hlt
     have HY := Lib.hid hY
     have hY2 : Y < 256 := by rw [hY]; exact UInt8.toNat_lt _
     clear hY hcv
     go_wp2_with fail
     all_goals go_roundw
     all_goals first
      | (case rel => exact ⟨k + 1, by omega, by go_num, hxr.set (by rw [HN.out]; exact Nat.le_refl _) _ _, lower_set Hc.out HY.out (by omega) (by omega), fun j hj => by rw [World.frozen?_setCell]; exact Hf.out j hj⟩)
      | (case rel => exact ⟨k + 1, by omega, by go_num, hxr, lower_keep Hc.out HY.out (by omega), Hf⟩)
      | skip
     all_goals (simp [RowKit.intOf]; omega)
    ·have hb : (convert 109 9 (.slice (some ⟨N, 0, none⟩) (mk (baseL 4 ((m : Int) + 1))).size cap)).run Tryz.prog wr = .ok (.string (mk (lowerL (baseL 4 ((m : Int) + 1))))) wr := by
      have hlen : (lowerL (baseL 4 ((m : Int) + 1))).length = (mk (baseL 4 ((m : Int) + 1))).size := by simp [lowerL, size_mk]
      have := conv_back N cap (lowerL (baseL 4 ((m : Int) + 1))) wr (fun j hj => by
       have hj' : j < ((baseL 4 ((m : Int) + 1))).length := by rw [hlen, size_mk] at hj; exact hj
       rw [Hc.out j (by rw [← hlen]; exact hj), bytes_mk]
       unfold lowAt lowerL
       rw [if_pos (by rw [size_mk] at hlt hk; omega), List.getD_eq_getElem?_getD, List.getD_eq_getElem?_getD, List.getElem?_map, List.getElem?_eq_getElem hj']
       rfl)
      rw [hlen] at this
      exact this
     clear hcv
     go_wp2_with fail
     go_ret
     exact ⟨by rw [Hr.out]; rfl, (hxa).trans hxr⟩
  ·have H2 := Lib.hid h2
   have b2 : (named == 2) = false := by rw [beq_eq_false_iff_ne]; exact h2
   clear h2
   go_wp2_with fail
   have Hr := Lib.hid (Hn.out.trans (if_neg H2.out))
   go_ret
   exact ⟨by rw [Hr.out]; rfl, hxa⟩
 ·by_cases h5 : f = 5 ∧ 1 ≤ n ∧ n ≤ 7
  ·skip
   obtain ⟨rfl, hn1, hn2⟩ := h5
   obtain ⟨m, rfl⟩ : ∃ m : Nat, n = (m : Int) + 1 := ⟨(n - 1).toNat, by omega⟩
   have hm : m < 7 := by omega
   have hbe : ∀ hh, ([Value.string ⟨#[83, 85, 78]⟩, Value.string ⟨#[77, 79, 78]⟩, Value.string ⟨#[84, 85, 69]⟩, Value.string ⟨#[87, 69, 68]⟩, Value.string ⟨#[84, 72, 85]⟩, Value.string ⟨#[70, 82, 73]⟩, Value.string ⟨#[83, 65, 84]⟩] : List Value)[m]'hh = .string (mk (baseL 5 ((m : Int) + 1))) := by
    intro hh
    have : m = 0 ∨ m = 1 ∨ m = 2 ∨ m = 3 ∨ m = 4 ∨ m = 5 ∨ m = 6 := by omega
    rcases this with rfl | rfl | rfl | rfl | rfl | rfl | rfl <;> rfl
   have Hbl : Hid ((mk (baseL 5 ((m : Int) + 1))).size ≤ 21) := by
    show _ ≤ _
    have : m = 0 ∨ m = 1 ∨ m = 2 ∨ m = 3 ∨ m = 4 ∨ m = 5 ∨ m = 6 := by omega
    rcases this with rfl | rfl | rfl | rfl | rfl | rfl | rfl <;> decide
   have hxa := hx.trans (Ext.alloc w1 (.cells ([Value.string ⟨#[83, 85, 78]⟩, Value.string ⟨#[77, 79, 78]⟩, Value.string ⟨#[84, 85, 69]⟩, Value.string ⟨#[87, 69, 68]⟩, Value.string ⟨#[84, 72, 85]⟩, Value.string ⟨#[70, 82, 73]⟩, Value.string ⟨#[83, 65, 84]⟩]).toArray 9))
   by_cases h2 : named = 2
   ·subst h2
    have Hr := Lib.hid (Hn.out.trans (if_pos (by trivial)))
    have hsz := Hbl.out
    obtain ⟨cap, wc, hcv, hxc, hzc, hcc, hfc⟩ := conv_bytes (mk (baseL 5 ((m : Int) + 1))) (w1.alloc (.cells #[Value.string ⟨#[83, 85, 78]⟩, Value.string ⟨#[77, 79, 78]⟩, Value.string ⟨#[84, 85, 69]⟩, Value.string ⟨#[87, 69, 68]⟩, Value.string ⟨#[84, 72, 85]⟩, Value.string ⟨#[70, 82, 73]⟩, Value.string ⟨#[83, 65, 84]⟩] 9))
    obtain ⟨N, hN⟩ : ∃ N, N = (w1.alloc (.cells #[Value.string ⟨#[83, 85, 78]⟩, Value.string ⟨#[77, 79, 78]⟩, Value.string ⟨#[84, 85, 69]⟩, Value.string ⟨#[87, 69, 68]⟩, Value.string ⟨#[84, 72, 85]⟩, Value.string ⟨#[70, 82, 73]⟩, Value.string ⟨#[83, 65, 84]⟩] 9)).heap.size := ⟨_, rfl⟩
    rw [← hN] at hcv hzc hcc hfc
    have HN := Lib.hid hN
    clear hN
    go_wp2_with fail
    clear hbe
    go_loopw [9] (fun i wr => ∃ k : Nat, k ≤ (mk (baseL 5 ((m : Int) + 1))).size ∧ i = .int .i64 k ∧ Ext (w1.alloc (.cells #[Value.string ⟨#[83, 85, 78]⟩, Value.string ⟨#[77, 79, 78]⟩, Value.string ⟨#[84, 85, 69]⟩, Value.string ⟨#[87, 69, 68]⟩, Value.string ⟨#[84, 72, 85]⟩, Value.string ⟨#[70, 82, 73]⟩, Value.string ⟨#[83, 65, 84]⟩] 9)) wr ∧ Hid (∀ j, j < (mk (baseL 5 ((m : Int) + 1))).size → wr.cell? ⟨N, j, none⟩ = some (.int .u8 (lowAt (bytes (mk (baseL 5 ((m : Int) + 1)))) k j))) ∧ Hid (∀ j, j < (mk (baseL 5 ((m : Int) + 1))).size → wr.frozen? ⟨N, j, none⟩ = false))
     (fun i _ => (mk (baseL 5 ((m : Int) + 1))).size - (RowKit.intOf i).toNat)
    case atStart => exact ⟨0, Nat.zero_le _, rfl, hxc, hcc, hfc⟩
    case round =>
     obtain ⟨k, hk, rfl, hxr, Hc, Hf⟩ := hrel
     by_cases hlt : k < (mk (baseL 5 ((m : Int) + 1))).size
     ·obtain ⟨Y, hY⟩ : ∃ Y, Y = ((bytes (mk (baseL 5 ((m : Int) + 1)))).getD k 0).toNat := ⟨_, rfl⟩
      have hck : wr.cell? ⟨N, k, none⟩ = some (.int .u8 (Y : Int)) := by rw [Hc.out k hlt, lowAt_at, hY]
      have hfk := Hf.out k hlt
      have HY := Lib.hid hY
      have hY2 : Y < 256 := by rw [hY]; exact UInt8.toNat_lt _
      clear hY hcv
      go_wp2_with fail
      all_goals go_roundw
      all_goals first
       | (case rel => exact ⟨k + 1, by omega, by go_num, hxr.set (by rw [HN.out]; exact Nat.le_refl _) _ _, lower_set Hc.out HY.out (by omega) (by omega), fun j hj => by rw [World.frozen?_setCell]; exact Hf.out j hj⟩)
       | (case rel => exact ⟨k + 1, by omega, by go_num, hxr, lower_keep Hc.out HY.out (by omega), Hf⟩)
       | skip
      all_goals (simp [RowKit.intOf]; omega)
     ·have hb : (convert 109 9 (.slice (some ⟨N, 0, none⟩) (mk (baseL 5 ((m : Int) + 1))).size cap)).run Tryz.prog wr = .ok (.string (mk (lowerL (baseL 5 ((m : Int) + 1))))) wr := by
       have hlen : (lowerL (baseL 5 ((m : Int) + 1))).length = (mk (baseL 5 ((m : Int) + 1))).size := by simp [lowerL, size_mk]
       have := conv_back N cap (lowerL (baseL 5 ((m : Int) + 1))) wr (fun j hj => by
        have hj' : j < ((baseL 5 ((m : Int) + 1))).length := by rw [hlen, size_mk] at hj; exact hj
        rw [Hc.out j (by rw [← hlen]; exact hj), bytes_mk]
        unfold lowAt lowerL
        rw [if_pos (by rw [size_mk] at hlt hk; omega), List.getD_eq_getElem?_getD, List.getD_eq_getElem?_getD, List.getElem?_map, List.getElem?_eq_getElem hj']
        rfl)
       rw [hlen] at this
       exact this
      clear hcv
      go_wp2_with fail
      go_ret
      exact ⟨by rw [Hr.out]; rfl, (hxa).trans hxr⟩
   ·have H2 := Lib.hid h2
    have b2 : (named == 2) = false := by rw [beq_eq_false_iff_ne]; exact h2
    clear h2
    go_wp2_with fail
    have Hr := Lib.hid (Hn.out.trans (if_neg H2.out))
    go_ret
    exact ⟨by rw [Hr.out]; rfl, hxa⟩
  ·have hbl : baseL f n = Lib.itoa n := by unfold baseL; rw [if_neg h4, if_neg h5]
   rw [hbl] at Hn
   have Hbl : Hid ((mk (Lib.itoa n)).size ≤ 21) := Hil.out
   clear hbl
   by_cases h2 : named = 2
   ·subst h2
    have Hr := Lib.hid (Hn.out.trans (if_pos (by trivial)))
    have hsz := Hbl.out
    obtain ⟨cap, wc, hcv, hxc, hzc, hcc, hfc⟩ := conv_bytes (mk (Lib.itoa n)) (w1)
    obtain ⟨N, hN⟩ : ∃ N, N = (w1).heap.size := ⟨_, rfl⟩
    rw [← hN] at hcv hzc hcc hfc
    have HN := Lib.hid hN
    clear hN
    go_wp2_with fail
    all_goals
     go_loopw [9] (fun i wr => ∃ k : Nat, k ≤ (mk (Lib.itoa n)).size ∧ i = .int .i64 k ∧ Ext (w1) wr ∧ Hid (∀ j, j < (mk (Lib.itoa n)).size → wr.cell? ⟨N, j, none⟩ = some (.int .u8 (lowAt (bytes (mk (Lib.itoa n))) k j))) ∧ Hid (∀ j, j < (mk (Lib.itoa n)).size → wr.frozen? ⟨N, j, none⟩ = false))
      (fun i _ => (mk (Lib.itoa n)).size - (RowKit.intOf i).toNat)
     case atStart => exact ⟨0, Nat.zero_le _, rfl, hxc, hcc, hfc⟩
     case round =>
      obtain ⟨k, hk, rfl, hxr, Hc, Hf⟩ := hrel
      by_cases hlt : k < (mk (Lib.itoa n)).size
      ·obtain ⟨Y, hY⟩ : ∃ Y, Y = ((bytes (mk (Lib.itoa n))).getD k 0).toNat := ⟨_, rfl⟩
       have hck : wr.cell? ⟨N, k, none⟩ = some (.int .u8 (Y : Int)) := by rw [Hc.out k hlt, lowAt_at, hY]
       have hfk := Hf.out k hlt
       have HY := Lib.hid hY
       have hY2 : Y < 256 := by rw [hY]; exact UInt8.toNat_lt _
       clear hY hcv
       go_wp2_with fail
       all_goals go_roundw
       all_goals first
        | (case rel => exact ⟨k + 1, by omega, by go_num, hxr.set (by rw [HN.out]; exact Nat.le_refl _) _ _, lower_set Hc.out HY.out (by omega) (by omega), fun j hj => by rw [World.frozen?_setCell]; exact Hf.out j hj⟩)
        | (case rel => exact ⟨k + 1, by omega, by go_num, hxr, lower_keep Hc.out HY.out (by omega), Hf⟩)
        | skip
       all_goals (simp [RowKit.intOf]; omega)
      ·have hb : (convert 109 9 (.slice (some ⟨N, 0, none⟩) (mk (Lib.itoa n)).size cap)).run Tryz.prog wr = .ok (.string (mk (lowerL (Lib.itoa n)))) wr := by
        have hlen : (lowerL (Lib.itoa n)).length = (mk (Lib.itoa n)).size := by simp [lowerL, size_mk]
        have := conv_back N cap (lowerL (Lib.itoa n)) wr (fun j hj => by
         have hj' : j < ((Lib.itoa n)).length := by rw [hlen, size_mk] at hj; exact hj
         rw [Hc.out j (by rw [← hlen]; exact hj), bytes_mk]
         unfold lowAt lowerL
         rw [if_pos (by rw [size_mk] at hlt hk; omega), List.getD_eq_getElem?_getD, List.getD_eq_getElem?_getD, List.getElem?_map, List.getElem?_eq_getElem hj']
         rfl)
        rw [hlen] at this
        exact this
       clear hcv
       go_wp2_with fail
       go_ret
       exact ⟨by rw [Hr.out]; rfl, (hx).trans hxr⟩
   ·have H2 := Lib.hid h2
    have b2 : (named == 2) = false := by rw [beq_eq_false_iff_ne]; exact h2
    clear h2
    go_wp2_with fail
    all_goals
     have Hr := Lib.hid (Hn.out.trans (if_neg H2.out))
     go_ret
     exact ⟨by rw [Hr.out]; rfl, hx⟩
end Go.Proofs.YtmaffdhcmdhjfaaGreatDoor
namespace Go.Proofs.YtmaffdhcmdhjfaaGreatDoor
open Go.RowKit Go.Lib
theorem parse_snoc : ∀ (l : List UInt8) (acc v : Nat) (c : UInt8), parseUint10 acc l = .ok v → 48 ≤ c.toNat → c.toNat ≤ 57 → v < 1844674407370955161 →
 parseUint10 acc (l ++ [c]) = .ok (v * 10 + (c.toNat - 48))
 | [], acc, v, c, h, h1, h2, hv => by
   simp only [parseUint10] at h
   injection h with h
   subst h
   simp only [List.nil_append, parseUint10]
   rw [if_pos ⟨h1, h2⟩, if_neg (by omega), if_neg (by omega)]
 | x :: r, acc, v, c, h, h1, h2, hv => by
   simp only [List.cons_append, parseUint10] at h ⊢
   split at h
   ·rename_i hx
    rw [if_pos hx]
    split at h
    ·cases h
    ·rename_i ha
     rw [if_neg ha]
     split at h
     ·cases h
     ·rename_i hb
      rw [if_neg hb]
      exact parse_snoc r _ v c h h1 h2 hv
   ·cases h
theorem parse_dec (u : Nat) (h : u < 9223372036854775808) : parseUint10 0 (decDigits u) = .ok u := by
 induction u using Nat.strongRecOn with
 | _ u ih =>
   have hd : ∀ d : Nat, d < 10 → (UInt8.ofNat (48 + d)).toNat = 48 + d := by
    intro d hd
    simp only [UInt8.toNat_ofNat']
    omega
   by_cases h10 : u < 10
   ·rw [decDigits, dif_pos h10]
    simp only [parseUint10]
    rw [hd u h10, if_pos (by omega), if_neg (by omega), if_neg (by omega)]
    congr 1
    omega
   ·rw [decDigits, dif_neg h10]
    have := parse_snoc (decDigits (u / 10)) 0 (u / 10) (UInt8.ofNat (48 + u % 10)) (ih (u / 10) (by omega) (by omega)) (by rw [hd _ (by omega)]; omega) (by rw [hd _ (by omega)]; omega) (by omega)
    rw [this, hd _ (by omega)]
    congr 1
    omega
theorem dec_ne (u : Nat) : decDigits u ≠ [] := by
 rw [decDigits]
 split <;> simp
theorem dec_dig (u : Nat) : ∀ c ∈ decDigits u, isDig c = true := by
 induction u using Nat.strongRecOn with
 | _ u ih =>
   have hd : ∀ d : Nat, d < 10 → isDig (UInt8.ofNat (48 + d)) = true := by
    intro d hd
    have : (UInt8.ofNat (48 + d)).toNat = 48 + d := by simp only [UInt8.toNat_ofNat']; omega
    unfold isDig
    rw [this]
    simp
    omega
   by_cases h10 : u < 10
   ·rw [decDigits, dif_pos h10]
    intro c hc
    rw [List.mem_singleton] at hc
    subst hc
    exact hd u h10
   ·rw [decDigits, dif_neg h10]
    intro c hc
    simp only [List.mem_append, List.mem_singleton] at hc
    rcases hc with hc | rfl
    ·exact ih (u / 10) (by omega) c hc
    ·exact hd _ (by omega)
theorem isDig_iff (c : UInt8) : isDig c = true ↔ 48 ≤ c.toNat ∧ c.toNat ≤ 57 := by unfold isDig; simp
theorem atoi_dec (u : Nat) (h : u < 9223372036854775808) : atoiO (decDigits u) = some (u : Int) := by
 obtain ⟨c, r, hl⟩ := List.exists_cons_of_ne_nil (dec_ne u)
 have hc := dec_dig u c (by rw [hl]; simp)
 rw [isDig_iff] at hc
 have hp := parse_dec u h
 have : atoiAll (decDigits u) = .ok (u : Int) := by
  unfold atoiAll
  rw [hl]
  simp only
  rw [if_neg (by omega)]
  unfold parseMag
  rw [if_neg (by simp), ← hl, hp]
  simp only
  rw [if_neg (by omega), if_neg (by omega), if_neg (by omega)]
 unfold atoiO
 rw [this]
def namesOf (f : Nat) : List (List UInt8) := if f = 4 then monthN else if f = 5 then dayN else []
def Word (l : List UInt8) : Prop := l ≠ [] ∧ ∀ c ∈ l, isWord c = true
theorem dig_word {c : UInt8} (h : isDig c = true) : isWord c = true := by
 rw [isDig_iff] at h
 unfold isWord
 simp
 omega
theorem low_dig {c : UInt8} (h : isDig c = true) : lowC c = c := by
 rw [isDig_iff] at h
 exact lowC_out c (by omega)
theorem itoa_dec (n : Int) (h : 0 ≤ n) : itoa n = decDigits n.toNat := by unfold itoa; rw [if_neg (by omega)]
theorem lower_dec (u : Nat) : lowerL (decDigits u) = decDigits u := by
 unfold lowerL
 have : ∀ l : List UInt8, (∀ c ∈ l, isDig c = true) → l.map lowC = l := by
  intro l
  induction l with
  | nil => intro _; rfl
  | cons x xs ih => intro h; simp [low_dig (h x (by simp)), ih (fun c hc => h c (by simp [hc]))]
 exact this _ (dec_dig u)
theorem norm_of_atoi {names : List (List UInt8)} {l : List UInt8} {v : Int} (h : atoiO l = some v) : normalizeO names l = some v := by
 unfold normalizeO
 rw [h]
theorem most_bd (f : Nat) : 7 ≤ mostF f ∧ mostF f ≤ 2199 := by
 unfold mostF
 repeat' split
 all_goals omega
theorem least_bd (f : Nat) : 0 ≤ leastF f ∧ leastF f ≤ 1970 := by
 unfold leastF
 repeat' split
 all_goals omega
theorem word_dec (u : Nat) : Word (decDigits u) := ⟨dec_ne u, fun c hc => dig_word (dec_dig u c hc)⟩
theorem num_name {f : Nat} {a : Int} (n : Int) (h4 : ¬ (f = 4 ∧ 1 ≤ a ∧ a ≤ 12)) (h5 : ¬ (f = 5 ∧ 1 ≤ a ∧ a ≤ 7)) (h0 : 0 ≤ a) : nameL f a n = decDigits a.toNat := by
 have hb : baseL f a = decDigits a.toNat := by
  unfold baseL
  rw [if_neg h4, if_neg h5, itoa_dec a h0]
 unfold nameL
 rw [hb, itoa_dec a h0, lower_dec]
 split <;> simp
theorem name_reads (f : Nat) (a n : Int) (h0 : 0 ≤ a) (h1 : a ≤ 2199) (hn : n = 0 ∨ n = 1 ∨ n = 2) : normalizeO (namesOf f) (nameL f a n) = some a ∧ Word (nameL f a n) := by
 by_cases h4 : f = 4 ∧ 1 ≤ a ∧ a ≤ 12
 ·obtain ⟨rfl, k1, k2⟩ := h4
  have : a = 1 ∨ a = 2 ∨ a = 3 ∨ a = 4 ∨ a = 5 ∨ a = 6 ∨ a = 7 ∨ a = 8 ∨ a = 9 ∨ a = 10 ∨ a = 11 ∨ a = 12 := by omega
  rcases hn with rfl | rfl | rfl
  ·have : nameL 4 a 0 = decDigits a.toNat := by unfold nameL; rw [if_pos rfl, itoa_dec a h0]
   rw [this]
   refine ⟨norm_of_atoi ?_, word_dec _⟩
   rw [atoi_dec _ (by omega)]
   congr 1; omega
  ·rcases this with rfl | rfl | rfl | rfl | rfl | rfl | rfl | rfl | rfl | rfl | rfl | rfl <;> exact ⟨by decide, by unfold Word; decide⟩
  ·rcases this with rfl | rfl | rfl | rfl | rfl | rfl | rfl | rfl | rfl | rfl | rfl | rfl <;> exact ⟨by decide, by unfold Word; decide⟩
 ·by_cases h5 : f = 5 ∧ 1 ≤ a ∧ a ≤ 7
  ·obtain ⟨rfl, k1, k2⟩ := h5
   have : a = 1 ∨ a = 2 ∨ a = 3 ∨ a = 4 ∨ a = 5 ∨ a = 6 ∨ a = 7 := by omega
   rcases hn with rfl | rfl | rfl
   ·have : nameL 5 a 0 = decDigits a.toNat := by unfold nameL; rw [if_pos rfl, itoa_dec a h0]
    rw [this]
    refine ⟨norm_of_atoi ?_, word_dec _⟩
    rw [atoi_dec _ (by omega)]
    congr 1; omega
   ·rcases this with rfl | rfl | rfl | rfl | rfl | rfl | rfl <;> exact ⟨by decide, by unfold Word; decide⟩
   ·rcases this with rfl | rfl | rfl | rfl | rfl | rfl | rfl <;> exact ⟨by decide, by unfold Word; decide⟩
  ·rw [num_name n h4 h5 h0]
   refine ⟨norm_of_atoi ?_, word_dec _⟩
   rw [atoi_dec _ (by omega)]
   congr 1; omega
theorem splitGo_free (c : UInt8) : ∀ (l cur : List UInt8), c ∉ l → splitGo c cur l = [cur ++ l]
 | [], cur, _ => by simp [splitGo]
 | x :: xs, cur, h => by
   unfold splitGo
   rw [if_neg (by intro e; exact h (by simp [e])), splitGo_free c xs _ (fun hm => h (by simp [hm]))]
   simp
theorem splitGo_at (c : UInt8) (r : List UInt8) : ∀ (l cur : List UInt8), c ∉ l → splitGo c cur (l ++ c :: r) = (cur ++ l) :: splitGo c [] r
 | [], cur, _ => by simp [splitGo]
 | x :: xs, cur, h => by
   rw [List.cons_append]
   have e : splitGo c cur (x :: (xs ++ c :: r)) = splitGo c (cur ++ [x]) (xs ++ c :: r) := by
    rw [splitGo, if_neg (by intro e; exact h (by simp [e]))]
   rw [e, splitGo_at c r xs _ (fun hm => h (by simp [hm]))]
   simp
theorem split_free {c : UInt8} {l : List UInt8} (h : c ∉ l) : splitL l c = [l] := by
 unfold splitL; rw [splitGo_free c l [] h]; rfl
theorem split_at {c : UInt8} {l r : List UInt8} (h : c ∉ l) : splitL (l ++ c :: r) c = l :: splitL r c := by
 unfold splitL; rw [splitGo_at c r l [] h]; rfl
theorem split_two {c : UInt8} {l r : List UInt8} (h : c ∉ l) (k : c ∉ r) : splitL (l ++ c :: r) c = [l, r] := by
 rw [split_at h, split_free k]
def joinL (c : UInt8) : List (List UInt8) → List UInt8
 | [] => []
 | [x] => x
 | x :: y :: r => x ++ c :: joinL c (y :: r)
theorem split_join (c : UInt8) : ∀ (L : List (List UInt8)), L ≠ [] → (∀ x ∈ L, c ∉ x) → splitL (joinL c L) c = L
 | [], h, _ => absurd rfl h
 | [x], _, h => by
   show splitL x c = [x]
   exact split_free (h x (by simp))
 | x :: y :: r, _, h => by
   show splitL (x ++ c :: joinL c (y :: r)) c = x :: y :: r
   rw [split_at (h x (by simp)), split_join c (y :: r) (by simp) (fun z hz => h z (by simp only [List.mem_cons] at hz ⊢; exact .inr hz))]
theorem word_free {l : List UInt8} (h : Word l) (c : UInt8) (hc : isWord c = false) : c ∉ l := by
 intro hm
 have := h.2 c hm
 rw [hc] at this
 cases this
end Go.Proofs.YtmaffdhcmdhjfaaGreatDoor
namespace Go.Proofs.YtmaffdhcmdhjfaaGreatDoor
open Go.RowKit Go.Lib
def textA (f : Nat) (k a b s n : Int) : List UInt8 :=
 if k = 1 then [63]
 else if k = 2 then nameL f a n
 else if k = 3 then nameL f a n ++ 45 :: nameL f b n
 else if k = 4 then nameL f a n ++ 47 :: itoa s
 else if k = 5 then 42 :: 47 :: itoa s
 else if k = 6 then (nameL f a n ++ 45 :: nameL f b n) ++ 47 :: itoa s
 else if k = 8 then [76]
 else if k = 9 then 76 :: 45 :: itoa a
 else if k = 10 then itoa a ++ [87]
 else if k = 11 then [76, 87]
 else if k = 12 then nameL f a n ++ [76]
 else if k = 13 then nameL f a n ++ 35 :: itoa b
 else [42]
def simpleB (f : Nat) (k a b s : Int) : Bool :=
 if k = 2 then decide (leastF f ≤ a) && decide (a ≤ mostF f)
 else if k = 3 then decide (leastF f ≤ a) && decide (a ≤ mostF f) && decide (a ≤ b) && decide (b ≤ mostF f)
 else if k = 4 then decide (leastF f ≤ a) && decide (a ≤ mostF f) && (decide (1 ≤ s) && decide (s ≤ mostF f)) && decide (f < 6)
 else if k = 5 then (decide (1 ≤ s) && decide (s ≤ mostF f)) && decide (f < 6)
 else if k = 6 then decide (leastF f ≤ a) && decide (a ≤ mostF f) && (decide (1 ≤ s) && decide (s ≤ mostF f)) && decide (a ≤ b) && decide (b ≤ mostF f)
 else false
def numsA (f : Nat) (k a b s : Int) : List Int :=
 if k = 2 then stepsL a a 1
 else if k = 3 then stepsL a b 1
 else if k = 4 then stepsL a (mostF f) s
 else if k = 5 then stepsL (leastF f) (mostF f) s
 else if k = 6 then stepsL a b s
 else []
def hiP (f : Nat) : Int := if f = 6 then 3940 else mostF f
theorem hiP_ge (f : Nat) : mostF f ≤ hiP f := by
 unfold hiP
 split
 ·have := most_bd f; omega
 ·omega
theorem hiP_eq {f : Nat} (h : f < 6) : hiP f = mostF f := by unfold hiP; rw [if_neg (by omega)]
structure NameOk (n : Int) : Prop where
 ok : n = 0 ∨ n = 1 ∨ n = 2
theorem stepsL_self (a : Int) : stepsL a a 1 = [a] := by
 unfold stepsL
 simp
theorem within_true {lo hi x : Int} (h : lo ≤ x) (k : x ≤ hi) : within lo hi x = true := by unfold within; simp [h, k]
theorem range_parse {names : List (List UInt8)} {lo hi a b : Int} {A B : List UInt8} (hA : normalizeO names A = some a) (hB : normalizeO names B = some b)
 (wA : Word A) (wB : Word B) (h1 : lo ≤ a) (h2 : a ≤ b) (h3 : b ≤ hi) : rangeO names lo hi (A ++ 45 :: B) = some (stepsL a b 1) := by
 unfold rangeO
 rw [split_two (word_free wA 45 (by decide)) (word_free wB 45 (by decide))]
 simp only [hA, hB]
 rw [within_true h1 (by omega), within_true (by omega) h3]
 simp [h2]
theorem step_parse {names : List (List UInt8)} {lo hi x y st : Int} {A S : List UInt8} (hA : startO names lo hi A = some (x, y)) (hS : atoiO S = some st)
 (nA : (47 : UInt8) ∉ A) (nS : (47 : UInt8) ∉ S) (h1 : lo ≤ x) (h2 : x ≤ y) (h3 : y ≤ hi) (s1 : 1 ≤ st) (s2 : st ≤ hi) : stepO names lo hi (A ++ 47 :: S) = some (stepsL x y st) := by
 unfold stepO
 rw [split_two nA nS]
 simp only [hA, hS]
 rw [within_true h1 (by omega), within_true (by omega) h3, within_true s1 s2]
 simp [h2]
theorem start_star (names : List (List UInt8)) (lo hi : Int) : startO names lo hi [42] = some (lo, hi) := by unfold startO; rw [if_pos rfl]
theorem word_ne_star {A : List UInt8} (h : Word A) : A ≠ [42] := by
 intro e
 exact word_free h 42 (by decide) (by rw [e]; simp)
theorem start_word {names : List (List UInt8)} {lo hi a : Int} {A : List UInt8} (hA : normalizeO names A = some a) (wA : Word A) : startO names lo hi A = some (a, hi) := by
 unfold startO
 rw [if_neg (word_ne_star wA), if_neg (by simpa using word_free wA 45 (by decide)), hA]
 rfl
theorem start_range {names : List (List UInt8)} {lo hi a b : Int} {A B : List UInt8} (hA : normalizeO names A = some a) (hB : normalizeO names B = some b)
 (wA : Word A) (wB : Word B) : startO names lo hi (A ++ 45 :: B) = some (a, b) := by
 unfold startO
 rw [if_neg (by intro e; have : (45 : UInt8) ∈ [42] := by rw [← e]; simp
                simp at this), if_pos (by simp), split_two (word_free wA 45 (by decide)) (word_free wB 45 (by decide))]
 simp only [hA, hB]
theorem itoa_word {s : Int} (h : 0 ≤ s) : Word (itoa s) := by rw [itoa_dec s h]; exact word_dec _
theorem itoa_reads {s : Int} (h : 0 ≤ s) (k : s ≤ 3940) : atoiO (itoa s) = some s := by
 rw [itoa_dec s h, atoi_dec _ (by omega)]
 congr 1; omega
structure Simple (f : Nat) (k a b s n : Int) : Prop where
 h : simpleB f k a b s = true
 n : n = 0 ∨ n = 1 ∨ n = 2
theorem Simple.kind {f : Nat} {k a b s n : Int} (h : Simple f k a b s n) : k = 2 ∨ k = 3 ∨ k = 4 ∨ k = 5 ∨ k = 6 := by
 have := h.h
 unfold simpleB at this
 repeat' split at this
 all_goals first | omega | (simp at this)
theorem simple_range {f : Nat} {a b s n : Int} (h : Simple f 3 a b s n) : leastF f ≤ a ∧ a ≤ b ∧ b ≤ mostF f := by
 have := h.h
 simp [simpleB] at this
 omega
theorem simple_number {f : Nat} {a b s n : Int} (h : Simple f 2 a b s n) : leastF f ≤ a ∧ a ≤ mostF f := by
 have := h.h
 simp [simpleB] at this
 omega
theorem simple_from {f : Nat} {a b s n : Int} (h : Simple f 4 a b s n) : leastF f ≤ a ∧ a ≤ mostF f ∧ 1 ≤ s ∧ s ≤ mostF f ∧ f < 6 := by
 have := h.h
 simp [simpleB] at this
 omega
theorem simple_every {f : Nat} {a b s n : Int} (h : Simple f 5 a b s n) : 1 ≤ s ∧ s ≤ mostF f ∧ f < 6 := by
 have := h.h
 simp [simpleB] at this
 omega
theorem simple_steps {f : Nat} {a b s n : Int} (h : Simple f 6 a b s n) : leastF f ≤ a ∧ a ≤ b ∧ b ≤ mostF f ∧ 1 ≤ s ∧ s ≤ mostF f := by
 have := h.h
 simp [simpleB] at this
 omega
theorem text2 (f : Nat) (a b s n : Int) : textA f 2 a b s n = nameL f a n := by simp [textA]
theorem text3 (f : Nat) (a b s n : Int) : textA f 3 a b s n = nameL f a n ++ 45 :: nameL f b n := by simp [textA]
theorem text4 (f : Nat) (a b s n : Int) : textA f 4 a b s n = nameL f a n ++ 47 :: itoa s := by simp [textA]
theorem text5 (f : Nat) (a b s n : Int) : textA f 5 a b s n = [42] ++ 47 :: itoa s := by simp [textA]
theorem text6 (f : Nat) (a b s n : Int) : textA f 6 a b s n = (nameL f a n ++ 45 :: nameL f b n) ++ 47 :: itoa s := by simp [textA]
theorem least_le_most (f : Nat) : leastF f ≤ mostF f := by
 unfold leastF mostF
 repeat' split
 all_goals omega
theorem number_reads {f : Nat} {a b s n : Int} (h : Simple f 2 a b s n) : normalizeO (namesOf f) (textA f 2 a b s n) = some a ∧ Word (textA f 2 a b s n) := by
 have := simple_number h
 have l := least_bd f
 have m := most_bd f
 rw [text2]
 exact name_reads f a n (by omega) (by omega) h.n
theorem range_reads {f : Nat} {a b s n : Int} (h : Simple f 3 a b s n) : rangeO (namesOf f) (leastF f) (hiP f) (textA f 3 a b s n) = some (numsA f 3 a b s) := by
 have := simple_range h
 have l := least_bd f
 have m := most_bd f
 have p := hiP_ge f
 obtain ⟨r1, w1⟩ := name_reads f a n (by omega) (by omega) h.n
 obtain ⟨r2, w2⟩ := name_reads f b n (by omega) (by omega) h.n
 rw [text3, range_parse r1 r2 w1 w2 (by omega) (by omega) (by omega)]
 simp [numsA]
theorem steps_reads {f : Nat} {k a b s n : Int} (h : Simple f k a b s n) (hk : k = 4 ∨ k = 5 ∨ k = 6) : stepO (namesOf f) (leastF f) (hiP f) (textA f k a b s n) = some (numsA f k a b s) := by
 have l := least_bd f
 have m := most_bd f
 have p := hiP_ge f
 have lm := least_le_most f
 rcases hk with rfl | rfl | rfl
 ·have := simple_from h
  have e := hiP_eq this.2.2.2.2
  obtain ⟨r1, w1⟩ := name_reads f a n (by omega) (by omega) h.n
  rw [text4, step_parse (start_word r1 w1) (itoa_reads (by omega) (by omega)) (word_free w1 47 (by decide)) (word_free (itoa_word (by omega)) 47 (by decide)) (by omega) (by omega) (by omega) (by omega) (by omega)]
  simp [numsA, e]
 ·have := simple_every h
  have e := hiP_eq this.2.2
  rw [text5, step_parse (start_star _ _ _) (itoa_reads (by omega) (by omega)) (by decide) (word_free (itoa_word (by omega)) 47 (by decide)) (by omega) (by omega) (by omega) (by omega) (by omega)]
  simp [numsA, e]
 ·have := simple_steps h
  obtain ⟨r1, w1⟩ := name_reads f a n (by omega) (by omega) h.n
  obtain ⟨r2, w2⟩ := name_reads f b n (by omega) (by omega) h.n
  rw [text6, step_parse (start_range r1 r2 w1 w2) (itoa_reads (by omega) (by omega)) ?_ (word_free (itoa_word (by omega)) 47 (by decide)) (by omega) (by omega) (by omega) (by omega) (by omega)]
  ·simp [numsA]
  ·simp only [List.mem_append, List.mem_cons, not_or]
   exact ⟨word_free w1 47 (by decide), by decide, word_free w2 47 (by decide)⟩
structure Marks (l : List UInt8) (k : Int) : Prop where
 ne : l ≠ []
 chars : ∀ c ∈ l, isWord c = true ∨ c = 42 ∨ c = 45 ∨ c = 47
 c47 : l.contains 47 = true ↔ (k = 4 ∨ k = 5 ∨ k = 6)
 c45 : l.contains 45 = true ↔ (k = 3 ∨ k = 6)
theorem word_marks {l : List UInt8} (h : Word l) (c : UInt8) : c ∈ l → isWord c = true := h.2 c
theorem simple_marks {f : Nat} {k a b s n : Int} (h : Simple f k a b s n) : Marks (textA f k a b s n) k := by
 have l := least_bd f
 have m := most_bd f
 have lm := least_le_most f
 rcases h.kind with rfl | rfl | rfl | rfl | rfl
 ·obtain ⟨_, w⟩ := number_reads h
  exact ⟨w.1, fun c hc => .inl (w.2 c hc), by simpa using word_free w 47 (by decide), by simpa using word_free w 45 (by decide)⟩
 ·have := simple_range h
  obtain ⟨r1, w1⟩ := name_reads f a n (by omega) (by omega) h.n
  obtain ⟨r2, w2⟩ := name_reads f b n (by omega) (by omega) h.n
  rw [text3]
  refine ⟨by simp, ?_, ?_, by simp⟩
  ·intro c hc
   simp only [List.mem_append, List.mem_cons] at hc
   rcases hc with hc | rfl | hc
   ·exact .inl (w1.2 c hc)
   ·simp
   ·exact .inl (w2.2 c hc)
  ·simpa using ⟨word_free w1 47 (by decide), word_free w2 47 (by decide)⟩
 ·have := simple_from h
  obtain ⟨r1, w1⟩ := name_reads f a n (by omega) (by omega) h.n
  have w2 := itoa_word (s := s) (by omega)
  rw [text4]
  refine ⟨by simp, ?_, by simp, ?_⟩
  ·intro c hc
   simp only [List.mem_append, List.mem_cons] at hc
   rcases hc with hc | rfl | hc
   ·exact .inl (w1.2 c hc)
   ·simp
   ·exact .inl (w2.2 c hc)
  ·simpa using ⟨word_free w1 45 (by decide), word_free w2 45 (by decide)⟩
 ·have := simple_every h
  have w2 := itoa_word (s := s) (by omega)
  rw [text5]
  refine ⟨by simp, ?_, by simp, ?_⟩
  ·intro c hc
   simp only [List.mem_append, List.mem_cons] at hc
   rcases hc with hc | rfl | hc
   ·simp at hc; exact .inr (.inl hc)
   ·simp
   ·exact .inl (w2.2 c hc)
  ·simpa using word_free w2 45 (by decide)
 ·have := simple_steps h
  obtain ⟨r1, w1⟩ := name_reads f a n (by omega) (by omega) h.n
  obtain ⟨r2, w2⟩ := name_reads f b n (by omega) (by omega) h.n
  have w3 := itoa_word (s := s) (by omega)
  rw [text6]
  refine ⟨by simp, ?_, by simp, by simp⟩
  intro c hc
  simp only [List.mem_append, List.mem_cons] at hc
  rcases hc with (hc | rfl | hc) | rfl | hc
  ·exact .inl (w1.2 c hc)
  ·simp
  ·exact .inl (w2.2 c hc)
  ·simp
  ·exact .inl (w3.2 c hc)
theorem Marks.free {l : List UInt8} {k : Int} (h : Marks l k) (c : UInt8) (hc : isWord c = false) (h1 : c ≠ 42) (h2 : c ≠ 45) (h3 : c ≠ 47) : c ∉ l := by
 intro hm
 rcases h.chars c hm with e | e | e | e
 ·rw [hc] at e; cases e
 ·exact h1 e
 ·exact h2 e
 ·exact h3 e
theorem Marks.not_any {l : List UInt8} {k : Int} (h : Marks l k) (hk : k = 2 ∨ k = 3 ∨ k = 4 ∨ k = 5 ∨ k = 6) (hw : k = 2 → Word l) : ¬ (l = [42] ∨ l = [63]) := by
 rintro (rfl | rfl)
 ·rcases hk with rfl | rfl | rfl | rfl | rfl
  ·exact word_ne_star (hw rfl) rfl
  ·exact absurd (h.c45.2 (by omega)) (by decide)
  ·exact absurd (h.c47.2 (by omega)) (by decide)
  ·exact absurd (h.c47.2 (by omega)) (by decide)
  ·exact absurd (h.c47.2 (by omega)) (by decide)
 ·exact h.free 63 (by decide) (by decide) (by decide) (by decide) (by simp)
def plainB (f : Nat) (k a b s : Int) : Bool := (k == 0 || k == 1) || simpleB f k a b s
theorem field_atom {f : Nat} {k a b s n : Int} (hn : n = 0 ∨ n = 1 ∨ n = 2) (h : plainB f k a b s = true) :
 fieldO (namesOf f) (leastF f) (hiP f) (textA f k a b s n) = some (numsA f k a b s) := by
 unfold plainB at h
 simp only [Bool.or_eq_true, beq_iff_eq] at h
 rcases h with (rfl | rfl) | h
 ·simp [textA, numsA, fieldO]
 ·simp [textA, numsA, fieldO]
 ·have hs : Simple f k a b s n := ⟨h, hn⟩
  have M := simple_marks hs
  have hne := M.not_any hs.kind (by rintro rfl; exact (number_reads hs).2)
  have h44 : (textA f k a b s n).contains 44 = false := by
   simpa using M.free 44 (by decide) (by decide) (by decide) (by decide)
  unfold fieldO
  rw [if_neg hne, h44]
  simp only [Bool.false_eq_true, if_false]
  rcases hs.kind with rfl | rfl | rfl | rfl | rfl
  ·have e47 : ¬ ((textA f 2 a b s n).contains 47 = true) := by rw [M.c47]; omega
   have e45 : ¬ ((textA f 2 a b s n).contains 45 = true) := by rw [M.c45]; omega
   rw [if_neg e47, if_neg e45, (number_reads hs).1]
   have := simple_number hs
   have p := hiP_ge f
   simp only
   rw [within_true (by omega) (by omega)]
   simp [numsA, stepsL_self]
  ·have e47 : ¬ ((textA f 3 a b s n).contains 47 = true) := by rw [M.c47]; omega
   rw [if_neg e47, if_pos (M.c45.2 (by omega))]
   exact range_reads hs
  ·rw [if_pos (M.c47.2 (by omega))]; exact steps_reads hs (by omega)
  ·rw [if_pos (M.c47.2 (by omega))]; exact steps_reads hs (by omega)
  ·rw [if_pos (M.c47.2 (by omega))]; exact steps_reads hs (by omega)
end Go.Proofs.YtmaffdhcmdhjfaaGreatDoor
namespace Go.Proofs.YtmaffdhcmdhjfaaGreatDoor
open Go.RowKit Go.Lib
theorem sortL_sorted (l : List Int) : (sortL l).Pairwise (· ≤ ·) := by
 have := List.pairwise_mergeSort (le := fun x y : Int => decide (x ≤ y)) (by intro a b c h k; simp at *; omega) (by intro a b; simp; omega) l
 unfold sortL
 exact this.imp (by intro a b h; simpa using h)
theorem sortL_perm (l : List Int) : (sortL l).Perm l := List.mergeSort_perm _ _
theorem sortL_eq {a b : List Int} (h : a.Perm b) : sortL a = sortL b := by
 have hp : (sortL a).Perm (sortL b) := (sortL_perm a).trans (h.trans (sortL_perm b).symm)
 exact hp.eq_of_pairwise (le := (· ≤ ·)) (fun x y _ _ h1 h2 => by omega) (sortL_sorted a) (sortL_sorted b)
def Atom.text (f : Nat) (x : Atom) : List UInt8 := textA f x.k x.a x.b x.s x.n
def Atom.nums (f : Nat) (x : Atom) : List Int := numsA f x.k x.a x.b x.s
def Atom.ok (f : Nat) (x : Atom) : Prop := Simple f x.k x.a x.b x.s x.n
theorem outC_in {c : UInt8} {x : List UInt8} {l : List (List UInt8)} (h : x.contains c = true) : outC c (x :: l) = outC c l := by unfold outC; rw [List.filter_cons, if_neg (by simp only [h]; decide)]
theorem outC_out {c : UInt8} {x : List UInt8} {l : List (List UInt8)} (h : ¬ (x.contains c = true)) : outC c (x :: l) = x :: outC c l := by unfold outC; rw [List.filter_cons, if_pos (by simpa using h)]
theorem inC_in {c : UInt8} {x : List UInt8} {l : List (List UInt8)} (h : x.contains c = true) : inC c (x :: l) = x :: inC c l := by unfold inC; rw [List.filter_cons, if_pos (by simpa using h)]
theorem inC_out {c : UInt8} {x : List UInt8} {l : List (List UInt8)} (h : ¬ (x.contains c = true)) : inC c (x :: l) = inC c l := by unfold inC; rw [List.filter_cons, if_neg (by simpa using h)]
theorem items_parse (f : Nat) : ∀ items : List Atom, (∀ x ∈ items, x.ok f) →
 ∃ zs ss rs, normAll (namesOf f) (outC 45 (outC 47 (items.map (Atom.text f)))) = some zs ∧ catAll (stepO (namesOf f) (leastF f) (hiP f)) (inC 47 (items.map (Atom.text f))) = some ss ∧
  catAll (rangeO (namesOf f) (leastF f) (hiP f)) (inC 45 (outC 47 (items.map (Atom.text f)))) = some rs ∧ (zs ++ ss ++ rs).Perm (items.flatMap (Atom.nums f))
 | [], _ => ⟨[], [], [], rfl, rfl, rfl, List.Perm.nil⟩
 | x :: xs, h => by
   obtain ⟨zs, ss, rs, hz, hs, hr, hp⟩ := items_parse f xs (fun y hy => h y (by simp [hy]))
   have hx : Simple f x.k x.a x.b x.s x.n := h x (by simp)
   have M := simple_marks hx
   rw [List.map_cons, List.flatMap_cons]
   obtain ⟨k, a, b, s, n, it⟩ := x
   simp only at hx M
   have htx : Atom.text f ⟨k, a, b, s, n, it⟩ = textA f k a b s n := rfl
   have hnx : Atom.nums f ⟨k, a, b, s, n, it⟩ = numsA f k a b s := rfl
   rw [htx, hnx]
   rcases hx.kind with rfl | rfl | hk
   ·have e47 : ¬ ((textA f 2 a b s n).contains 47 = true) := by rw [M.c47]; omega
    have e45 : ¬ ((textA f 2 a b s n).contains 45 = true) := by rw [M.c45]; omega
    rw [outC_out e47, outC_out e45, inC_out e47, inC_out e45]
    refine ⟨a :: zs, ss, rs, ?_, hs, hr, ?_⟩
    ·unfold normAll
     rw [(number_reads hx).1]
     simp only [hz, Option.map_some]
    ·have : numsA f 2 a b s = [a] := by simp [numsA, stepsL_self]
     rw [this]
     exact List.Perm.cons a hp
   ·have e47 : ¬ ((textA f 3 a b s n).contains 47 = true) := by rw [M.c47]; omega
    have e45 : (textA f 3 a b s n).contains 45 = true := by rw [M.c45]; omega
    rw [outC_out e47, outC_in e45, inC_out e47, inC_in e45]
    refine ⟨zs, ss, numsA f 3 a b s ++ rs, hz, hs, ?_, ?_⟩
    ·unfold catAll
     rw [range_reads hx]
     simp only [hr, Option.map_some]
    ·refine List.Perm.trans ?_ (List.Perm.append_left _ hp)
     rw [← List.append_assoc]
     refine (List.Perm.append_right rs List.perm_append_comm).trans ?_
     rw [List.append_assoc, List.append_assoc]
   ·have hk' : k = 4 ∨ k = 5 ∨ k = 6 := by omega
    have e47 : (textA f k a b s n).contains 47 = true := by rw [M.c47]; exact hk'
    rw [outC_in e47, inC_in e47]
    refine ⟨zs, numsA f k a b s ++ ss, rs, hz, ?_, hr, ?_⟩
    ·unfold catAll
     rw [steps_reads hx hk']
     simp only [hs, Option.map_some]
    ·refine List.Perm.trans ?_ (List.Perm.append_left _ hp)
     rw [← List.append_assoc, ← List.append_assoc, ← List.append_assoc]
     exact List.Perm.append_right rs (List.Perm.append_right ss List.perm_append_comm)
def textP (f : Nat) (k a b s n : Int) (items : List Atom) : List UInt8 := if k = 7 then joinL 44 (items.map (Atom.text f)) else textA f k a b s n
def numsP (f : Nat) (k a b s : Int) (items : List Atom) : List Int := if k = 7 then sortL (items.flatMap (Atom.nums f)) else numsA f k a b s
structure ListOk (f : Nat) (items : List Atom) : Prop where
 two : 2 ≤ items.length
 ok : ∀ x ∈ items, x.ok f
theorem item_free44 {f : Nat} {x : Atom} (h : x.ok f) : (44 : UInt8) ∉ x.text f := (simple_marks h).free 44 (by decide) (by decide) (by decide) (by decide)
theorem join_mem (c : UInt8) : ∀ (L : List (List UInt8)) (d : UInt8), d ∈ joinL c L → d = c ∨ ∃ x ∈ L, d ∈ x
 | [], d, h => by simp [joinL] at h
 | [x], d, h => .inr ⟨x, by simp, h⟩
 | x :: y :: r, d, h => by
   have h' : d ∈ x ++ c :: joinL c (y :: r) := h
   simp only [List.mem_append, List.mem_cons] at h'
   rcases h' with h' | rfl | h'
   ·exact .inr ⟨x, by simp, h'⟩
   ·exact .inl rfl
   ·rcases join_mem c (y :: r) d h' with e | ⟨z, hz, e⟩
    ·exact .inl e
    ·exact .inr ⟨z, by simp only [List.mem_cons] at hz ⊢; exact .inr hz, e⟩
theorem join_has (c : UInt8) : ∀ (L : List (List UInt8)), 2 ≤ L.length → c ∈ joinL c L
 | [], h => by simp at h
 | [x], h => by simp at h
 | x :: y :: r, _ => by
   show c ∈ x ++ c :: joinL c (y :: r)
   simp
theorem list_field {f : Nat} {items : List Atom} (h : ListOk f items) :
 fieldO (namesOf f) (leastF f) (hiP f) (joinL 44 (items.map (Atom.text f))) = some (sortL (items.flatMap (Atom.nums f))) := by
 have h44 : (44 : UInt8) ∈ joinL 44 (items.map (Atom.text f)) := join_has 44 _ (by simpa using h.two)
 unfold fieldO
 rw [if_neg (by rintro (e | e) <;> (rw [e] at h44; simp at h44)), if_pos (by simpa using h44)]
 unfold listO
 rw [split_join 44 _ (by intro e; have := h.two; simp at e; subst e; simp at this) (by
  intro x hx
  simp only [List.mem_map] at hx
  obtain ⟨y, hy, rfl⟩ := hx
  exact item_free44 (h.ok y hy))]
 obtain ⟨zs, ss, rs, hz, hs, hr, hp⟩ := items_parse f items h.ok
 simp only [hz, hs, hr]
 rw [sortL_eq hp]
inductive Common (f : Nat) (k a b s : Int) (items : List Atom) : Prop where
 | plain : k ≠ 7 → plainB f k a b s = true → Common f k a b s items
 | list : k = 7 → ListOk f items → Common f k a b s items
theorem field_common {f : Nat} {k a b s n : Int} {items : List Atom} (hn : n = 0 ∨ n = 1 ∨ n = 2) (h : Common f k a b s items) :
 fieldO (namesOf f) (leastF f) (hiP f) (textP f k a b s n items) = some (numsP f k a b s items) := by
 cases h with
 | plain hk h =>
   unfold textP numsP
   rw [if_neg hk, if_neg hk]
   exact field_atom hn h
 | list hk h =>
   unfold textP numsP
   rw [if_pos hk, if_pos hk]
   exact list_field h
def okC (c : UInt8) : Prop := isWord c = true ∨ c = 35 ∨ c = 42 ∨ c = 44 ∨ c = 45 ∨ c = 47 ∨ c = 63
theorem name_free {f : Nat} (hf : f ≠ 4) {a n : Int} (h0 : 0 ≤ a) (hn : n = 0 ∨ n = 1 ∨ n = 2) : (76 : UInt8) ∉ nameL f a n ∧ (f ≠ 5 → (87 : UInt8) ∉ nameL f a n) := by
 by_cases h5 : f = 5 ∧ 1 ≤ a ∧ a ≤ 7
 ·obtain ⟨rfl, k1, k2⟩ := h5
  have : a = 1 ∨ a = 2 ∨ a = 3 ∨ a = 4 ∨ a = 5 ∨ a = 6 ∨ a = 7 := by omega
  refine ⟨?_, fun h => absurd rfl h⟩
  rcases hn with rfl | rfl | rfl
  ·have : nameL 5 a 0 = decDigits a.toNat := by unfold nameL; rw [if_pos rfl, itoa_dec a h0]
   rw [this]
   intro hm
   have := dec_dig _ _ hm
   revert this
   decide
  ·rcases this with rfl | rfl | rfl | rfl | rfl | rfl | rfl <;> decide
  ·rcases this with rfl | rfl | rfl | rfl | rfl | rfl | rfl <;> decide
 ·rw [num_name n (by omega) h5 h0]
  exact ⟨fun hm => absurd (dec_dig _ _ hm) (by decide), fun _ hm => absurd (dec_dig _ _ hm) (by decide)⟩
theorem itoa_free {s : Int} (h : 0 ≤ s) : (76 : UInt8) ∉ itoa s ∧ (87 : UInt8) ∉ itoa s := by
 rw [itoa_dec s h]
 exact ⟨fun hm => absurd (dec_dig _ _ hm) (by decide), fun hm => absurd (dec_dig _ _ hm) (by decide)⟩
theorem atom_free {f : Nat} (hf : f ≠ 4) {k a b s n : Int} (h : Simple f k a b s n) : (76 : UInt8) ∉ textA f k a b s n ∧ (f ≠ 5 → (87 : UInt8) ∉ textA f k a b s n) := by
 have l := least_bd f
 have m := most_bd f
 have hn := h.n
 rcases h.kind with rfl | rfl | rfl | rfl | rfl
 ·have := simple_number h
  rw [text2]
  exact name_free hf (by omega) hn
 ·have := simple_range h
  rw [text3]
  have A := name_free hf (a := a) (by omega) hn
  have B := name_free hf (a := b) (by omega) hn
  refine ⟨?_, fun h5 => ?_⟩
  ·simp only [List.mem_append, List.mem_cons, not_or]; exact ⟨A.1, by decide, B.1⟩
  ·simp only [List.mem_append, List.mem_cons, not_or]; exact ⟨A.2 h5, by decide, B.2 h5⟩
 ·have := simple_from h
  rw [text4]
  have A := name_free hf (a := a) (by omega) hn
  have B := itoa_free (s := s) (by omega)
  refine ⟨?_, fun h5 => ?_⟩
  ·simp only [List.mem_append, List.mem_cons, not_or]; exact ⟨A.1, by decide, B.1⟩
  ·simp only [List.mem_append, List.mem_cons, not_or]; exact ⟨A.2 h5, by decide, B.2⟩
 ·have := simple_every h
  rw [text5]
  have B := itoa_free (s := s) (by omega)
  refine ⟨?_, fun h5 => ?_⟩
  ·simp only [List.mem_append, List.mem_cons, not_or]; exact ⟨by decide, by decide, B.1⟩
  ·simp only [List.mem_append, List.mem_cons, not_or]; exact ⟨by decide, by decide, B.2⟩
 ·have := simple_steps h
  rw [text6]
  have A := name_free hf (a := a) (by omega) hn
  have B := name_free hf (a := b) (by omega) hn
  have C := itoa_free (s := s) (by omega)
  refine ⟨?_, fun h5 => ?_⟩
  ·simp only [List.mem_append, List.mem_cons, not_or]; exact ⟨⟨A.1, by decide, B.1⟩, by decide, C.1⟩
  ·simp only [List.mem_append, List.mem_cons, not_or]; exact ⟨⟨A.2 h5, by decide, B.2 h5⟩, by decide, C.2⟩
theorem plain_or {f : Nat} {k a b s n : Int} (hn : n = 0 ∨ n = 1 ∨ n = 2) (h : plainB f k a b s = true) : (k = 0 ∨ k = 1) ∨ Simple f k a b s n := by
 unfold plainB at h
 simp only [Bool.or_eq_true, beq_iff_eq] at h
 rcases h with h | h
 ·exact .inl h
 ·exact .inr ⟨h, hn⟩
theorem common_free {f : Nat} (hf : f ≠ 4) {k a b s n : Int} {items : List Atom} (hn : n = 0 ∨ n = 1 ∨ n = 2) (h : Common f k a b s items) :
 (76 : UInt8) ∉ textP f k a b s n items ∧ (f ≠ 5 → (87 : UInt8) ∉ textP f k a b s n items) := by
 unfold textP
 cases h with
 | plain hk h =>
   rw [if_neg hk]
   rcases plain_or hn h with (rfl | rfl) | h
   ·refine ⟨?_, fun _ => ?_⟩ <;> simp [textA]
   ·refine ⟨?_, fun _ => ?_⟩ <;> simp [textA]
   ·exact atom_free hf h
 | list hk h =>
   rw [if_pos hk]
   refine ⟨fun hm => ?_, fun h5 hm => ?_⟩
   ·rcases join_mem _ _ _ hm with e | ⟨x, hx, e⟩
    ·revert e; decide
    ·simp only [List.mem_map] at hx
     obtain ⟨y, hy, rfl⟩ := hx
     exact (atom_free hf (h.ok y hy)).1 e
   ·rcases join_mem _ _ _ hm with e | ⟨x, hx, e⟩
    ·revert e; decide
    ·simp only [List.mem_map] at hx
     obtain ⟨y, hy, rfl⟩ := hx
     exact (atom_free hf (h.ok y hy)).2 h5 e
theorem common_ok {f : Nat} {k a b s n : Int} {items : List Atom} (hn : n = 0 ∨ n = 1 ∨ n = 2) (h : Common f k a b s items) :
 textP f k a b s n items ≠ [] ∧ ∀ c ∈ textP f k a b s n items, okC c ∧ c ≠ 35 := by
 unfold textP
 have simple : ∀ {k a b s n : Int}, Simple f k a b s n → ∀ c ∈ textA f k a b s n, okC c ∧ c ≠ 35 := by
  intro k a b s n h c hc
  rcases (simple_marks h).chars c hc with e | e | e | e
  ·exact ⟨.inl e, by rintro rfl; revert e; decide⟩
  ·subst e; exact ⟨by unfold okC; simp, by decide⟩
  ·subst e; exact ⟨by unfold okC; simp, by decide⟩
  ·subst e; exact ⟨by unfold okC; simp, by decide⟩
 cases h with
 | plain hk h =>
   rw [if_neg hk]
   rcases plain_or hn h with (rfl | rfl) | h
   ·refine ⟨by simp [textA], ?_⟩
    intro c hc
    simp [textA] at hc
    subst hc
    exact ⟨by unfold okC; simp, by decide⟩
   ·refine ⟨by simp [textA], ?_⟩
    intro c hc
    simp [textA] at hc
    subst hc
    exact ⟨by unfold okC; simp, by decide⟩
   ·exact ⟨(simple_marks h).ne, simple h⟩
 | list hk h =>
   rw [if_pos hk]
   refine ⟨fun e => ?_, fun c hc => ?_⟩
   ·have := join_has 44 (items.map (Atom.text f)) (by simpa using h.two)
    rw [e] at this
    simp at this
   ·rcases join_mem _ _ _ hc with e | ⟨x, hx, e⟩
    ·subst e; exact ⟨by unfold okC; simp, by decide⟩
    ·simp only [List.mem_map] at hx
     obtain ⟨y, hy, rfl⟩ := hx
     exact simple (h.ok y hy) c e
end Go.Proofs.YtmaffdhcmdhjfaaGreatDoor
namespace Go.Proofs.YtmaffdhcmdhjfaaGreatDoor
open Go.RowKit
theorem wp_region_cls {T : Type} (g : T → World) {P : Program} {id : Nat} {Q : Exit → Act → World → Prop} {a : Act} {w : World} {l : List Oper} (hm : P.follows .mixedOrders = true) (hB : Region.lexB .any l.toArray = true)
 (hC : ∃ t, w.drew = g t) (h : wpQuiet P l.toArray (fun w' => ∃ t, w' = g t) (fun a' => ∀ w', (∃ t, w' = g t) → Q .normal a' w') l a) : (Code.region id l.toArray true).wp P Q a w :=
 wp_region_quiet (C := fun w' => ∃ t, w' = g t) hm hB hC (by simpa using h)
theorem cls_intro (S : World → Prop) (w : World) (h : S w.drew) : ∃ (T : Type) (g : T → World), Nonempty T ∧ (∃ t, w.drew = g t) ∧ (∀ t, S (g t)) ∧ (∀ W, S W → ∃ t, W = g t) :=
 ⟨{W : World // S W}, Subtype.val, ⟨⟨_, h⟩⟩, ⟨⟨_, h⟩, rfl⟩, fun t => t.2, fun W hW => ⟨⟨W, hW⟩, rfl⟩⟩
theorem calls_cls {T : Type} {g : T → World} {P : Program} {f : FuncId} {args : Array Value} {t : T} {v : Value} {S : World → Prop} (hI : ∀ W, S W → ∃ t, W = g t)
 (h : Calls P f args (g t) fun e w' => e = .returned v ∧ S w') : Calls P f args (g t) fun e w'' => e = .returned v ∧ ∃ t', w'' = g t' :=
 h.mono fun _ _ ⟨he, hm⟩ => ⟨he, hI _ hm⟩
end Go.Proofs.YtmaffdhcmdhjfaaGreatDoor
namespace Go.Proofs.YtmaffdhcmdhjfaaGreatDoor
open Go.RowKit Go.Lib
def Boxed (w : World) (k a b s : Int) (W : World) : Prop :=
 Ext w W ∧ W.cell? ⟨w.heap.size, 0, none⟩ = some (.int .i64 k) ∧ W.cell? ⟨w.heap.size, 1, none⟩ = some (.int .i64 a) ∧ W.cell? ⟨w.heap.size, 2, none⟩ = some (.int .i64 b) ∧ W.cell? ⟨w.heap.size, 3, none⟩ = some (.int .i64 s)
theorem Boxed.step {w : World} {k a b s : Int} {W W' : World} (h : Boxed w k a b s W) (x : Ext W W') : Boxed w k a b s W' :=
 ⟨h.1.trans x, x.cell h.2.1, x.cell h.2.2.1, x.cell h.2.2.2.1, x.cell h.2.2.2.2⟩
theorem Boxed.drew {w : World} {k a b s : Int} {W : World} (h : Boxed w k a b s W) : Boxed w k a b s W.drew := h.step (Ext.drew _)
set_option maxHeartbeats 3200000 in
set_option maxRecDepth 1000000 in
theorem simple_any (f : Nat) (hf : f < 7) (k a b s n : Int) (it : Value) (w : World) :
 Calls Tryz.prog 59 #[.int .i64 f, .agg #[.int .i64 k, .int .i64 a, .int .i64 b, .int .i64 s, .int .i64 n, it]] w fun e w' => e = .returned (.bool (simpleB f k a b s)) ∧ Ext w w' := by
 obtain ⟨lo, hlo⟩ : ∃ lo, lo = leastF f := ⟨_, rfl⟩
 obtain ⟨hi, hhi⟩ : ∃ hi, hi = mostF f := ⟨_, rfl⟩
 have HLs : Hid (∀ W, Boxed w k a b s W → Calls Tryz.prog 58 #[.int .i64 f] W fun e W' => e = .returned (.int .i64 lo) ∧ Boxed w k a b s W') := fun W hW => by
  rw [hlo]
  refine (least_any f hf W).mono ?_
  rintro e w1 ⟨rfl, x⟩
  exact ⟨rfl, hW.step x⟩
 have HMs : Hid (∀ W, Boxed w k a b s W → Calls Tryz.prog 57 #[.int .i64 f] W fun e W' => e = .returned (.int .i64 hi) ∧ Boxed w k a b s W') := fun W hW => by
  rw [hhi]
  refine (most_any f hf W).mono ?_
  rintro e w1 ⟨rfl, x⟩
  exact ⟨rfl, hW.step x⟩
 obtain ⟨within, hwi⟩ : ∃ x, x = (decide (lo ≤ a) && decide (a ≤ hi)) := ⟨_, rfl⟩
 obtain ⟨step, hst⟩ : ∃ x, x = (decide (1 ≤ s) && decide (s ≤ hi)) := ⟨_, rfl⟩
 have HR : Hid (simpleB f k a b s = if k = 2 then within else if k = 3 then within && decide (a ≤ b) && decide (b ≤ hi) else if k = 4 then within && step && decide (f < 6) else if k = 5 then step && decide (f < 6) else if k = 6 then within && step && decide (a ≤ b) && decide (b ≤ hi) else false) := by
  show _ = _
  rw [hwi, hst, hlo, hhi]; rfl
 clear hlo hhi
 have Hb0 : Hid (Boxed w k a b s (w.alloc (.cells #[.int .i64 k, .int .i64 a, .int .i64 b, .int .i64 s, .int .i64 n, it] 24))) :=
  ⟨Ext.alloc _ _, by simp, by simp, by simp, by simp⟩
 have Hwi := Lib.hid hwi
 have Hst := Lib.hid hst
 clear hwi hst
 go_enter Tryz.func59, Tryz.ntmps59
 go_upto_region 1 with fail
 go_cut [5] (fun v5 W => v5 = .bool within ∧ Hid (Boxed w k a b s W))
 case first =>
  have HB := Hb0
  rcases h1 : decide (lo ≤ a)
  ·have Hw : Hid (within = false) := by show _ = _; rw [Hwi.out, h1]; rfl
   obtain ⟨T, g, hT, h0, hS, hI⟩ := cls_intro (Boxed w _ a b s) _ (Boxed.drew HB.out)
   have c0 := fun t => (hS t).2.1
   have c1 := fun t => (hS t).2.2.1
   have c2 := fun t => (hS t).2.2.2.1
   have c3 := fun t => (hS t).2.2.2.2
   have HS := Lib.hid hS
   have HI := Lib.hid hI
   clear hS hI
   refine wp_region_cls g (by kernel_rfl) (by kernel_rfl) h0 ?_
   clear h0
   repeat (go_big_quiet_step (first
    | (go_at_call 58; exact calls_cls HI.out (HLs.out _ (HS.out _)))
    | (go_at_call 57; exact calls_cls HI.out (HMs.out _ (HS.out _)))))
   refine wpQuiet_nil ?_
   rintro _ ⟨t, rfl⟩
   clear c0 c1 c2 c3
   go_wp2_with fail
   go_meet
   exact ⟨by rw [Hw.out], HS.out t⟩
  ·have Hw : Hid (within = decide (a ≤ hi)) := by show _ = _; rw [Hwi.out, h1]; rfl
   obtain ⟨T, g, hT, h0, hS, hI⟩ := cls_intro (Boxed w _ a b s) _ (Boxed.drew HB.out)
   have c0 := fun t => (hS t).2.1
   have c1 := fun t => (hS t).2.2.1
   have c2 := fun t => (hS t).2.2.2.1
   have c3 := fun t => (hS t).2.2.2.2
   have HS := Lib.hid hS
   have HI := Lib.hid hI
   clear hS hI
   refine wp_region_cls g (by kernel_rfl) (by kernel_rfl) h0 ?_
   clear h0
   repeat (go_big_quiet_step (first
    | (go_at_call 58; exact calls_cls HI.out (HLs.out _ (HS.out _)))
    | (go_at_call 57; exact calls_cls HI.out (HMs.out _ (HS.out _)))))
   refine wpQuiet_nil ?_
   rintro _ ⟨t, rfl⟩
   clear c0 c1 c2 c3
   go_wp2_with fail
   go_meet
   exact ⟨by rw [Hw.out], HS.out t⟩
 case rest =>
  obtain ⟨rfl, HB⟩ := hcut
  clear Hb0
  go_upto_region 2 with fail
  go_cut [6] (fun v6 W => v6 = .bool step ∧ Hid (Boxed w k a b s W))
  case first =>
   rcases h1 : decide (1 ≤ s)
   ·have Hw : Hid (step = false) := by show _ = _; rw [Hst.out, h1]; rfl
    obtain ⟨T, g, hT, h0, hS, hI⟩ := cls_intro (Boxed w _ a b s) _ (Boxed.drew HB.out)
    have c0 := fun t => (hS t).2.1
    have c1 := fun t => (hS t).2.2.1
    have c2 := fun t => (hS t).2.2.2.1
    have c3 := fun t => (hS t).2.2.2.2
    have HS := Lib.hid hS
    have HI := Lib.hid hI
    clear hS hI
    refine wp_region_cls g (by kernel_rfl) (by kernel_rfl) h0 ?_
    clear h0
    repeat (go_big_quiet_step (first
     | (go_at_call 58; exact calls_cls HI.out (HLs.out _ (HS.out _)))
     | (go_at_call 57; exact calls_cls HI.out (HMs.out _ (HS.out _)))))
    refine wpQuiet_nil ?_
    rintro _ ⟨t, rfl⟩
    clear c0 c1 c2 c3
    go_wp2_with fail
    go_meet
    exact ⟨by rw [Hw.out], HS.out t⟩
   ·have Hw : Hid (step = decide (s ≤ hi)) := by show _ = _; rw [Hst.out, h1]; rfl
    obtain ⟨T, g, hT, h0, hS, hI⟩ := cls_intro (Boxed w _ a b s) _ (Boxed.drew HB.out)
    have c0 := fun t => (hS t).2.1
    have c1 := fun t => (hS t).2.2.1
    have c2 := fun t => (hS t).2.2.2.1
    have c3 := fun t => (hS t).2.2.2.2
    have HS := Lib.hid hS
    have HI := Lib.hid hI
    clear hS hI
    refine wp_region_cls g (by kernel_rfl) (by kernel_rfl) h0 ?_
    clear h0
    repeat (go_big_quiet_step (first
     | (go_at_call 58; exact calls_cls HI.out (HLs.out _ (HS.out _)))
     | (go_at_call 57; exact calls_cls HI.out (HMs.out _ (HS.out _)))))
    refine wpQuiet_nil ?_
    rintro _ ⟨t, rfl⟩
    clear c0 c1 c2 c3
    go_wp2_with fail
    go_meet
    exact ⟨by rw [Hw.out], HS.out t⟩
  case rest =>
   obtain ⟨rfl, HB⟩ := hcut
   clear Hwi Hst
   have c0 := HB.out.2.1
   by_cases k2 : k = 2
   ·subst k2
    go_wp2_with fail
    go_ret
    exact ⟨ret_bool (by rw [HR.out]; simp), HB.out.1⟩
   ·by_cases k3 : k = 3
    ·subst k3
     rcases within
     ·skip
      go_wp2_with fail
      obtain ⟨T, g, hT, h0, hS, hI⟩ := cls_intro (Boxed w _ a b s) _ (Boxed.drew HB.out)
      have c0 := fun t => (hS t).2.1
      have c1 := fun t => (hS t).2.2.1
      have c2 := fun t => (hS t).2.2.2.1
      have c3 := fun t => (hS t).2.2.2.2
      have HS := Lib.hid hS
      have HI := Lib.hid hI
      clear hS hI
      refine wp_region_cls g (by kernel_rfl) (by kernel_rfl) h0 ?_
      clear h0
      repeat (go_big_quiet_step (first
       | (go_at_call 58; exact calls_cls HI.out (HLs.out _ (HS.out _)))
       | (go_at_call 57; exact calls_cls HI.out (HMs.out _ (HS.out _)))))
      refine wpQuiet_nil ?_
      rintro _ ⟨t, rfl⟩
      clear c0 c1 c2 c3
      go_wp2_with fail
      go_ret
      exact ⟨ret_bool (by rw [HR.out]; simp []), (HS.out t).1⟩
     ·skip
      rcases hab : decide (a ≤ b)
      ·have Hab := Lib.hid hab
       go_wp2_with fail
       obtain ⟨T, g, hT, h0, hS, hI⟩ := cls_intro (Boxed w _ a b s) _ (Boxed.drew HB.out)
       have c0 := fun t => (hS t).2.1
       have c1 := fun t => (hS t).2.2.1
       have c2 := fun t => (hS t).2.2.2.1
       have c3 := fun t => (hS t).2.2.2.2
       have HS := Lib.hid hS
       have HI := Lib.hid hI
       clear hS hI
       refine wp_region_cls g (by kernel_rfl) (by kernel_rfl) h0 ?_
       clear h0
       repeat (go_big_quiet_step (first
        | (go_at_call 58; exact calls_cls HI.out (HLs.out _ (HS.out _)))
        | (go_at_call 57; exact calls_cls HI.out (HMs.out _ (HS.out _)))))
       refine wpQuiet_nil ?_
       rintro _ ⟨t, rfl⟩
       clear c0 c1 c2 c3
       go_wp2_with fail
       go_ret
       exact ⟨ret_bool (by rw [HR.out]; simp [Hab.out]), (HS.out t).1⟩
      ·have Hab := Lib.hid hab
       go_wp2_with fail
       obtain ⟨T, g, hT, h0, hS, hI⟩ := cls_intro (Boxed w _ a b s) _ (Boxed.drew HB.out)
       have c0 := fun t => (hS t).2.1
       have c1 := fun t => (hS t).2.2.1
       have c2 := fun t => (hS t).2.2.2.1
       have c3 := fun t => (hS t).2.2.2.2
       have HS := Lib.hid hS
       have HI := Lib.hid hI
       clear hS hI
       refine wp_region_cls g (by kernel_rfl) (by kernel_rfl) h0 ?_
       clear h0
       repeat (go_big_quiet_step (first
        | (go_at_call 58; exact calls_cls HI.out (HLs.out _ (HS.out _)))
        | (go_at_call 57; exact calls_cls HI.out (HMs.out _ (HS.out _)))))
       refine wpQuiet_nil ?_
       rintro _ ⟨t, rfl⟩
       clear c0 c1 c2 c3
       go_wp2_with fail
       go_ret
       exact ⟨ret_bool (by rw [HR.out]; simp [Hab.out]), (HS.out t).1⟩
    ·by_cases k4 : k = 4
     ·subst k4
      have hf' : decide ((f : Int) < 6) = decide (f < 6) := by congr 1; apply propext; omega
      rcases hf6 : decide (f < 6)
      all_goals
       rw [hf6] at hf'
       have Hf := Lib.hid hf6
       clear hf6
       rcases within <;> rcases step
       all_goals
        go_wp2_with fail
        go_ret
        exact ⟨ret_bool (by rw [HR.out, Hf.out]; simp), HB.out.1⟩
     ·by_cases k5 : k = 5
      ·subst k5
       have hf' : decide ((f : Int) < 6) = decide (f < 6) := by congr 1; apply propext; omega
       rcases hf6 : decide (f < 6)
       all_goals
        rw [hf6] at hf'
        have Hf := Lib.hid hf6
        clear hf6
        rcases step
        all_goals
         go_wp2_with fail
         go_ret
         exact ⟨ret_bool (by rw [HR.out, Hf.out]; simp), HB.out.1⟩
      ·by_cases k6 : k = 6
       ·subst k6
        rcases within
        ·skip
         go_wp2_with fail
         obtain ⟨T, g, hT, h0, hS, hI⟩ := cls_intro (Boxed w _ a b s) _ (Boxed.drew HB.out)
         have c0 := fun t => (hS t).2.1
         have c1 := fun t => (hS t).2.2.1
         have c2 := fun t => (hS t).2.2.2.1
         have c3 := fun t => (hS t).2.2.2.2
         have HS := Lib.hid hS
         have HI := Lib.hid hI
         clear hS hI
         refine wp_region_cls g (by kernel_rfl) (by kernel_rfl) h0 ?_
         clear h0
         repeat (go_big_quiet_step (first
          | (go_at_call 58; exact calls_cls HI.out (HLs.out _ (HS.out _)))
          | (go_at_call 57; exact calls_cls HI.out (HMs.out _ (HS.out _)))))
         refine wpQuiet_nil ?_
         rintro _ ⟨t, rfl⟩
         clear c0 c1 c2 c3
         go_wp2_with fail
         go_ret
         exact ⟨ret_bool (by rw [HR.out]; simp []), (HS.out t).1⟩
        ·rcases step
         ·skip
          go_wp2_with fail
          obtain ⟨T, g, hT, h0, hS, hI⟩ := cls_intro (Boxed w _ a b s) _ (Boxed.drew HB.out)
          have c0 := fun t => (hS t).2.1
          have c1 := fun t => (hS t).2.2.1
          have c2 := fun t => (hS t).2.2.2.1
          have c3 := fun t => (hS t).2.2.2.2
          have HS := Lib.hid hS
          have HI := Lib.hid hI
          clear hS hI
          refine wp_region_cls g (by kernel_rfl) (by kernel_rfl) h0 ?_
          clear h0
          repeat (go_big_quiet_step (first
           | (go_at_call 58; exact calls_cls HI.out (HLs.out _ (HS.out _)))
           | (go_at_call 57; exact calls_cls HI.out (HMs.out _ (HS.out _)))))
          refine wpQuiet_nil ?_
          rintro _ ⟨t, rfl⟩
          clear c0 c1 c2 c3
          go_wp2_with fail
          go_ret
          exact ⟨ret_bool (by rw [HR.out]; simp []), (HS.out t).1⟩
         ·skip
          rcases hab : decide (a ≤ b)
          ·have Hab := Lib.hid hab
           go_wp2_with fail
           obtain ⟨T, g, hT, h0, hS, hI⟩ := cls_intro (Boxed w _ a b s) _ (Boxed.drew HB.out)
           have c0 := fun t => (hS t).2.1
           have c1 := fun t => (hS t).2.2.1
           have c2 := fun t => (hS t).2.2.2.1
           have c3 := fun t => (hS t).2.2.2.2
           have HS := Lib.hid hS
           have HI := Lib.hid hI
           clear hS hI
           refine wp_region_cls g (by kernel_rfl) (by kernel_rfl) h0 ?_
           clear h0
           repeat (go_big_quiet_step (first
            | (go_at_call 58; exact calls_cls HI.out (HLs.out _ (HS.out _)))
            | (go_at_call 57; exact calls_cls HI.out (HMs.out _ (HS.out _)))))
           refine wpQuiet_nil ?_
           rintro _ ⟨t, rfl⟩
           clear c0 c1 c2 c3
           go_wp2_with fail
           go_ret
           exact ⟨ret_bool (by rw [HR.out]; simp [Hab.out]), (HS.out t).1⟩
          ·have Hab := Lib.hid hab
           go_wp2_with fail
           obtain ⟨T, g, hT, h0, hS, hI⟩ := cls_intro (Boxed w _ a b s) _ (Boxed.drew HB.out)
           have c0 := fun t => (hS t).2.1
           have c1 := fun t => (hS t).2.2.1
           have c2 := fun t => (hS t).2.2.2.1
           have c3 := fun t => (hS t).2.2.2.2
           have HS := Lib.hid hS
           have HI := Lib.hid hI
           clear hS hI
           refine wp_region_cls g (by kernel_rfl) (by kernel_rfl) h0 ?_
           clear h0
           repeat (go_big_quiet_step (first
            | (go_at_call 58; exact calls_cls HI.out (HLs.out _ (HS.out _)))
            | (go_at_call 57; exact calls_cls HI.out (HMs.out _ (HS.out _)))))
           refine wpQuiet_nil ?_
           rintro _ ⟨t, rfl⟩
           clear c0 c1 c2 c3
           go_wp2_with fail
           go_ret
           exact ⟨ret_bool (by rw [HR.out]; simp [Hab.out]), (HS.out t).1⟩
       ·have K := Lib.hid (show k ≠ 2 ∧ k ≠ 3 ∧ k ≠ 4 ∧ k ≠ 5 ∧ k ≠ 6 from ⟨k2, k3, k4, k5, k6⟩)
        have e2 : (k == 2) = false := by rw [beq_eq_false_iff_ne]; exact k2
        have e3 : (k == 3) = false := by rw [beq_eq_false_iff_ne]; exact k3
        have e4 : (k == 4) = false := by rw [beq_eq_false_iff_ne]; exact k4
        have e5 : (k == 5) = false := by rw [beq_eq_false_iff_ne]; exact k5
        have e6 : (k == 6) = false := by rw [beq_eq_false_iff_ne]; exact k6
        clear k2 k3 k4 k5 k6
        go_wp2_with fail
        go_ret
        exact ⟨ret_bool (by rw [HR.out]; simp [K.out.1, K.out.2.1, K.out.2.2.1, K.out.2.2.2.1, K.out.2.2.2.2]), HB.out.1⟩
end Go.Proofs.YtmaffdhcmdhjfaaGreatDoor
