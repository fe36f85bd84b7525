/- isText, special, zzTrimmed. special, parseCronExpression, ValidateCronExpression and what calls them. trimCronExpression, ValidateCronExpression, ZZFields, and impl.Valid, Trimmed, Fields. impl.Fields. -/
import Derived.Test.YtmaffdhcmdhjfaaGreatDoorNB
set_option linter.unusedSimpArgs false
set_option linter.unusedVariables false
namespace Go.Proofs.YtmaffdhcmdhjfaaGreatDoor
open Go.RowKit Go.Lib
def asciiB (l : List UInt8) : Bool := l.all fun c => decide (c.toNat ≤ 127)
def isTextB (l : List UInt8) : Bool := asciiB l && decide (l.length ≤ 120)
set_option maxHeartbeats 800000 in
theorem is_text (s : ByteArray) (w : World) (hs : s.size ≤ 100000000) :
 Calls Tryz.prog 38 #[.string s] w fun e w' => e = .returned (.bool (isTextB (bytes s))) ∧ w = w' := by
 go_enter Tryz.func38, Tryz.ntmps38
 go_wp2
 go_loop [3] (fun i => ∃ k : Nat, k ≤ s.size ∧ i = .int .i64 k ∧ Hid (asciiB ((bytes s).take k) = true)) (fun i => s.size - (RowKit.intOf i).toNat)
 case atStart => exact ⟨0, Nat.zero_le _, rfl, by show _ = _; simp [asciiB]⟩
 case round =>
  obtain ⟨k, hk, rfl, Hn⟩ := hrel
  by_cases hlt : k < s.size
  ·by_cases he : s[k].toNat ≤ 127
   ·have h1 : decide (127 < (s[k].toNat : Int)) = false := by simp; omega
    have hd : asciiB ((bytes s).take (k + 1)) = true := by
     have := Hn.out
     unfold asciiB at this ⊢
     rw [take_snoc s k hlt, List.all_append, this]; simpa using he
    have Hd := Lib.hid hd
    clear hd
    go_wp2
    go_round
    case rel => exact ⟨k + 1, by omega, by go_num, Hd⟩
    case measure => simp [RowKit.intOf]; omega
   ·have h1 : decide (127 < (s[k].toNat : Int)) = true := by simp; omega
    have hb : isTextB (bytes s) = false := by
     rw [bytes_split s k hlt]
     simp [isTextB, asciiB, he]
    have Hb := Lib.hid hb
    clear hb
    go_wp2
    go_ret
    exact ⟨ret_bool Hb.out.symm, rfl⟩
  ·have hb : isTextB (bytes s) = decide ((s.size : Int) ≤ 120) := by
    have := Hn.out
    rw [take_all s k (by omega)] at this
    rw [isTextB, this, bytes_length, Bool.true_and]
    exact decide_eq_decide.mpr (by omega)
   have Hb := Lib.hid hb
   clear hb
   go_wp2
   all_goals go_ret
   all_goals (refine ⟨ret_bool ?_, rfl⟩; rw [Hb.out]; try simp; try omega)
def isWs (c : UInt8) : Bool := c == 32 || (c == 9 || (c == 10 || (c == 12 || c == 13)))
def sp (c : UInt8) : Bool := c == 32 || c == 11
def colStep (out : List UInt8) (c : UInt8) : List UInt8 :=
 if isWs c then (if out.getLast? = some 32 then out else out ++ [32]) else out ++ [c]
def collapse (l : List UInt8) : List UInt8 := l.foldl colStep []
def stripF (l : List UInt8) : List UInt8 := l.dropWhile sp
def stripB (l : List UInt8) : List UInt8 := (l.reverse.dropWhile sp).reverse
def trimL (l : List UInt8) : List UInt8 := stripB (stripF (collapse l))
def bytesV (l : List UInt8) : List Value := l.map fun c => .int .u8 c.toNat
theorem bytesV_snoc (l : List UInt8) (c : UInt8) : bytesV (l ++ [c]) = bytesV l ++ [.int .u8 c.toNat] := by simp [bytesV]
theorem Tryz.info5 : (Tryz.prog.info? 5).map (fun i => (i.zero, i.size, i.bytes)) = some (some (.int .u8 0), 1, 1) := by kernel_rfl
theorem col_take (s : ByteArray) (k : Nat) (h : k < s.size) : collapse ((bytes s).take (k + 1)) = colStep (collapse ((bytes s).take k)) s[k] := by
 unfold collapse; rw [take_snoc s k h, List.foldl_append]; rfl
theorem colStep_len (l : List UInt8) (c : UInt8) : (colStep l c).length ≤ l.length + 1 := by
 unfold colStep; split
 ·split <;> simp
 ·simp
theorem isWs_ne {c : UInt8} {n : Nat} (h : c.toNat ≠ n) (hn : n < 256) : (c == UInt8.ofNat n) = false := by
 rw [beq_eq_false_iff_ne]; rintro rfl; simp at h; omega
theorem own_last {w : World} {base n : Nat} {v : Value} {out : List UInt8} (h : w.ownsRow base 5 1 v n (bytesV out)) (hn : n = out.length) (hp : 0 < n) :
 ∃ g cap x, v = .slice (some ⟨g, 0, none⟩) n cap ∧ out.getLast? = some x ∧ w.cell? ⟨g, n - 1, none⟩ = some (.int .u8 (x.toNat : Int)) := by
 obtain ⟨g, cap, rfl, _, _⟩ := h.form hp
 have hl : n - 1 < out.length := by omega
 refine ⟨g, cap, out[n - 1], rfl, ?_, ?_⟩
 ·rw [List.getLast?_eq_getElem?, ← hn, List.getElem?_eq_getElem hl]
 ·rw [h.cellAt (n - 1) (by omega), bytesV, List.getElem?_map, List.getElem?_eq_getElem hl]; rfl
theorem own_bytes {w : World} {base n : Nat} {v : Value} {out : List UInt8} (h : w.ownsRow base 5 1 v n (bytesV out)) (hn : n = out.length) :
 ∃ g cap a, v = .slice a n cap ∧ n ≤ cap ∧ (0 < n → a = some ⟨g, 0, none⟩) ∧ ∀ (j : Nat) (x : UInt8), out[j]? = some x → w.cell? ⟨g, j, none⟩ = some (.int .u8 (x.toNat : Int)) := by
 rcases h.2 with ⟨rfl, h0⟩ | ⟨g, cap, cur, rfl, _, _, h1, _⟩
 ·refine ⟨0, 0, none, by rw [h0], by omega, fun h => by omega, fun j x hx => ?_⟩
  have := (List.getElem?_eq_some_iff.mp hx).1
  omega
 ·refine ⟨g, cap, _, rfl, h1, fun _ => rfl, fun j x hx => ?_⟩
  have hj := (List.getElem?_eq_some_iff.mp hx).1
  rw [h.cellAt j (by omega), bytesV, List.getElem?_map, hx]; rfl
def lenV : Value → Nat
 | .slice _ n _ => n
 | _ => 0
theorem sp_32 {c : UInt8} (h : c.toNat = 32) : sp c = true := by
 rw [show c = 32 from UInt8.toNat.inj h]; decide
theorem sp_11 {c : UInt8} (h : c.toNat = 11) : sp c = true := by
 rw [show c = 11 from UInt8.toNat.inj h]; decide
theorem not_sp {c : UInt8} (h1 : ¬ c.toNat = 32) (h2 : ¬ c.toNat = 11) : sp c = false := by
 unfold sp
 rw [show (c == 32) = false by rw [beq_eq_false_iff_ne]; rintro rfl; exact h1 rfl, show (c == 11) = false by rw [beq_eq_false_iff_ne]; rintro rfl; exact h2 rfl]; rfl
theorem stripB_sp (l : List UInt8) (x : UInt8) (h : sp x = true) : stripB (l ++ [x]) = stripB l := by
 unfold stripB; rw [List.reverse_append]; simp [List.dropWhile_cons, h]
theorem stripB_no (l : List UInt8) (x : UInt8) (h : sp x = false) : stripB (l ++ [x]) = l ++ [x] := by
 unfold stripB; rw [List.reverse_append]; simp [List.dropWhile_cons, h]
theorem conv_nil (a : Option Addr) (c : Nat) (w : World) : (convert 109 9 (.slice a 0 c)).run Tryz.prog w = .ok (.string (mk [])) w := by
 cases a with
 | none => rw [run_convert_bytes_string w 109 9 5 none 0 c Tryz.underlying109 Tryz.underlying5 Tryz.underlying9]; rfl
 | some a => exact run_convert_bytes_back w 109 9 5 a c [] Tryz.underlying109 Tryz.underlying5 Tryz.underlying9 (fun j hj => by simp at hj)
theorem conv_at (g o c : Nat) (l : List UInt8) (w : World) (h : ∀ (j : Nat) (x : UInt8), l[j]? = some x → w.cell? ⟨g, o + j, none⟩ = some (.int .u8 (x.toNat : Int))) :
 (convert 109 9 (.slice (some ⟨g, o, none⟩) l.length c)).run Tryz.prog w = .ok (.string (mk l)) w := by
 refine run_convert_bytes_back w 109 9 5 ⟨g, o, none⟩ c l Tryz.underlying109 Tryz.underlying5 Tryz.underlying9 (fun j hj => ?_)
 have ha : (⟨g, o, none⟩ : Addr).add j = ⟨g, o + j, none⟩ := by unfold Addr.add; split <;> simp_all
 rw [ha]
 exact h j _ (List.getElem?_eq_getElem hj)
theorem colStep_ws_nil {c : UInt8} (h : isWs c = true) : colStep [] c = [] ++ [32] := by unfold colStep; rw [if_pos h]; rfl
theorem colStep_ws_sp {l : List UInt8} {c : UInt8} (h : isWs c = true) (hl : l.getLast? = some 32) : colStep l c = l := by unfold colStep; rw [if_pos h, if_pos hl]
theorem colStep_ws_no {l : List UInt8} {c x : UInt8} (h : isWs c = true) (hl : l.getLast? = some x) (hx : x ≠ 32) : colStep l c = l ++ [32] := by unfold colStep; rw [if_pos h, if_neg (by rw [hl]; intro e; injection e with e; exact hx e)]
theorem colStep_no {l : List UInt8} {c : UInt8} (h : isWs c = false) : colStep l c = l ++ [c] := by unfold colStep; rw [if_neg (by rw [h]; decide)]
theorem ws_of {c : UInt8} (h : c.toNat = 32 ∨ c.toNat = 9 ∨ c.toNat = 10 ∨ c.toNat = 12 ∨ c.toNat = 13) : isWs c = true := by
 have key : ∀ n : Nat, n < 256 → c.toNat = n → c = UInt8.ofNat n := fun n hn h => UInt8.toNat.inj (by simp; omega)
 rcases h with h | h | h | h | h <;> (rw [key _ (by omega) h]; decide)
theorem not_ws {c : UInt8} (h : ¬ (c.toNat = 32 ∨ c.toNat = 9 ∨ c.toNat = 10 ∨ c.toNat = 12 ∨ c.toNat = 13)) : isWs c = false := by
 unfold isWs
 have key : ∀ n : UInt8, c.toNat ≠ n.toNat → (c == n) = false := fun n hn => by rw [beq_eq_false_iff_ne]; rintro rfl; exact hn rfl
 rw [key 32 (by simp; omega), key 9 (by simp; omega), key 10 (by simp; omega), key 12 (by simp; omega), key 13 (by simp; omega)]; rfl
set_option maxHeartbeats 6400000 in
set_option maxRecDepth 1000000 in
theorem zz_trimmed (s : ByteArray) (w : World) (hs : s.size ≤ 4096) :
 Calls Tryz.prog 79 #[.string s] w fun e w' => e = .returned (.string (mk (trimL (bytes s)))) ∧ Ext w w' := by
 obtain ⟨i0, hi0, hz0, hz1, hz2⟩ := info_parts Tryz.info5
 go_enter Tryz.func79, Tryz.ntmps79
 go_wp2_with fail
 go_loopw [3, 4, 20] (fun v i _ wr => ∃ (k n : Nat) (out : List UInt8), k ≤ s.size ∧ i = .int .i64 k ∧ n ≤ k ∧ Hid (n = out.length) ∧ Hid (out = collapse ((bytes s).take k)) ∧ Hid (wr.ownsRow w.heap.size 5 1 v n (bytesV out)) ∧ Ext w wr)
  (fun _ i _ _ => s.size - (RowKit.intOf i).toNat)
 case atStart => exact ⟨0, 0, [], Nat.zero_le _, rfl, by simp, rfl, by show _ = _; simp [collapse], World.ownsRow_nil _ _ _ _, Ext.refl _⟩
 case round =>
  obtain ⟨k, n, out, hk, rfl, hol, Hn, Ho, Hown, hx⟩ := hrel
  by_cases hlt : k < s.size
  ·have hst : collapse ((bytes s).take (k + 1)) = colStep out s[k] := by rw [col_take s k hlt, ← Ho.out]
   have Hst := Lib.hid hst
   clear hst
   by_cases e32 : s[k].toNat = 32
   ·skip
    have Hws := Lib.hid (ws_of (c := s[k]) (by omega))
    have b32 : ((s[k].toNat : Int) == 32) = true := by rw [beq_iff_eq]; omega
    clear  e32
    by_cases h0 : n = 0
    ·subst h0
     have hnil : out = [] := List.length_eq_zero_iff.mp Hn.out.symm
     have own := Hown.out
     obtain ⟨a, cap, rfl⟩ := own_any own
     have Hnil := Lib.hid hnil
     clear hnil
     go_wp2_with (first
      | (at_builtin; refine wpList_append_own _ rfl _ _ 109 rfl w.heap.size 5 i0 (.int .u8 0) 1 1 Tryz.underlying109 hi0 hz0 hz1 hz2 rfl (by decide) _ _ _ rfl (own.alloc _) ⟨wr.heap.size, 0, none⟩ 1 1 [.int .u8 32] rfl rfl ?c1 ?c2 ?c3 ?c4 ?c5 ?_)
      | go_in)
     case c1 => exact cell_one_new _ _ _
     case c2 => intro u hu; simp at hu; subst hu; rfl
     case c3 => unfold maxLen; omega
     case c4 => omega
     case c5 => have := hx.size; simp; omega
     intro v' w5 hown' hgrow _
     have A1 : Hid (w5.ownsRow w.heap.size 5 1 v' (0 + 1) (bytesV (out ++ [32]))) := by
      show World.ownsRow _ _ _ _ _ _ _
      rw [bytesV_snoc]; exact hown'
     have A4 := Ext.own_grown hx own hgrow
     clear hown' hgrow own
     go_wp2_with fail
     go_roundw
     case rel => exact ⟨k + 1, 0 + 1, out ++ [32], by omega, by go_num, by omega, by show _ = _; rw [List.length_append, ← Hn.out]; rfl, by show _ = _; rw [Hst.out, Hnil.out, colStep_ws_nil Hws.out], A1, A4⟩
     case measure => simp [RowKit.intOf]; omega
    ·obtain ⟨g, cap, x, hv, hlast, hcl⟩ := own_last Hown.out Hn.out (by omega)
     subst hv
     have own := Hown.out
     have Hlast := Lib.hid hlast
     by_cases hx32 : x = 32
     ·have hcl2 : wr.cell? ⟨g, n - 1, none⟩ = some (.int .u8 32) := by rw [hcl, hx32]; rfl
      have Hx := Lib.hid hx32
      clear hcl hlast hx32 own
      go_wp2_with fail
      go_roundw
      case rel => exact ⟨k + 1, n, out, by omega, by go_num, by omega, Hn, by show _ = _; rw [Hst.out, colStep_ws_sp Hws.out (by rw [Hlast.out, Hx.out])], Hown, hx⟩
      case measure => simp [RowKit.intOf]; omega
     ·have hne : ((x.toNat : Int) == 32) = false := by rw [beq_eq_false_iff_ne]; intro h; exact hx32 (UInt8.toNat.inj (by simp; omega))
      have Hx := Lib.hid hx32
      clear hlast hx32
      go_wp2_with (first
       | (at_builtin; refine wpList_append_own _ rfl _ _ 109 rfl w.heap.size 5 i0 (.int .u8 0) 1 1 Tryz.underlying109 hi0 hz0 hz1 hz2 rfl (by decide) _ _ _ rfl (own.alloc _) ⟨wr.heap.size, 0, none⟩ 1 1 [.int .u8 32] rfl rfl ?c1 ?c2 ?c3 ?c4 ?c5 ?_)
       | go_in)
      case c1 => exact cell_one_new _ _ _
      case c2 => intro u hu; simp at hu; subst hu; rfl
      case c3 => unfold maxLen; omega
      case c4 => omega
      case c5 => have := hx.size; simp; omega
      intro v' w5 hown' hgrow _
      have A1 : Hid (w5.ownsRow w.heap.size 5 1 v' (n + 1) (bytesV (out ++ [32]))) := by
       show World.ownsRow _ _ _ _ _ _ _
       rw [bytesV_snoc]; exact hown'
      have A4 := Ext.own_grown hx own hgrow
      clear hown' hgrow own
      go_wp2_with fail
      go_roundw
      case rel => exact ⟨k + 1, n + 1, out ++ [32], by omega, by go_num, by omega, by show _ = _; rw [List.length_append, ← Hn.out]; rfl, by show _ = _; rw [Hst.out, colStep_ws_no Hws.out Hlast.out Hx.out], A1, A4⟩
      case measure => simp [RowKit.intOf]; omega
   ·skip
    by_cases e9 : s[k].toNat = 9
    ·skip
     have Hws := Lib.hid (ws_of (c := s[k]) (by omega))
     have b32 : ((s[k].toNat : Int) == 32) = false := by rw [beq_eq_false_iff_ne]; omega
     have b9 : ((s[k].toNat : Int) == 9) = true := by rw [beq_iff_eq]; omega
     clear e32 e9
     by_cases h0 : n = 0
     ·subst h0
      have hnil : out = [] := List.length_eq_zero_iff.mp Hn.out.symm
      have own := Hown.out
      obtain ⟨a, cap, rfl⟩ := own_any own
      have Hnil := Lib.hid hnil
      clear hnil
      go_wp2_with (first
       | (at_builtin; refine wpList_append_own _ rfl _ _ 109 rfl w.heap.size 5 i0 (.int .u8 0) 1 1 Tryz.underlying109 hi0 hz0 hz1 hz2 rfl (by decide) _ _ _ rfl (own.alloc _) ⟨wr.heap.size, 0, none⟩ 1 1 [.int .u8 32] rfl rfl ?c1 ?c2 ?c3 ?c4 ?c5 ?_)
       | go_in)
      case c1 => exact cell_one_new _ _ _
      case c2 => intro u hu; simp at hu; subst hu; rfl
      case c3 => unfold maxLen; omega
      case c4 => omega
      case c5 => have := hx.size; simp; omega
      intro v' w5 hown' hgrow _
      have A1 : Hid (w5.ownsRow w.heap.size 5 1 v' (0 + 1) (bytesV (out ++ [32]))) := by
       show World.ownsRow _ _ _ _ _ _ _
       rw [bytesV_snoc]; exact hown'
      have A4 := Ext.own_grown hx own hgrow
      clear hown' hgrow own
      go_wp2_with fail
      go_roundw
      case rel => exact ⟨k + 1, 0 + 1, out ++ [32], by omega, by go_num, by omega, by show _ = _; rw [List.length_append, ← Hn.out]; rfl, by show _ = _; rw [Hst.out, Hnil.out, colStep_ws_nil Hws.out], A1, A4⟩
      case measure => simp [RowKit.intOf]; omega
     ·obtain ⟨g, cap, x, hv, hlast, hcl⟩ := own_last Hown.out Hn.out (by omega)
      subst hv
      have own := Hown.out
      have Hlast := Lib.hid hlast
      by_cases hx32 : x = 32
      ·have hcl2 : wr.cell? ⟨g, n - 1, none⟩ = some (.int .u8 32) := by rw [hcl, hx32]; rfl
       have Hx := Lib.hid hx32
       clear hcl hlast hx32 own
       go_wp2_with fail
       go_roundw
       case rel => exact ⟨k + 1, n, out, by omega, by go_num, by omega, Hn, by show _ = _; rw [Hst.out, colStep_ws_sp Hws.out (by rw [Hlast.out, Hx.out])], Hown, hx⟩
       case measure => simp [RowKit.intOf]; omega
      ·have hne : ((x.toNat : Int) == 32) = false := by rw [beq_eq_false_iff_ne]; intro h; exact hx32 (UInt8.toNat.inj (by simp; omega))
       have Hx := Lib.hid hx32
       clear hlast hx32
       go_wp2_with (first
        | (at_builtin; refine wpList_append_own _ rfl _ _ 109 rfl w.heap.size 5 i0 (.int .u8 0) 1 1 Tryz.underlying109 hi0 hz0 hz1 hz2 rfl (by decide) _ _ _ rfl (own.alloc _) ⟨wr.heap.size, 0, none⟩ 1 1 [.int .u8 32] rfl rfl ?c1 ?c2 ?c3 ?c4 ?c5 ?_)
        | go_in)
       case c1 => exact cell_one_new _ _ _
       case c2 => intro u hu; simp at hu; subst hu; rfl
       case c3 => unfold maxLen; omega
       case c4 => omega
       case c5 => have := hx.size; simp; omega
       intro v' w5 hown' hgrow _
       have A1 : Hid (w5.ownsRow w.heap.size 5 1 v' (n + 1) (bytesV (out ++ [32]))) := by
        show World.ownsRow _ _ _ _ _ _ _
        rw [bytesV_snoc]; exact hown'
       have A4 := Ext.own_grown hx own hgrow
       clear hown' hgrow own
       go_wp2_with fail
       go_roundw
       case rel => exact ⟨k + 1, n + 1, out ++ [32], by omega, by go_num, by omega, by show _ = _; rw [List.length_append, ← Hn.out]; rfl, by show _ = _; rw [Hst.out, colStep_ws_no Hws.out Hlast.out Hx.out], A1, A4⟩
       case measure => simp [RowKit.intOf]; omega
    ·skip
     by_cases e10 : s[k].toNat = 10
     ·skip
      have Hws := Lib.hid (ws_of (c := s[k]) (by omega))
      have b32 : ((s[k].toNat : Int) == 32) = false := by rw [beq_eq_false_iff_ne]; omega
      have b9 : ((s[k].toNat : Int) == 9) = false := by rw [beq_eq_false_iff_ne]; omega
      have b10 : ((s[k].toNat : Int) == 10) = true := by rw [beq_iff_eq]; omega
      clear e32 e9 e10
      by_cases h0 : n = 0
      ·subst h0
       have hnil : out = [] := List.length_eq_zero_iff.mp Hn.out.symm
       have own := Hown.out
       obtain ⟨a, cap, rfl⟩ := own_any own
       have Hnil := Lib.hid hnil
       clear hnil
       go_wp2_with (first
        | (at_builtin; refine wpList_append_own _ rfl _ _ 109 rfl w.heap.size 5 i0 (.int .u8 0) 1 1 Tryz.underlying109 hi0 hz0 hz1 hz2 rfl (by decide) _ _ _ rfl (own.alloc _) ⟨wr.heap.size, 0, none⟩ 1 1 [.int .u8 32] rfl rfl ?c1 ?c2 ?c3 ?c4 ?c5 ?_)
        | go_in)
       case c1 => exact cell_one_new _ _ _
       case c2 => intro u hu; simp at hu; subst hu; rfl
       case c3 => unfold maxLen; omega
       case c4 => omega
       case c5 => have := hx.size; simp; omega
       intro v' w5 hown' hgrow _
       have A1 : Hid (w5.ownsRow w.heap.size 5 1 v' (0 + 1) (bytesV (out ++ [32]))) := by
        show World.ownsRow _ _ _ _ _ _ _
        rw [bytesV_snoc]; exact hown'
       have A4 := Ext.own_grown hx own hgrow
       clear hown' hgrow own
       go_wp2_with fail
       go_roundw
       case rel => exact ⟨k + 1, 0 + 1, out ++ [32], by omega, by go_num, by omega, by show _ = _; rw [List.length_append, ← Hn.out]; rfl, by show _ = _; rw [Hst.out, Hnil.out, colStep_ws_nil Hws.out], A1, A4⟩
       case measure => simp [RowKit.intOf]; omega
      ·obtain ⟨g, cap, x, hv, hlast, hcl⟩ := own_last Hown.out Hn.out (by omega)
       subst hv
       have own := Hown.out
       have Hlast := Lib.hid hlast
       by_cases hx32 : x = 32
       ·have hcl2 : wr.cell? ⟨g, n - 1, none⟩ = some (.int .u8 32) := by rw [hcl, hx32]; rfl
        have Hx := Lib.hid hx32
        clear hcl hlast hx32 own
        go_wp2_with fail
        go_roundw
        case rel => exact ⟨k + 1, n, out, by omega, by go_num, by omega, Hn, by show _ = _; rw [Hst.out, colStep_ws_sp Hws.out (by rw [Hlast.out, Hx.out])], Hown, hx⟩
        case measure => simp [RowKit.intOf]; omega
       ·have hne : ((x.toNat : Int) == 32) = false := by rw [beq_eq_false_iff_ne]; intro h; exact hx32 (UInt8.toNat.inj (by simp; omega))
        have Hx := Lib.hid hx32
        clear hlast hx32
        go_wp2_with (first
         | (at_builtin; refine wpList_append_own _ rfl _ _ 109 rfl w.heap.size 5 i0 (.int .u8 0) 1 1 Tryz.underlying109 hi0 hz0 hz1 hz2 rfl (by decide) _ _ _ rfl (own.alloc _) ⟨wr.heap.size, 0, none⟩ 1 1 [.int .u8 32] rfl rfl ?c1 ?c2 ?c3 ?c4 ?c5 ?_)
         | go_in)
        case c1 => exact cell_one_new _ _ _
        case c2 => intro u hu; simp at hu; subst hu; rfl
        case c3 => unfold maxLen; omega
        case c4 => omega
        case c5 => have := hx.size; simp; omega
        intro v' w5 hown' hgrow _
        have A1 : Hid (w5.ownsRow w.heap.size 5 1 v' (n + 1) (bytesV (out ++ [32]))) := by
         show World.ownsRow _ _ _ _ _ _ _
         rw [bytesV_snoc]; exact hown'
        have A4 := Ext.own_grown hx own hgrow
        clear hown' hgrow own
        go_wp2_with fail
        go_roundw
        case rel => exact ⟨k + 1, n + 1, out ++ [32], by omega, by go_num, by omega, by show _ = _; rw [List.length_append, ← Hn.out]; rfl, by show _ = _; rw [Hst.out, colStep_ws_no Hws.out Hlast.out Hx.out], A1, A4⟩
        case measure => simp [RowKit.intOf]; omega
     ·skip
      by_cases e12 : s[k].toNat = 12
      ·skip
       have Hws := Lib.hid (ws_of (c := s[k]) (by omega))
       have b32 : ((s[k].toNat : Int) == 32) = false := by rw [beq_eq_false_iff_ne]; omega
       have b9 : ((s[k].toNat : Int) == 9) = false := by rw [beq_eq_false_iff_ne]; omega
       have b10 : ((s[k].toNat : Int) == 10) = false := by rw [beq_eq_false_iff_ne]; omega
       have b12 : ((s[k].toNat : Int) == 12) = true := by rw [beq_iff_eq]; omega
       clear e32 e9 e10 e12
       by_cases h0 : n = 0
       ·subst h0
        have hnil : out = [] := List.length_eq_zero_iff.mp Hn.out.symm
        have own := Hown.out
        obtain ⟨a, cap, rfl⟩ := own_any own
        have Hnil := Lib.hid hnil
        clear hnil
        go_wp2_with (first
         | (at_builtin; refine wpList_append_own _ rfl _ _ 109 rfl w.heap.size 5 i0 (.int .u8 0) 1 1 Tryz.underlying109 hi0 hz0 hz1 hz2 rfl (by decide) _ _ _ rfl (own.alloc _) ⟨wr.heap.size, 0, none⟩ 1 1 [.int .u8 32] rfl rfl ?c1 ?c2 ?c3 ?c4 ?c5 ?_)
         | go_in)
        case c1 => exact cell_one_new _ _ _
        case c2 => intro u hu; simp at hu; subst hu; rfl
        case c3 => unfold maxLen; omega
        case c4 => omega
        case c5 => have := hx.size; simp; omega
        intro v' w5 hown' hgrow _
        have A1 : Hid (w5.ownsRow w.heap.size 5 1 v' (0 + 1) (bytesV (out ++ [32]))) := by
         show World.ownsRow _ _ _ _ _ _ _
         rw [bytesV_snoc]; exact hown'
        have A4 := Ext.own_grown hx own hgrow
        clear hown' hgrow own
        go_wp2_with fail
        go_roundw
        case rel => exact ⟨k + 1, 0 + 1, out ++ [32], by omega, by go_num, by omega, by show _ = _; rw [List.length_append, ← Hn.out]; rfl, by show _ = _; rw [Hst.out, Hnil.out, colStep_ws_nil Hws.out], A1, A4⟩
        case measure => simp [RowKit.intOf]; omega
       ·obtain ⟨g, cap, x, hv, hlast, hcl⟩ := own_last Hown.out Hn.out (by omega)
        subst hv
        have own := Hown.out
        have Hlast := Lib.hid hlast
        by_cases hx32 : x = 32
        ·have hcl2 : wr.cell? ⟨g, n - 1, none⟩ = some (.int .u8 32) := by rw [hcl, hx32]; rfl
         have Hx := Lib.hid hx32
         clear hcl hlast hx32 own
         go_wp2_with fail
         go_roundw
         case rel => exact ⟨k + 1, n, out, by omega, by go_num, by omega, Hn, by show _ = _; rw [Hst.out, colStep_ws_sp Hws.out (by rw [Hlast.out, Hx.out])], Hown, hx⟩
         case measure => simp [RowKit.intOf]; omega
        ·have hne : ((x.toNat : Int) == 32) = false := by rw [beq_eq_false_iff_ne]; intro h; exact hx32 (UInt8.toNat.inj (by simp; omega))
         have Hx := Lib.hid hx32
         clear hlast hx32
         go_wp2_with (first
          | (at_builtin; refine wpList_append_own _ rfl _ _ 109 rfl w.heap.size 5 i0 (.int .u8 0) 1 1 Tryz.underlying109 hi0 hz0 hz1 hz2 rfl (by decide) _ _ _ rfl (own.alloc _) ⟨wr.heap.size, 0, none⟩ 1 1 [.int .u8 32] rfl rfl ?c1 ?c2 ?c3 ?c4 ?c5 ?_)
          | go_in)
         case c1 => exact cell_one_new _ _ _
         case c2 => intro u hu; simp at hu; subst hu; rfl
         case c3 => unfold maxLen; omega
         case c4 => omega
         case c5 => have := hx.size; simp; omega
         intro v' w5 hown' hgrow _
         have A1 : Hid (w5.ownsRow w.heap.size 5 1 v' (n + 1) (bytesV (out ++ [32]))) := by
          show World.ownsRow _ _ _ _ _ _ _
          rw [bytesV_snoc]; exact hown'
         have A4 := Ext.own_grown hx own hgrow
         clear hown' hgrow own
         go_wp2_with fail
         go_roundw
         case rel => exact ⟨k + 1, n + 1, out ++ [32], by omega, by go_num, by omega, by show _ = _; rw [List.length_append, ← Hn.out]; rfl, by show _ = _; rw [Hst.out, colStep_ws_no Hws.out Hlast.out Hx.out], A1, A4⟩
         case measure => simp [RowKit.intOf]; omega
      ·skip
       by_cases e13 : s[k].toNat = 13
       ·skip
        have Hws := Lib.hid (ws_of (c := s[k]) (by omega))
        have b32 : ((s[k].toNat : Int) == 32) = false := by rw [beq_eq_false_iff_ne]; omega
        have b9 : ((s[k].toNat : Int) == 9) = false := by rw [beq_eq_false_iff_ne]; omega
        have b10 : ((s[k].toNat : Int) == 10) = false := by rw [beq_eq_false_iff_ne]; omega
        have b12 : ((s[k].toNat : Int) == 12) = false := by rw [beq_eq_false_iff_ne]; omega
        have b13 : ((s[k].toNat : Int) == 13) = true := by rw [beq_iff_eq]; omega
        clear e32 e9 e10 e12 e13
        by_cases h0 : n = 0
        ·subst h0
         have hnil : out = [] := List.length_eq_zero_iff.mp Hn.out.symm
         have own := Hown.out
         obtain ⟨a, cap, rfl⟩ := own_any own
         have Hnil := Lib.hid hnil
         clear hnil
         go_wp2_with (first
          | (at_builtin; refine wpList_append_own _ rfl _ _ 109 rfl w.heap.size 5 i0 (.int .u8 0) 1 1 Tryz.underlying109 hi0 hz0 hz1 hz2 rfl (by decide) _ _ _ rfl (own.alloc _) ⟨wr.heap.size, 0, none⟩ 1 1 [.int .u8 32] rfl rfl ?c1 ?c2 ?c3 ?c4 ?c5 ?_)
          | go_in)
         case c1 => exact cell_one_new _ _ _
         case c2 => intro u hu; simp at hu; subst hu; rfl
         case c3 => unfold maxLen; omega
         case c4 => omega
         case c5 => have := hx.size; simp; omega
         intro v' w5 hown' hgrow _
         have A1 : Hid (w5.ownsRow w.heap.size 5 1 v' (0 + 1) (bytesV (out ++ [32]))) := by
          show World.ownsRow _ _ _ _ _ _ _
          rw [bytesV_snoc]; exact hown'
         have A4 := Ext.own_grown hx own hgrow
         clear hown' hgrow own
         go_wp2_with fail
         go_roundw
         case rel => exact ⟨k + 1, 0 + 1, out ++ [32], by omega, by go_num, by omega, by show _ = _; rw [List.length_append, ← Hn.out]; rfl, by show _ = _; rw [Hst.out, Hnil.out, colStep_ws_nil Hws.out], A1, A4⟩
         case measure => simp [RowKit.intOf]; omega
        ·obtain ⟨g, cap, x, hv, hlast, hcl⟩ := own_last Hown.out Hn.out (by omega)
         subst hv
         have own := Hown.out
         have Hlast := Lib.hid hlast
         by_cases hx32 : x = 32
         ·have hcl2 : wr.cell? ⟨g, n - 1, none⟩ = some (.int .u8 32) := by rw [hcl, hx32]; rfl
          have Hx := Lib.hid hx32
          clear hcl hlast hx32 own
          go_wp2_with fail
          go_roundw
          case rel => exact ⟨k + 1, n, out, by omega, by go_num, by omega, Hn, by show _ = _; rw [Hst.out, colStep_ws_sp Hws.out (by rw [Hlast.out, Hx.out])], Hown, hx⟩
          case measure => simp [RowKit.intOf]; omega
         ·have hne : ((x.toNat : Int) == 32) = false := by rw [beq_eq_false_iff_ne]; intro h; exact hx32 (UInt8.toNat.inj (by simp; omega))
          have Hx := Lib.hid hx32
          clear hlast hx32
          go_wp2_with (first
           | (at_builtin; refine wpList_append_own _ rfl _ _ 109 rfl w.heap.size 5 i0 (.int .u8 0) 1 1 Tryz.underlying109 hi0 hz0 hz1 hz2 rfl (by decide) _ _ _ rfl (own.alloc _) ⟨wr.heap.size, 0, none⟩ 1 1 [.int .u8 32] rfl rfl ?c1 ?c2 ?c3 ?c4 ?c5 ?_)
           | go_in)
          case c1 => exact cell_one_new _ _ _
          case c2 => intro u hu; simp at hu; subst hu; rfl
          case c3 => unfold maxLen; omega
          case c4 => omega
          case c5 => have := hx.size; simp; omega
          intro v' w5 hown' hgrow _
          have A1 : Hid (w5.ownsRow w.heap.size 5 1 v' (n + 1) (bytesV (out ++ [32]))) := by
           show World.ownsRow _ _ _ _ _ _ _
           rw [bytesV_snoc]; exact hown'
          have A4 := Ext.own_grown hx own hgrow
          clear hown' hgrow own
          go_wp2_with fail
          go_roundw
          case rel => exact ⟨k + 1, n + 1, out ++ [32], by omega, by go_num, by omega, by show _ = _; rw [List.length_append, ← Hn.out]; rfl, by show _ = _; rw [Hst.out, colStep_ws_no Hws.out Hlast.out Hx.out], A1, A4⟩
          case measure => simp [RowKit.intOf]; omega
       ·skip
        have Hws := Lib.hid (not_ws (c := s[k]) (by omega))
        have b32 : ((s[k].toNat : Int) == 32) = false := by rw [beq_eq_false_iff_ne]; omega
        have b9 : ((s[k].toNat : Int) == 9) = false := by rw [beq_eq_false_iff_ne]; omega
        have b10 : ((s[k].toNat : Int) == 10) = false := by rw [beq_eq_false_iff_ne]; omega
        have b12 : ((s[k].toNat : Int) == 12) = false := by rw [beq_eq_false_iff_ne]; omega
        have b13 : ((s[k].toNat : Int) == 13) = false := by rw [beq_eq_false_iff_ne]; omega
        clear e32 e9 e10 e12 e13
        have own := Hown.out
        obtain ⟨a, cap, rfl⟩ := own_any own
        go_wp2_with (first
         | (at_builtin; refine wpList_append_own _ rfl _ _ 109 rfl w.heap.size 5 i0 (.int .u8 0) 1 1 Tryz.underlying109 hi0 hz0 hz1 hz2 rfl (by decide) _ _ _ rfl (own.alloc _) ⟨wr.heap.size, 0, none⟩ 1 1 [.int .u8 (s[k].toNat : Int)] rfl rfl ?c1 ?c2 ?c3 ?c4 ?c5 ?_)
         | go_in)
        case c1 => exact cell_one_new _ _ _
        case c2 => intro u hu; simp at hu; subst hu; rfl
        case c3 => unfold maxLen; omega
        case c4 => omega
        case c5 => have := hx.size; simp; omega
        intro v' w5 hown' hgrow _
        have A1 : Hid (w5.ownsRow w.heap.size 5 1 v' (n + 1) (bytesV (out ++ [s[k]]))) := by
         show World.ownsRow _ _ _ _ _ _ _
         rw [bytesV_snoc]; exact hown'
        have A4 := Ext.own_grown hx own hgrow
        clear hown' hgrow own
        go_wp2_with fail
        go_roundw
        case rel => exact ⟨k + 1, n + 1, out ++ [s[k]], by omega, by go_num, by omega, by show _ = _; rw [List.length_append, ← Hn.out]; rfl, by show _ = _; rw [Hst.out, colStep_no Hws.out], A1, A4⟩
        case measure => simp [RowKit.intOf]; omega
  ·have hout : out = collapse (bytes s) := by rw [Ho.out, take_all s k (by omega)]
   obtain ⟨g, cap, a, hv, hcap, ha, hcells⟩ := own_bytes Hown.out Hn.out
   subst hv
   have Hout := Lib.hid hout
   have Ha := Lib.hid ha
   have Hcells := Lib.hid hcells
   have hnb : n ≤ 4096 := by omega
   clear hout ha hcells Ho Hown
   go_wp2_with fail
   go_loop [3] (fun v => ∃ (j m c : Nat) (a : Option Addr), j + m = n ∧ v = .slice a m c ∧ m ≤ c ∧ Hid (0 < m → a = some ⟨g, j, none⟩) ∧ Hid (stripF out = stripF (out.drop j))) (fun v => lenV v)
   case atStart => exact ⟨0, n, cap, a, by omega, rfl, hcap, Ha.out, rfl⟩
   case round =>
    obtain ⟨j, m, c, a, hjm, rfl, hmc, Ha, Hs⟩ := hrel
    by_cases hm : 0 < m
    ·obtain ⟨x, hx0⟩ : ∃ x, out[j]? = some x := ⟨_, List.getElem?_eq_getElem (by rw [← Hn.out]; omega)⟩
     have hcx := Hcells.out j x hx0
     have hae := Ha.out hm
     subst hae
     by_cases h32 : x.toNat = 32
     ·skip
      have b1 : ((x.toNat : Int) == 32) = true := by rw [beq_iff_eq]; omega
      have hsp : sp x = true := by exact sp_32 h32
      have Hs2 : Hid (stripF out = stripF (out.drop (j + 1))) := by
       show _ = _
       rw [Hs.out]
       have hdj : out.drop j = x :: out.drop (j + 1) := by
        obtain ⟨hj, rfl⟩ := List.getElem?_eq_some_iff.mp hx0
        exact List.drop_eq_getElem_cons hj
       rw [hdj]; unfold stripF; rw [List.dropWhile_cons, hsp]; rfl
      clear hx0 hsp
      go_wp2_with fail
      go_round
      case rel => exact ⟨j + 1, m - 1, c - 1, _, by omega, rfl, by omega, fun h => if_neg (by omega), Hs2⟩
      case measure => simp only [lenV]; omega
     ·by_cases h11 : x.toNat = 11
      ·skip
       have b1 : ((x.toNat : Int) == 32) = false := by rw [beq_eq_false_iff_ne]; omega
       have b2 : ((x.toNat : Int) == 11) = true := by rw [beq_iff_eq]; omega
       have hsp : sp x = true := by exact sp_11 h11
       have Hs2 : Hid (stripF out = stripF (out.drop (j + 1))) := by
        show _ = _
        rw [Hs.out]
        have hdj : out.drop j = x :: out.drop (j + 1) := by
         obtain ⟨hj, rfl⟩ := List.getElem?_eq_some_iff.mp hx0
         exact List.drop_eq_getElem_cons hj
        rw [hdj]; unfold stripF; rw [List.dropWhile_cons, hsp]; rfl
       clear hx0 hsp
       go_wp2_with fail
       go_round
       case rel => exact ⟨j + 1, m - 1, c - 1, _, by omega, rfl, by omega, fun h => if_neg (by omega), Hs2⟩
       case measure => simp only [lenV]; omega
      ·have b1 : ((x.toNat : Int) == 32) = false := by rw [beq_eq_false_iff_ne]; omega
       have b2 : ((x.toNat : Int) == 11) = false := by rw [beq_eq_false_iff_ne]; omega
       have hsp0 := not_sp h32 h11
       have Hae : Hid (∀ _ : 0 < m, (some ⟨g, j, none⟩ : Option Addr) = some ⟨g, j, none⟩) := fun _ => rfl
       obtain ⟨rest, hrest⟩ : ∃ rest, rest = out.drop j := ⟨_, rfl⟩
       have hrl : rest.length = m := by rw [hrest, List.length_drop, ← Hn.out]; omega
       have Hf : Hid (stripF out = rest) := by
        show _ = _
        rw [Hs.out]; rw [hrest]
        have hdj : out.drop j = x :: out.drop (j + 1) := by
         obtain ⟨hj, rfl⟩ := List.getElem?_eq_some_iff.mp hx0
         exact List.drop_eq_getElem_cons hj
        rw [hdj]; unfold stripF; rw [List.dropWhile_cons, hsp0]; rfl
       have Hrc : Hid (∀ (i : Nat) (x : UInt8), rest[i]? = some x → wr.cell? ⟨g, j + i, none⟩ = some (.int .u8 (x.toNat : Int))) := by
        intro i x hi
        apply Hcells.out
        rw [hrest, List.getElem?_drop] at hi
        exact hi
       have Hrl := Lib.hid hrl
       have hmb : m ≤ 4096 := by omega
       clear hrest hrl hsp0 hx0 h32 h11
       go_wp2_with fail
       go_loop [3] (fun v => ∃ (q : Nat), q ≤ m ∧ v = .slice (some ⟨g, j, none⟩) q c ∧ Hid (stripB rest = stripB (rest.take q))) (fun v => lenV v)
       case atStart => exact ⟨m, Nat.le_refl _, rfl, by show _ = _; rw [List.take_of_length_le (by rw [Hrl.out]; exact Nat.le_refl _)]⟩
       case round =>
        obtain ⟨q, hq, rfl, Hq⟩ := hrel
        by_cases hq0 : 0 < q
        ·obtain ⟨x, hx1⟩ : ∃ x, rest[q - 1]? = some x := ⟨_, List.getElem?_eq_getElem (by rw [Hrl.out]; omega)⟩
         have hcx := Hrc.out (q - 1) x hx1
         have htk : rest.take q = rest.take (q - 1) ++ [x] := by
          have := take_snocL rest (q - 1) x hx1
          rwa [show q - 1 + 1 = q by omega] at this
         have Htk := Lib.hid htk
         clear hx1 htk
         by_cases h32 : x.toNat = 32
         ·have b1 : ((x.toNat : Int) == 32) = true := by rw [beq_iff_eq]; omega
          have hsp : sp x = true := sp_32 h32
          have Hq2 : Hid (stripB rest = stripB (rest.take (q - 1))) := by
           show _ = _
           rw [Hq.out, Htk.out]; exact stripB_sp _ _ hsp
          clear hsp Htk
          go_wp2_with fail
          go_round
          case rel => exact ⟨q - 1, by omega, by go_num, Hq2⟩
          case measure => simp only [lenV]; omega
         ·by_cases h11 : x.toNat = 11
          ·have b1 : ((x.toNat : Int) == 32) = false := by rw [beq_eq_false_iff_ne]; omega
           have b2 : ((x.toNat : Int) == 11) = true := by rw [beq_iff_eq]; omega
           have hsp : sp x = true := sp_11 h11
           have Hq2 : Hid (stripB rest = stripB (rest.take (q - 1))) := by
            show _ = _
            rw [Hq.out, Htk.out]; exact stripB_sp _ _ hsp
           clear hsp Htk
           go_wp2_with fail
           go_round
           case rel => exact ⟨q - 1, by omega, by go_num, Hq2⟩
           case measure => simp only [lenV]; omega
          ·have b1 : ((x.toNat : Int) == 32) = false := by rw [beq_eq_false_iff_ne]; omega
           have b2 : ((x.toNat : Int) == 11) = false := by rw [beq_eq_false_iff_ne]; omega
           have hsp := not_sp h32 h11
           have hfin : trimL (bytes s) = rest.take q := by
            unfold trimL
            rw [← Hout.out, Hf.out, Hq.out, Htk.out]
            exact stripB_no _ _ hsp
           have hlen : (rest.take q).length = q := by rw [List.length_take, Hrl.out]; omega
           have hb : (convert 109 9 (.slice (some ⟨g, j, none⟩) q c)).run Tryz.prog wr = .ok (.string (mk (rest.take q))) wr := by
            have := conv_at g j c (rest.take q) wr (fun i x hi => by
             apply Hrc.out
             rw [List.getElem?_take] at hi
             split at hi
             ·exact hi
             ·cases hi)
            rwa [hlen] at this
           have Hfin := Lib.hid hfin
           clear hfin hlen hsp h32 h11
           go_wp2_with fail
           go_ret
           exact ⟨by rw [Hfin.out]; rfl, hx⟩
        ·have hq1 : q = 0 := by omega
         subst hq1
         have hfin : trimL (bytes s) = [] := by
          unfold trimL
          rw [← Hout.out, Hf.out, Hq.out]; rfl
         have hb := conv_nil (some ⟨g, j, none⟩) c wr
         have Hfin := Lib.hid hfin
         clear hfin
         go_wp2_with fail
         go_ret
         exact ⟨by rw [Hfin.out]; rfl, hx⟩
    ·skip
     obtain ⟨rest, hrest⟩ : ∃ rest, rest = out.drop j := ⟨_, rfl⟩
     have hrl : rest.length = m := by rw [hrest, List.length_drop, ← Hn.out]; omega
     have Hf : Hid (stripF out = rest) := by
      show _ = _
      rw [Hs.out]; rw [hrest, List.drop_of_length_le (by rw [← Hn.out]; omega)]; rfl
     have Hrc : Hid (∀ (i : Nat) (x : UInt8), rest[i]? = some x → wr.cell? ⟨g, j + i, none⟩ = some (.int .u8 (x.toNat : Int))) := by
      intro i x hi
      apply Hcells.out
      rw [hrest, List.getElem?_drop] at hi
      exact hi
     have Hrl := Lib.hid hrl
     have hmb : m ≤ 4096 := by omega
     clear hrest hrl
     go_wp2_with fail
     go_loop [3] (fun v => ∃ (q : Nat), q ≤ m ∧ v = .slice a q c ∧ Hid (stripB rest = stripB (rest.take q))) (fun v => lenV v)
     case atStart => exact ⟨m, Nat.le_refl _, rfl, by show _ = _; rw [List.take_of_length_le (by rw [Hrl.out]; exact Nat.le_refl _)]⟩
     case round =>
      obtain ⟨q, hq, rfl, Hq⟩ := hrel
      by_cases hq0 : 0 < q
      ·have hae := Ha.out (by omega)
       subst hae
       obtain ⟨x, hx1⟩ : ∃ x, rest[q - 1]? = some x := ⟨_, List.getElem?_eq_getElem (by rw [Hrl.out]; omega)⟩
       have hcx := Hrc.out (q - 1) x hx1
       have htk : rest.take q = rest.take (q - 1) ++ [x] := by
        have := take_snocL rest (q - 1) x hx1
        rwa [show q - 1 + 1 = q by omega] at this
       have Htk := Lib.hid htk
       clear hx1 htk
       by_cases h32 : x.toNat = 32
       ·have b1 : ((x.toNat : Int) == 32) = true := by rw [beq_iff_eq]; omega
        have hsp : sp x = true := sp_32 h32
        have Hq2 : Hid (stripB rest = stripB (rest.take (q - 1))) := by
         show _ = _
         rw [Hq.out, Htk.out]; exact stripB_sp _ _ hsp
        clear hsp Htk
        go_wp2_with fail
        go_round
        case rel => exact ⟨q - 1, by omega, by go_num, Hq2⟩
        case measure => simp only [lenV]; omega
       ·by_cases h11 : x.toNat = 11
        ·have b1 : ((x.toNat : Int) == 32) = false := by rw [beq_eq_false_iff_ne]; omega
         have b2 : ((x.toNat : Int) == 11) = true := by rw [beq_iff_eq]; omega
         have hsp : sp x = true := sp_11 h11
         have Hq2 : Hid (stripB rest = stripB (rest.take (q - 1))) := by
          show _ = _
          rw [Hq.out, Htk.out]; exact stripB_sp _ _ hsp
         clear hsp Htk
         go_wp2_with fail
         go_round
         case rel => exact ⟨q - 1, by omega, by go_num, Hq2⟩
         case measure => simp only [lenV]; omega
        ·have b1 : ((x.toNat : Int) == 32) = false := by rw [beq_eq_false_iff_ne]; omega
         have b2 : ((x.toNat : Int) == 11) = false := by rw [beq_eq_false_iff_ne]; omega
         have hsp := not_sp h32 h11
         have hfin : trimL (bytes s) = rest.take q := by
          unfold trimL
          rw [← Hout.out, Hf.out, Hq.out, Htk.out]
          exact stripB_no _ _ hsp
         have hlen : (rest.take q).length = q := by rw [List.length_take, Hrl.out]; omega
         have hb : (convert 109 9 (.slice (some ⟨g, j, none⟩) q c)).run Tryz.prog wr = .ok (.string (mk (rest.take q))) wr := by
          have := conv_at g j c (rest.take q) wr (fun i x hi => by
           apply Hrc.out
           rw [List.getElem?_take] at hi
           split at hi
           ·exact hi
           ·cases hi)
          rwa [hlen] at this
         have Hfin := Lib.hid hfin
         clear hfin hlen hsp h32 h11
         go_wp2_with fail
         go_ret
         exact ⟨by rw [Hfin.out]; rfl, hx⟩
      ·have hq1 : q = 0 := by omega
       subst hq1
       have hfin : trimL (bytes s) = [] := by
        unfold trimL
        rw [← Hout.out, Hf.out, Hq.out]; rfl
       have hb := conv_nil a c wr
       have Hfin := Lib.hid hfin
       clear hfin
       go_wp2_with fail
       go_ret
       exact ⟨by rw [Hfin.out]; rfl, hx⟩
end Go.Proofs.YtmaffdhcmdhjfaaGreatDoor
namespace Go.Proofs.YtmaffdhcmdhjfaaGreatDoor
open Go.RowKit Go.Lib
def specialO (l : List UInt8) : Option (List UInt8) :=
 if l = [64, 121, 101, 97, 114, 108, 121] then some [48, 32, 48, 32, 48, 32, 49, 32, 49, 32, 42]
 else if l = [64, 109, 111, 110, 116, 104, 108, 121] then some [48, 32, 48, 32, 48, 32, 49, 32, 42, 32, 42]
 else if l = [64, 119, 101, 101, 107, 108, 121] then some [48, 32, 48, 32, 48, 32, 42, 32, 42, 32, 49]
 else if l = [64, 100, 97, 105, 108, 121] then some [48, 32, 48, 32, 48, 32, 42, 32, 42, 32, 42]
 else if l = [64, 104, 111, 117, 114, 108, 121] then some [48, 32, 48, 32, 42, 32, 42, 32, 42, 32, 42]
 else none
set_option maxHeartbeats 800000 in
theorem special_any (s : ByteArray) (w : World) :
 Calls Tryz.prog 75 #[.string s] w fun e w' => ((∃ v, v.length ≤ 11 ∧ specialO (bytes s) = some v ∧ e = .returned (.tuple #[.string (mk v), .bool true])) ∨
  (specialO (bytes s) = none ∧ e = .returned (.tuple #[.string (mk []), .bool false]))) ∧ w = w' := by
 by_cases h0 : bytes s = [64, 121, 101, 97, 114, 108, 121]
 ·have hr : specialO (bytes s) = some [48, 32, 48, 32, 48, 32, 49, 32, 49, 32, 42] := by unfold specialO; rw [if_pos h0]
  have Hr := Lib.hid hr
  have e0 := str_yes h0
  clear hr h0
  go_enter Tryz.func75, Tryz.ntmps75
  go_wp2_with fail
  go_ret2
  exact ⟨.inl ⟨_, by decide, Hr.out, rfl⟩, rfl⟩
 ·skip
  by_cases h1 : bytes s = [64, 109, 111, 110, 116, 104, 108, 121]
  ·have hr : specialO (bytes s) = some [48, 32, 48, 32, 48, 32, 49, 32, 42, 32, 42] := by unfold specialO; rw [if_neg h0, if_pos h1]
   have Hr := Lib.hid hr
   have e0 := str_no h0
   have e1 := str_yes h1
   clear hr h0 h1
   go_enter Tryz.func75, Tryz.ntmps75
   go_wp2_with fail
   go_ret2
   exact ⟨.inl ⟨_, by decide, Hr.out, rfl⟩, rfl⟩
  ·skip
   by_cases h2 : bytes s = [64, 119, 101, 101, 107, 108, 121]
   ·have hr : specialO (bytes s) = some [48, 32, 48, 32, 48, 32, 42, 32, 42, 32, 49] := by unfold specialO; rw [if_neg h0, if_neg h1, if_pos h2]
    have Hr := Lib.hid hr
    have e0 := str_no h0
    have e1 := str_no h1
    have e2 := str_yes h2
    clear hr h0 h1 h2
    go_enter Tryz.func75, Tryz.ntmps75
    go_wp2_with fail
    go_ret2
    exact ⟨.inl ⟨_, by decide, Hr.out, rfl⟩, rfl⟩
   ·skip
    by_cases h3 : bytes s = [64, 100, 97, 105, 108, 121]
    ·have hr : specialO (bytes s) = some [48, 32, 48, 32, 48, 32, 42, 32, 42, 32, 42] := by unfold specialO; rw [if_neg h0, if_neg h1, if_neg h2, if_pos h3]
     have Hr := Lib.hid hr
     have e0 := str_no h0
     have e1 := str_no h1
     have e2 := str_no h2
     have e3 := str_yes h3
     clear hr h0 h1 h2 h3
     go_enter Tryz.func75, Tryz.ntmps75
     go_wp2_with fail
     go_ret2
     exact ⟨.inl ⟨_, by decide, Hr.out, rfl⟩, rfl⟩
    ·skip
     by_cases h4 : bytes s = [64, 104, 111, 117, 114, 108, 121]
     ·have hr : specialO (bytes s) = some [48, 32, 48, 32, 42, 32, 42, 32, 42, 32, 42] := by unfold specialO; rw [if_neg h0, if_neg h1, if_neg h2, if_neg h3, if_pos h4]
      have Hr := Lib.hid hr
      have e0 := str_no h0
      have e1 := str_no h1
      have e2 := str_no h2
      have e3 := str_no h3
      have e4 := str_yes h4
      clear hr h0 h1 h2 h3 h4
      go_enter Tryz.func75, Tryz.ntmps75
      go_wp2_with fail
      go_ret2
      exact ⟨.inl ⟨_, by decide, Hr.out, rfl⟩, rfl⟩
     ·skip
      have hr : specialO (bytes s) = none := by unfold specialO; rw [if_neg h0, if_neg h1, if_neg h2, if_neg h3, if_neg h4]
      have Hr := Lib.hid hr
      have e0 := str_no h0
      have e1 := str_no h1
      have e2 := str_no h2
      have e3 := str_no h3
      have e4 := str_no h4
      clear hr h0 h1 h2 h3 h4
      go_enter Tryz.func75, Tryz.ntmps75
      go_wp2_with fail
      go_ret2
      exact ⟨.inr ⟨Hr.out, rfl⟩, rfl⟩
def toldB (l : List UInt8) : Bool := (l != [63]) && (l != [42])
def tokens (l : List UInt8) : List (List UInt8) := splitL ((specialO l).getD l) 32
def withYear (t : List (List UInt8)) : List (List UInt8) := if t.length = 6 then t ++ [[42]] else t
def cronT : List (List UInt8) → Option (List (List Int × Int))
 | [a, b, c, d, e, f, g] => if toldB d && toldB f then none else buildO [a, b, c, d, e, f, g]
 | _ => none
def parseO (l : List UInt8) : Option (List (List Int × Int)) := cronT (withYear (tokens l))
theorem cronT_seven (a b c d e f g : List UInt8) : cronT [a, b, c, d, e, f, g] = if toldB d && toldB f then none else buildO [a, b, c, d, e, f, g] := rfl
theorem cronT_len {t : List (List UInt8)} (h : t.length ≠ 7) : cronT t = none := by
 unfold cronT
 split
 ·simp at h
 ·rfl
theorem seven {α : Type} {t : List α} (h : t.length = 7) : ∃ a b c d e f g, t = [a, b, c, d, e, f, g] := by
 rcases t with _ | ⟨a, _ | ⟨b, _ | ⟨c, _ | ⟨d, _ | ⟨e, _ | ⟨f, _ | ⟨g, _ | ⟨x, t⟩⟩⟩⟩⟩⟩⟩⟩ <;> simp at h
 exact ⟨a, b, c, d, e, f, g, rfl⟩
def CronPost (w : World) (r : Option (List (List Int × Int))) (en : Ending) (w' : World) : Prop :=
 ((∃ fs v, r = some fs ∧ en = .returned (.tuple #[v, .nilIface]) ∧ Fields w' w.heap.size v fs) ∨
    (r = none ∧ ∃ t p, en = .returned (.tuple #[.slice none 0 0, .iface t p]))) ∧ Ext w w'
theorem Fields.mono {w : World} {b b' : Nat} {v : Value} {fs : List (List Int × Int)} (h : Fields w b v fs) (hb : b' ≤ b) : Fields w b' v fs := by
 obtain ⟨B, ps, h1, h2, h3, h4, h5, h6, h7⟩ := h
 exact ⟨B, ps, h1, Nat.le_trans hb h2, h3, h4, h5, fun i p f a b => (h6 i p f a b).mono hb, h7⟩
set_option maxHeartbeats 3200000 in
set_option maxRecDepth 1000000 in
theorem parse_cron (s : ByteArray) (w : World) (hs : s.size ≤ 900) (hE : Env w) :
 Calls Tryz.prog 61 #[.string s] w fun en w' => CronPost w (parseO (bytes s)) en w' := by
 obtain ⟨i0, hi0, hz0, hz1, hz2⟩ := info_parts Tryz.info9
 have hP : parseO (bytes s) = cronT (withYear (splitL ((specialO (bytes s)).getD (bytes s)) 32)) := rfl
 have HP := Lib.hid hP
 clear hP
 go_enter Tryz.func61, Tryz.ntmps61
 go_wp2_with fail
 go_at_call 75
 refine (special_any s _).mono ?_
 rintro en w0 ⟨⟨v, hvl, hsp, rfl⟩ | ⟨hsp, rfl⟩, rfl⟩
 ·rw [hsp, Option.getD_some] at HP
  clear hsp
  go_wp2_with fail
  go_at_call 76
  refine (zz_split (mk v) 32 _ (by first | (rw [size_mk]; omega) | omega)).mono ?_
  rintro en w1 ⟨tv, rfl, hst, hx1⟩
  have hst' : Strs w1 w.heap.size tv (splitL v 32) := hst
  obtain ⟨T, hT⟩ : ∃ T, T = splitL v 32 := ⟨_, rfl⟩
  rw [← hT] at hst' HP
  have hTi : ∀ x ∈ T, x.length ≤ 900 := fun x hx => by
   have := splitL_item v 32 x (by rw [← hT]; exact hx)
   omega
  have hTp : 0 < T.length := by rw [hT]; exact splitL_pos _ _
  obtain ⟨g, cap, rfl, hgb, hgl, hcell⟩ := hst'.form hTp
  have hE1 := hE.ext hx1
  obtain ⟨n, hn⟩ : ∃ n, n = T.length := ⟨_, rfl⟩
  have hnb : n ≤ 901 := by
   have := splitL_len v 32
   rw [← hT] at this
   omega
  rw [← hn]
  have HTi := Lib.hid hTi
  have Hn := Lib.hid hn
  have Hst := Lib.hid hst'
  have Hcell := Lib.hid hcell
  clear hst hst' hT hTi hTp hn hcell
  by_cases hlo : n < 6
  ·have Hr : Hid (parseO (bytes s) = none) := by
    show _ = _
    rw [HP.out, withYear, if_neg (by rw [← Hn.out]; omega)]
    exact cronT_len (by rw [← Hn.out]; omega)
   go_wp2_with fail
   go_at_call 77
   refine (new_err _ _ hE1).mono ?_
   rintro en w2 ⟨t, p, rfl, hx2⟩
   go_wp2_with fail
   go_ret2
   exact ⟨.inr ⟨Hr.out, t, p, rfl⟩, hx1.trans hx2⟩
  ·by_cases hhi : 7 < n
   ·have Hr : Hid (parseO (bytes s) = none) := by
     show _ = _
     rw [HP.out, withYear, if_neg (by rw [← Hn.out]; omega)]
     exact cronT_len (by rw [← Hn.out]; omega)
    go_wp2_with fail
    go_at_call 77
    refine (new_err _ _ hE1).mono ?_
    rintro en w2 ⟨t, p, rfl, hx2⟩
    go_wp2_with fail
    go_ret2
    exact ⟨.inr ⟨Hr.out, t, p, rfl⟩, hx1.trans hx2⟩
   ·by_cases h6 : n = 6
    ·subst h6
     have own := Hst.out
     unfold Strs at own
     rw [← Hn.out] at own
     go_wp2_with (first
      | (at_builtin; refine wpList_append_own _ rfl _ _ 85 rfl w.heap.size 9 i0 (.string ⟨#[]⟩) 1 16 Tryz.underlying85 hi0 hz0 hz1 hz2 rfl (by decide) _ _ _ rfl (own.alloc _) ⟨w1.heap.size, 0, none⟩ 1 1 [.string (mk [42])] rfl rfl ?c1 ?c2 ?c3 ?c4 ?c5 ?_)
      | go_in)
     case c1 => exact cell_one_new _ _ _
     case c2 => intro u hu; simp at hu; subst hu; rfl
     case c3 => unfold maxLen; omega
     case c4 => omega
     case c5 => have := hx1.size; simp; omega
     intro v' w2 hown' hgrow _
     have hx2 : Ext w w2 := Ext.own_grown hx1 own hgrow
     have hst2 : Strs w2 w.heap.size v' (T ++ [[42]]) := by
      show World.ownsRow _ _ _ _ _ _ _
      rw [strs_snoc, List.length_append, ← Hn.out]; exact hown'
     have hlen7 : (T ++ [[42]]).length = 7 := by rw [List.length_append, ← Hn.out]; rfl
     obtain ⟨a, b, c, d, e, f, y, hT7⟩ := seven hlen7
     have hHP : parseO (bytes s) = cronT (T ++ [[42]]) := by rw [HP.out, withYear, if_pos Hn.out.symm]
     have hmem : ∀ x ∈ T ++ [[42]], x.length ≤ 900 := fun x hx => by
      rcases List.mem_append.mp hx with h | h
      ·exact HTi.out x h
      ·simp at h; subst h; simp
     rw [hT7] at hst2 hHP hmem
     clear hT7 hlen7 hown' hgrow own Hst Hcell HTi Hn HP
     obtain ⟨g2, cap2, hv2, hg2b, hg2l, hc2⟩ := hst2.form (by simp)
     have c0 := hc2 0 a rfl
     have c1 := hc2 1 b rfl
     have c2 := hc2 2 c rfl
     have c3 := hc2 3 d rfl
     have c4 := hc2 4 e rfl
     have c5 := hc2 5 f rfl
     have c6 := hc2 6 y rfl
     have hbd : a.length ≤ 1000 ∧ b.length ≤ 1000 ∧ c.length ≤ 1000 ∧ d.length ≤ 1000 ∧ e.length ≤ 1000 ∧ f.length ≤ 1000 ∧ y.length ≤ 1000 := by
      have q := fun x hx => Nat.le_trans (hmem x hx) (show 900 ≤ 1000 by decide)
      exact ⟨q a (by simp), q b (by simp), q c (by simp), q d (by simp), q e (by simp), q f (by simp), q y (by simp)⟩
     subst hv2
     have Hbd := Lib.hid hbd
     have HHP := Lib.hid hHP
     have hb := build_any a b c d e f y g2 cap2 _ hbd (hE.ext hx2) c0 c1 c2 c3 c4 c5 c6
     have Hb := Lib.hid hb
     simp only [List.length_cons, List.length_nil] at *
     clear hb hbd hHP hmem hst2 hc2 c0 c1 c2 c4 c6
     by_cases kd : d = [63]
     ·skip
      have qd := str_yes (s := mk d) (l := [63]) kd
      have Hr : Hid (parseO (bytes s) = buildO [a, b, c, d, e, f, y]) := by
       show _ = _
       rw [HHP.out]; rw [cronT_seven, show toldB d = false by rw [kd]; decide]; rfl
      clear kd
      go_wp2_with fail
      go_at_call 78
      refine Hb.out.mono ?_
      rintro en w3 ⟨⟨fs, v, hf, rfl, hF⟩ | ⟨hf, t, p, rfl⟩, hx3⟩
      ·have Hf := Lib.hid (Hr.out.trans hf)
       have HF := Lib.hid (hF.mono (Below.size hx2))
       clear hf hF
       go_wp2_with fail
       go_ret2
       exact ⟨.inl ⟨fs, v, Hf.out, rfl, HF.out⟩, hx2.trans hx3⟩
      ·have Hf := Lib.hid (Hr.out.trans hf)
       clear hf
       go_wp2_with fail
       go_ret2
       exact ⟨.inr ⟨Hf.out, t, p, rfl⟩, hx2.trans hx3⟩
     ·have jd := kd
      clear kd
      by_cases kd : d = [42]
      ·skip
       have qd := str_no (s := mk d) (l := [63]) jd
       have rd := str_yes (s := mk d) (l := [42]) kd
       have Hr : Hid (parseO (bytes s) = buildO [a, b, c, d, e, f, y]) := by
        show _ = _
        rw [HHP.out]; rw [cronT_seven, show toldB d = false by rw [kd]; decide]; rfl
       clear kd jd
       go_wp2_with fail
       go_at_call 78
       refine Hb.out.mono ?_
       rintro en w3 ⟨⟨fs, v, hf, rfl, hF⟩ | ⟨hf, t, p, rfl⟩, hx3⟩
       ·have Hf := Lib.hid (Hr.out.trans hf)
        have HF := Lib.hid (hF.mono (Below.size hx2))
        clear hf hF
        go_wp2_with fail
        go_ret2
        exact ⟨.inl ⟨fs, v, Hf.out, rfl, HF.out⟩, hx2.trans hx3⟩
       ·have Hf := Lib.hid (Hr.out.trans hf)
        clear hf
        go_wp2_with fail
        go_ret2
        exact ⟨.inr ⟨Hf.out, t, p, rfl⟩, hx2.trans hx3⟩
      ·skip
       have qd := str_no (s := mk d) (l := [63]) jd
       have rd := str_no (s := mk d) (l := [42]) kd
       have htd : toldB d = true := by unfold toldB; simp [jd, kd]
       have Htd := Lib.hid htd
       clear htd jd kd
       by_cases kf : f = [63]
       ·skip
        have qf := str_yes (s := mk f) (l := [63]) kf
        have Hr : Hid (parseO (bytes s) = buildO [a, b, c, d, e, f, y]) := by
         show _ = _
         rw [HHP.out]; rw [cronT_seven, Htd.out, show toldB f = false by rw [kf]; decide]; rfl
        clear kf
        go_wp2_with fail
        go_at_call 78
        refine Hb.out.mono ?_
        rintro en w3 ⟨⟨fs, v, hf, rfl, hF⟩ | ⟨hf, t, p, rfl⟩, hx3⟩
        ·have Hf := Lib.hid (Hr.out.trans hf)
         have HF := Lib.hid (hF.mono (Below.size hx2))
         clear hf hF
         go_wp2_with fail
         go_ret2
         exact ⟨.inl ⟨fs, v, Hf.out, rfl, HF.out⟩, hx2.trans hx3⟩
        ·have Hf := Lib.hid (Hr.out.trans hf)
         clear hf
         go_wp2_with fail
         go_ret2
         exact ⟨.inr ⟨Hf.out, t, p, rfl⟩, hx2.trans hx3⟩
       ·have jf := kf
        clear kf
        by_cases kf : f = [42]
        ·skip
         have qf := str_no (s := mk f) (l := [63]) jf
         have rf := str_yes (s := mk f) (l := [42]) kf
         have Hr : Hid (parseO (bytes s) = buildO [a, b, c, d, e, f, y]) := by
          show _ = _
          rw [HHP.out]; rw [cronT_seven, Htd.out, show toldB f = false by rw [kf]; decide]; rfl
         clear kf jf
         go_wp2_with fail
         go_at_call 78
         refine Hb.out.mono ?_
         rintro en w3 ⟨⟨fs, v, hf, rfl, hF⟩ | ⟨hf, t, p, rfl⟩, hx3⟩
         ·have Hf := Lib.hid (Hr.out.trans hf)
          have HF := Lib.hid (hF.mono (Below.size hx2))
          clear hf hF
          go_wp2_with fail
          go_ret2
          exact ⟨.inl ⟨fs, v, Hf.out, rfl, HF.out⟩, hx2.trans hx3⟩
         ·have Hf := Lib.hid (Hr.out.trans hf)
          clear hf
          go_wp2_with fail
          go_ret2
          exact ⟨.inr ⟨Hf.out, t, p, rfl⟩, hx2.trans hx3⟩
        ·skip
         have qf := str_no (s := mk f) (l := [63]) jf
         have rf := str_no (s := mk f) (l := [42]) kf
         have Hr : Hid (parseO (bytes s) = none) := by
          show _ = _
          have htf : toldB f = true := by unfold toldB; simp [jf, kf]
          rw [HHP.out]; rw [cronT_seven, Htd.out, htf]; rfl
         clear jf kf
         go_wp2_with fail
         go_at_call 77
         refine (new_err _ _ (hE.ext hx2)).mono ?_
         rintro en w3 ⟨t, p, rfl, hx3⟩
         go_wp2_with fail
         go_ret2
         exact ⟨.inr ⟨Hr.out, t, p, rfl⟩, hx2.trans hx3⟩
    ·have h7 : n = 7 := by omega
     subst h7
     obtain ⟨a, b, c, d, e, f, y, hT7⟩ := seven Hn.out.symm
     have hHP : parseO (bytes s) = cronT T := by rw [HP.out, withYear, if_neg (by rw [← Hn.out]; decide)]
     have hmem := HTi.out
     have hst2 : Strs w1 w.heap.size (.slice (some ⟨g, 0, none⟩) 7 cap) T := by have := Hst.out; rwa [← Hn.out] at this
     have hx2 := hx1
     rw [hT7] at hst2 hHP hmem
     clear hT7 Hst Hcell HTi Hn HP
     obtain ⟨g2, cap2, hv2, hg2b, hg2l, hc2⟩ := hst2.form (by simp)
     have c0 := hc2 0 a rfl
     have c1 := hc2 1 b rfl
     have c2 := hc2 2 c rfl
     have c3 := hc2 3 d rfl
     have c4 := hc2 4 e rfl
     have c5 := hc2 5 f rfl
     have c6 := hc2 6 y rfl
     have hbd : a.length ≤ 1000 ∧ b.length ≤ 1000 ∧ c.length ≤ 1000 ∧ d.length ≤ 1000 ∧ e.length ≤ 1000 ∧ f.length ≤ 1000 ∧ y.length ≤ 1000 := by
      have q := fun x hx => Nat.le_trans (hmem x hx) (show 900 ≤ 1000 by decide)
      exact ⟨q a (by simp), q b (by simp), q c (by simp), q d (by simp), q e (by simp), q f (by simp), q y (by simp)⟩
     obtain ⟨rfl, rfl⟩ : g2 = g ∧ cap2 = cap := by injection hv2 with hv2 _ hv3; injection hv2 with hv2; injection hv2 with hv2; exact ⟨hv2.symm, hv3.symm⟩
     have Hbd := Lib.hid hbd
     have HHP := Lib.hid hHP
     have hb := build_any a b c d e f y g2 cap2 _ hbd (hE.ext hx2) c0 c1 c2 c3 c4 c5 c6
     have Hb := Lib.hid hb
     simp only [List.length_cons, List.length_nil] at *
     clear hb hbd hHP hmem hst2 hc2 c0 c1 c2 c4 c6
     by_cases kd : d = [63]
     ·skip
      have qd := str_yes (s := mk d) (l := [63]) kd
      have Hr : Hid (parseO (bytes s) = buildO [a, b, c, d, e, f, y]) := by
       show _ = _
       rw [HHP.out]; rw [cronT_seven, show toldB d = false by rw [kd]; decide]; rfl
      clear kd
      go_wp2_with fail
      go_at_call 78
      refine Hb.out.mono ?_
      rintro en w3 ⟨⟨fs, v, hf, rfl, hF⟩ | ⟨hf, t, p, rfl⟩, hx3⟩
      ·have Hf := Lib.hid (Hr.out.trans hf)
       have HF := Lib.hid (hF.mono (Below.size hx2))
       clear hf hF
       go_wp2_with fail
       go_ret2
       exact ⟨.inl ⟨fs, v, Hf.out, rfl, HF.out⟩, hx2.trans hx3⟩
      ·have Hf := Lib.hid (Hr.out.trans hf)
       clear hf
       go_wp2_with fail
       go_ret2
       exact ⟨.inr ⟨Hf.out, t, p, rfl⟩, hx2.trans hx3⟩
     ·have jd := kd
      clear kd
      by_cases kd : d = [42]
      ·skip
       have qd := str_no (s := mk d) (l := [63]) jd
       have rd := str_yes (s := mk d) (l := [42]) kd
       have Hr : Hid (parseO (bytes s) = buildO [a, b, c, d, e, f, y]) := by
        show _ = _
        rw [HHP.out]; rw [cronT_seven, show toldB d = false by rw [kd]; decide]; rfl
       clear kd jd
       go_wp2_with fail
       go_at_call 78
       refine Hb.out.mono ?_
       rintro en w3 ⟨⟨fs, v, hf, rfl, hF⟩ | ⟨hf, t, p, rfl⟩, hx3⟩
       ·have Hf := Lib.hid (Hr.out.trans hf)
        have HF := Lib.hid (hF.mono (Below.size hx2))
        clear hf hF
        go_wp2_with fail
        go_ret2
        exact ⟨.inl ⟨fs, v, Hf.out, rfl, HF.out⟩, hx2.trans hx3⟩
       ·have Hf := Lib.hid (Hr.out.trans hf)
        clear hf
        go_wp2_with fail
        go_ret2
        exact ⟨.inr ⟨Hf.out, t, p, rfl⟩, hx2.trans hx3⟩
      ·skip
       have qd := str_no (s := mk d) (l := [63]) jd
       have rd := str_no (s := mk d) (l := [42]) kd
       have htd : toldB d = true := by unfold toldB; simp [jd, kd]
       have Htd := Lib.hid htd
       clear htd jd kd
       by_cases kf : f = [63]
       ·skip
        have qf := str_yes (s := mk f) (l := [63]) kf
        have Hr : Hid (parseO (bytes s) = buildO [a, b, c, d, e, f, y]) := by
         show _ = _
         rw [HHP.out]; rw [cronT_seven, Htd.out, show toldB f = false by rw [kf]; decide]; rfl
        clear kf
        go_wp2_with fail
        go_at_call 78
        refine Hb.out.mono ?_
        rintro en w3 ⟨⟨fs, v, hf, rfl, hF⟩ | ⟨hf, t, p, rfl⟩, hx3⟩
        ·have Hf := Lib.hid (Hr.out.trans hf)
         have HF := Lib.hid (hF.mono (Below.size hx2))
         clear hf hF
         go_wp2_with fail
         go_ret2
         exact ⟨.inl ⟨fs, v, Hf.out, rfl, HF.out⟩, hx2.trans hx3⟩
        ·have Hf := Lib.hid (Hr.out.trans hf)
         clear hf
         go_wp2_with fail
         go_ret2
         exact ⟨.inr ⟨Hf.out, t, p, rfl⟩, hx2.trans hx3⟩
       ·have jf := kf
        clear kf
        by_cases kf : f = [42]
        ·skip
         have qf := str_no (s := mk f) (l := [63]) jf
         have rf := str_yes (s := mk f) (l := [42]) kf
         have Hr : Hid (parseO (bytes s) = buildO [a, b, c, d, e, f, y]) := by
          show _ = _
          rw [HHP.out]; rw [cronT_seven, Htd.out, show toldB f = false by rw [kf]; decide]; rfl
         clear kf jf
         go_wp2_with fail
         go_at_call 78
         refine Hb.out.mono ?_
         rintro en w3 ⟨⟨fs, v, hf, rfl, hF⟩ | ⟨hf, t, p, rfl⟩, hx3⟩
         ·have Hf := Lib.hid (Hr.out.trans hf)
          have HF := Lib.hid (hF.mono (Below.size hx2))
          clear hf hF
          go_wp2_with fail
          go_ret2
          exact ⟨.inl ⟨fs, v, Hf.out, rfl, HF.out⟩, hx2.trans hx3⟩
         ·have Hf := Lib.hid (Hr.out.trans hf)
          clear hf
          go_wp2_with fail
          go_ret2
          exact ⟨.inr ⟨Hf.out, t, p, rfl⟩, hx2.trans hx3⟩
        ·skip
         have qf := str_no (s := mk f) (l := [63]) jf
         have rf := str_no (s := mk f) (l := [42]) kf
         have Hr : Hid (parseO (bytes s) = none) := by
          show _ = _
          have htf : toldB f = true := by unfold toldB; simp [jf, kf]
          rw [HHP.out]; rw [cronT_seven, Htd.out, htf]; rfl
         clear jf kf
         go_wp2_with fail
         go_at_call 77
         refine (new_err _ _ (hE.ext hx2)).mono ?_
         rintro en w3 ⟨t, p, rfl, hx3⟩
         go_wp2_with fail
         go_ret2
         exact ⟨.inr ⟨Hr.out, t, p, rfl⟩, hx2.trans hx3⟩
 ·rw [hsp, Option.getD_none] at HP
  clear hsp
  go_wp2_with fail
  go_at_call 76
  refine (zz_split s 32 _ (by first | (rw [size_mk]; omega) | omega)).mono ?_
  rintro en w1 ⟨tv, rfl, hst, hx1⟩
  have hst' : Strs w1 w.heap.size tv (splitL (bytes s) 32) := hst
  obtain ⟨T, hT⟩ : ∃ T, T = splitL (bytes s) 32 := ⟨_, rfl⟩
  rw [← hT] at hst' HP
  have hTi : ∀ x ∈ T, x.length ≤ 900 := fun x hx => by
   have := splitL_item (bytes s) 32 x (by rw [← hT]; exact hx)
   rw [bytes_length] at this; omega
  have hTp : 0 < T.length := by rw [hT]; exact splitL_pos _ _
  obtain ⟨g, cap, rfl, hgb, hgl, hcell⟩ := hst'.form hTp
  have hE1 := hE.ext hx1
  obtain ⟨n, hn⟩ : ∃ n, n = T.length := ⟨_, rfl⟩
  have hnb : n ≤ 901 := by
   have := splitL_len (bytes s) 32
   rw [← hT] at this
   rw [bytes_length] at this; omega
  rw [← hn]
  have HTi := Lib.hid hTi
  have Hn := Lib.hid hn
  have Hst := Lib.hid hst'
  have Hcell := Lib.hid hcell
  clear hst hst' hT hTi hTp hn hcell
  by_cases hlo : n < 6
  ·have Hr : Hid (parseO (bytes s) = none) := by
    show _ = _
    rw [HP.out, withYear, if_neg (by rw [← Hn.out]; omega)]
    exact cronT_len (by rw [← Hn.out]; omega)
   go_wp2_with fail
   go_at_call 77
   refine (new_err _ _ hE1).mono ?_
   rintro en w2 ⟨t, p, rfl, hx2⟩
   go_wp2_with fail
   go_ret2
   exact ⟨.inr ⟨Hr.out, t, p, rfl⟩, hx1.trans hx2⟩
  ·by_cases hhi : 7 < n
   ·have Hr : Hid (parseO (bytes s) = none) := by
     show _ = _
     rw [HP.out, withYear, if_neg (by rw [← Hn.out]; omega)]
     exact cronT_len (by rw [← Hn.out]; omega)
    go_wp2_with fail
    go_at_call 77
    refine (new_err _ _ hE1).mono ?_
    rintro en w2 ⟨t, p, rfl, hx2⟩
    go_wp2_with fail
    go_ret2
    exact ⟨.inr ⟨Hr.out, t, p, rfl⟩, hx1.trans hx2⟩
   ·by_cases h6 : n = 6
    ·subst h6
     have own := Hst.out
     unfold Strs at own
     rw [← Hn.out] at own
     go_wp2_with (first
      | (at_builtin; refine wpList_append_own _ rfl _ _ 85 rfl w.heap.size 9 i0 (.string ⟨#[]⟩) 1 16 Tryz.underlying85 hi0 hz0 hz1 hz2 rfl (by decide) _ _ _ rfl (own.alloc _) ⟨w1.heap.size, 0, none⟩ 1 1 [.string (mk [42])] rfl rfl ?c1 ?c2 ?c3 ?c4 ?c5 ?_)
      | go_in)
     case c1 => exact cell_one_new _ _ _
     case c2 => intro u hu; simp at hu; subst hu; rfl
     case c3 => unfold maxLen; omega
     case c4 => omega
     case c5 => have := hx1.size; simp; omega
     intro v' w2 hown' hgrow _
     have hx2 : Ext w w2 := Ext.own_grown hx1 own hgrow
     have hst2 : Strs w2 w.heap.size v' (T ++ [[42]]) := by
      show World.ownsRow _ _ _ _ _ _ _
      rw [strs_snoc, List.length_append, ← Hn.out]; exact hown'
     have hlen7 : (T ++ [[42]]).length = 7 := by rw [List.length_append, ← Hn.out]; rfl
     obtain ⟨a, b, c, d, e, f, y, hT7⟩ := seven hlen7
     have hHP : parseO (bytes s) = cronT (T ++ [[42]]) := by rw [HP.out, withYear, if_pos Hn.out.symm]
     have hmem : ∀ x ∈ T ++ [[42]], x.length ≤ 900 := fun x hx => by
      rcases List.mem_append.mp hx with h | h
      ·exact HTi.out x h
      ·simp at h; subst h; simp
     rw [hT7] at hst2 hHP hmem
     clear hT7 hlen7 hown' hgrow own Hst Hcell HTi Hn HP
     obtain ⟨g2, cap2, hv2, hg2b, hg2l, hc2⟩ := hst2.form (by simp)
     have c0 := hc2 0 a rfl
     have c1 := hc2 1 b rfl
     have c2 := hc2 2 c rfl
     have c3 := hc2 3 d rfl
     have c4 := hc2 4 e rfl
     have c5 := hc2 5 f rfl
     have c6 := hc2 6 y rfl
     have hbd : a.length ≤ 1000 ∧ b.length ≤ 1000 ∧ c.length ≤ 1000 ∧ d.length ≤ 1000 ∧ e.length ≤ 1000 ∧ f.length ≤ 1000 ∧ y.length ≤ 1000 := by
      have q := fun x hx => Nat.le_trans (hmem x hx) (show 900 ≤ 1000 by decide)
      exact ⟨q a (by simp), q b (by simp), q c (by simp), q d (by simp), q e (by simp), q f (by simp), q y (by simp)⟩
     subst hv2
     have Hbd := Lib.hid hbd
     have HHP := Lib.hid hHP
     have hb := build_any a b c d e f y g2 cap2 _ hbd (hE.ext hx2) c0 c1 c2 c3 c4 c5 c6
     have Hb := Lib.hid hb
     simp only [List.length_cons, List.length_nil] at *
     clear hb hbd hHP hmem hst2 hc2 c0 c1 c2 c4 c6
     by_cases kd : d = [63]
     ·skip
      have qd := str_yes (s := mk d) (l := [63]) kd
      have Hr : Hid (parseO (bytes s) = buildO [a, b, c, d, e, f, y]) := by
       show _ = _
       rw [HHP.out]; rw [cronT_seven, show toldB d = false by rw [kd]; decide]; rfl
      clear kd
      go_wp2_with fail
      go_at_call 78
      refine Hb.out.mono ?_
      rintro en w3 ⟨⟨fs, v, hf, rfl, hF⟩ | ⟨hf, t, p, rfl⟩, hx3⟩
      ·have Hf := Lib.hid (Hr.out.trans hf)
       have HF := Lib.hid (hF.mono (Below.size hx2))
       clear hf hF
       go_wp2_with fail
       go_ret2
       exact ⟨.inl ⟨fs, v, Hf.out, rfl, HF.out⟩, hx2.trans hx3⟩
      ·have Hf := Lib.hid (Hr.out.trans hf)
       clear hf
       go_wp2_with fail
       go_ret2
       exact ⟨.inr ⟨Hf.out, t, p, rfl⟩, hx2.trans hx3⟩
     ·have jd := kd
      clear kd
      by_cases kd : d = [42]
      ·skip
       have qd := str_no (s := mk d) (l := [63]) jd
       have rd := str_yes (s := mk d) (l := [42]) kd
       have Hr : Hid (parseO (bytes s) = buildO [a, b, c, d, e, f, y]) := by
        show _ = _
        rw [HHP.out]; rw [cronT_seven, show toldB d = false by rw [kd]; decide]; rfl
       clear kd jd
       go_wp2_with fail
       go_at_call 78
       refine Hb.out.mono ?_
       rintro en w3 ⟨⟨fs, v, hf, rfl, hF⟩ | ⟨hf, t, p, rfl⟩, hx3⟩
       ·have Hf := Lib.hid (Hr.out.trans hf)
        have HF := Lib.hid (hF.mono (Below.size hx2))
        clear hf hF
        go_wp2_with fail
        go_ret2
        exact ⟨.inl ⟨fs, v, Hf.out, rfl, HF.out⟩, hx2.trans hx3⟩
       ·have Hf := Lib.hid (Hr.out.trans hf)
        clear hf
        go_wp2_with fail
        go_ret2
        exact ⟨.inr ⟨Hf.out, t, p, rfl⟩, hx2.trans hx3⟩
      ·skip
       have qd := str_no (s := mk d) (l := [63]) jd
       have rd := str_no (s := mk d) (l := [42]) kd
       have htd : toldB d = true := by unfold toldB; simp [jd, kd]
       have Htd := Lib.hid htd
       clear htd jd kd
       by_cases kf : f = [63]
       ·skip
        have qf := str_yes (s := mk f) (l := [63]) kf
        have Hr : Hid (parseO (bytes s) = buildO [a, b, c, d, e, f, y]) := by
         show _ = _
         rw [HHP.out]; rw [cronT_seven, Htd.out, show toldB f = false by rw [kf]; decide]; rfl
        clear kf
        go_wp2_with fail
        go_at_call 78
        refine Hb.out.mono ?_
        rintro en w3 ⟨⟨fs, v, hf, rfl, hF⟩ | ⟨hf, t, p, rfl⟩, hx3⟩
        ·have Hf := Lib.hid (Hr.out.trans hf)
         have HF := Lib.hid (hF.mono (Below.size hx2))
         clear hf hF
         go_wp2_with fail
         go_ret2
         exact ⟨.inl ⟨fs, v, Hf.out, rfl, HF.out⟩, hx2.trans hx3⟩
        ·have Hf := Lib.hid (Hr.out.trans hf)
         clear hf
         go_wp2_with fail
         go_ret2
         exact ⟨.inr ⟨Hf.out, t, p, rfl⟩, hx2.trans hx3⟩
       ·have jf := kf
        clear kf
        by_cases kf : f = [42]
        ·skip
         have qf := str_no (s := mk f) (l := [63]) jf
         have rf := str_yes (s := mk f) (l := [42]) kf
         have Hr : Hid (parseO (bytes s) = buildO [a, b, c, d, e, f, y]) := by
          show _ = _
          rw [HHP.out]; rw [cronT_seven, Htd.out, show toldB f = false by rw [kf]; decide]; rfl
         clear kf jf
         go_wp2_with fail
         go_at_call 78
         refine Hb.out.mono ?_
         rintro en w3 ⟨⟨fs, v, hf, rfl, hF⟩ | ⟨hf, t, p, rfl⟩, hx3⟩
         ·have Hf := Lib.hid (Hr.out.trans hf)
          have HF := Lib.hid (hF.mono (Below.size hx2))
          clear hf hF
          go_wp2_with fail
          go_ret2
          exact ⟨.inl ⟨fs, v, Hf.out, rfl, HF.out⟩, hx2.trans hx3⟩
         ·have Hf := Lib.hid (Hr.out.trans hf)
          clear hf
          go_wp2_with fail
          go_ret2
          exact ⟨.inr ⟨Hf.out, t, p, rfl⟩, hx2.trans hx3⟩
        ·skip
         have qf := str_no (s := mk f) (l := [63]) jf
         have rf := str_no (s := mk f) (l := [42]) kf
         have Hr : Hid (parseO (bytes s) = none) := by
          show _ = _
          have htf : toldB f = true := by unfold toldB; simp [jf, kf]
          rw [HHP.out]; rw [cronT_seven, Htd.out, htf]; rfl
         clear jf kf
         go_wp2_with fail
         go_at_call 77
         refine (new_err _ _ (hE.ext hx2)).mono ?_
         rintro en w3 ⟨t, p, rfl, hx3⟩
         go_wp2_with fail
         go_ret2
         exact ⟨.inr ⟨Hr.out, t, p, rfl⟩, hx2.trans hx3⟩
    ·have h7 : n = 7 := by omega
     subst h7
     obtain ⟨a, b, c, d, e, f, y, hT7⟩ := seven Hn.out.symm
     have hHP : parseO (bytes s) = cronT T := by rw [HP.out, withYear, if_neg (by rw [← Hn.out]; decide)]
     have hmem := HTi.out
     have hst2 : Strs w1 w.heap.size (.slice (some ⟨g, 0, none⟩) 7 cap) T := by have := Hst.out; rwa [← Hn.out] at this
     have hx2 := hx1
     rw [hT7] at hst2 hHP hmem
     clear hT7 Hst Hcell HTi Hn HP
     obtain ⟨g2, cap2, hv2, hg2b, hg2l, hc2⟩ := hst2.form (by simp)
     have c0 := hc2 0 a rfl
     have c1 := hc2 1 b rfl
     have c2 := hc2 2 c rfl
     have c3 := hc2 3 d rfl
     have c4 := hc2 4 e rfl
     have c5 := hc2 5 f rfl
     have c6 := hc2 6 y rfl
     have hbd : a.length ≤ 1000 ∧ b.length ≤ 1000 ∧ c.length ≤ 1000 ∧ d.length ≤ 1000 ∧ e.length ≤ 1000 ∧ f.length ≤ 1000 ∧ y.length ≤ 1000 := by
      have q := fun x hx => Nat.le_trans (hmem x hx) (show 900 ≤ 1000 by decide)
      exact ⟨q a (by simp), q b (by simp), q c (by simp), q d (by simp), q e (by simp), q f (by simp), q y (by simp)⟩
     obtain ⟨rfl, rfl⟩ : g2 = g ∧ cap2 = cap := by injection hv2 with hv2 _ hv3; injection hv2 with hv2; injection hv2 with hv2; exact ⟨hv2.symm, hv3.symm⟩
     have Hbd := Lib.hid hbd
     have HHP := Lib.hid hHP
     have hb := build_any a b c d e f y g2 cap2 _ hbd (hE.ext hx2) c0 c1 c2 c3 c4 c5 c6
     have Hb := Lib.hid hb
     simp only [List.length_cons, List.length_nil] at *
     clear hb hbd hHP hmem hst2 hc2 c0 c1 c2 c4 c6
     by_cases kd : d = [63]
     ·skip
      have qd := str_yes (s := mk d) (l := [63]) kd
      have Hr : Hid (parseO (bytes s) = buildO [a, b, c, d, e, f, y]) := by
       show _ = _
       rw [HHP.out]; rw [cronT_seven, show toldB d = false by rw [kd]; decide]; rfl
      clear kd
      go_wp2_with fail
      go_at_call 78
      refine Hb.out.mono ?_
      rintro en w3 ⟨⟨fs, v, hf, rfl, hF⟩ | ⟨hf, t, p, rfl⟩, hx3⟩
      ·have Hf := Lib.hid (Hr.out.trans hf)
       have HF := Lib.hid (hF.mono (Below.size hx2))
       clear hf hF
       go_wp2_with fail
       go_ret2
       exact ⟨.inl ⟨fs, v, Hf.out, rfl, HF.out⟩, hx2.trans hx3⟩
      ·have Hf := Lib.hid (Hr.out.trans hf)
       clear hf
       go_wp2_with fail
       go_ret2
       exact ⟨.inr ⟨Hf.out, t, p, rfl⟩, hx2.trans hx3⟩
     ·have jd := kd
      clear kd
      by_cases kd : d = [42]
      ·skip
       have qd := str_no (s := mk d) (l := [63]) jd
       have rd := str_yes (s := mk d) (l := [42]) kd
       have Hr : Hid (parseO (bytes s) = buildO [a, b, c, d, e, f, y]) := by
        show _ = _
        rw [HHP.out]; rw [cronT_seven, show toldB d = false by rw [kd]; decide]; rfl
       clear kd jd
       go_wp2_with fail
       go_at_call 78
       refine Hb.out.mono ?_
       rintro en w3 ⟨⟨fs, v, hf, rfl, hF⟩ | ⟨hf, t, p, rfl⟩, hx3⟩
       ·have Hf := Lib.hid (Hr.out.trans hf)
        have HF := Lib.hid (hF.mono (Below.size hx2))
        clear hf hF
        go_wp2_with fail
        go_ret2
        exact ⟨.inl ⟨fs, v, Hf.out, rfl, HF.out⟩, hx2.trans hx3⟩
       ·have Hf := Lib.hid (Hr.out.trans hf)
        clear hf
        go_wp2_with fail
        go_ret2
        exact ⟨.inr ⟨Hf.out, t, p, rfl⟩, hx2.trans hx3⟩
      ·skip
       have qd := str_no (s := mk d) (l := [63]) jd
       have rd := str_no (s := mk d) (l := [42]) kd
       have htd : toldB d = true := by unfold toldB; simp [jd, kd]
       have Htd := Lib.hid htd
       clear htd jd kd
       by_cases kf : f = [63]
       ·skip
        have qf := str_yes (s := mk f) (l := [63]) kf
        have Hr : Hid (parseO (bytes s) = buildO [a, b, c, d, e, f, y]) := by
         show _ = _
         rw [HHP.out]; rw [cronT_seven, Htd.out, show toldB f = false by rw [kf]; decide]; rfl
        clear kf
        go_wp2_with fail
        go_at_call 78
        refine Hb.out.mono ?_
        rintro en w3 ⟨⟨fs, v, hf, rfl, hF⟩ | ⟨hf, t, p, rfl⟩, hx3⟩
        ·have Hf := Lib.hid (Hr.out.trans hf)
         have HF := Lib.hid (hF.mono (Below.size hx2))
         clear hf hF
         go_wp2_with fail
         go_ret2
         exact ⟨.inl ⟨fs, v, Hf.out, rfl, HF.out⟩, hx2.trans hx3⟩
        ·have Hf := Lib.hid (Hr.out.trans hf)
         clear hf
         go_wp2_with fail
         go_ret2
         exact ⟨.inr ⟨Hf.out, t, p, rfl⟩, hx2.trans hx3⟩
       ·have jf := kf
        clear kf
        by_cases kf : f = [42]
        ·skip
         have qf := str_no (s := mk f) (l := [63]) jf
         have rf := str_yes (s := mk f) (l := [42]) kf
         have Hr : Hid (parseO (bytes s) = buildO [a, b, c, d, e, f, y]) := by
          show _ = _
          rw [HHP.out]; rw [cronT_seven, Htd.out, show toldB f = false by rw [kf]; decide]; rfl
         clear kf jf
         go_wp2_with fail
         go_at_call 78
         refine Hb.out.mono ?_
         rintro en w3 ⟨⟨fs, v, hf, rfl, hF⟩ | ⟨hf, t, p, rfl⟩, hx3⟩
         ·have Hf := Lib.hid (Hr.out.trans hf)
          have HF := Lib.hid (hF.mono (Below.size hx2))
          clear hf hF
          go_wp2_with fail
          go_ret2
          exact ⟨.inl ⟨fs, v, Hf.out, rfl, HF.out⟩, hx2.trans hx3⟩
         ·have Hf := Lib.hid (Hr.out.trans hf)
          clear hf
          go_wp2_with fail
          go_ret2
          exact ⟨.inr ⟨Hf.out, t, p, rfl⟩, hx2.trans hx3⟩
        ·skip
         have qf := str_no (s := mk f) (l := [63]) jf
         have rf := str_no (s := mk f) (l := [42]) kf
         have Hr : Hid (parseO (bytes s) = none) := by
          show _ = _
          have htf : toldB f = true := by unfold toldB; simp [jf, kf]
          rw [HHP.out]; rw [cronT_seven, Htd.out, htf]; rfl
         clear jf kf
         go_wp2_with fail
         go_at_call 77
         refine (new_err _ _ (hE.ext hx2)).mono ?_
         rintro en w3 ⟨t, p, rfl, hx3⟩
         go_wp2_with fail
         go_ret2
         exact ⟨.inr ⟨Hr.out, t, p, rfl⟩, hx2.trans hx3⟩
end Go.Proofs.YtmaffdhcmdhjfaaGreatDoor
namespace Go.Proofs.YtmaffdhcmdhjfaaGreatDoor
open Go.RowKit Go.Lib
theorem trim_cron (s : ByteArray) (w : World) (hs : s.size ≤ 4096) :
 Calls Tryz.prog 62 #[.string s] w fun e w' => e = .returned (.string (mk (trimL (bytes s)))) ∧ Ext w w' := by
 go_enter Tryz.func62, Tryz.ntmps62
 go_wp2_with fail
 go_at_call 79
 refine (zz_trimmed s _ hs).mono ?_
 rintro e w1 ⟨rfl, hx⟩
 go_wp2_with fail
 go_ret
 exact ⟨rfl, hx⟩
theorem zz_trim2 (s : ByteArray) (w : World) (hs : s.size ≤ 4096) :
 Calls Tryz.prog 44 #[.string s] w fun e w' => e = .returned (.string (mk (trimL (bytes s)))) ∧ Ext w w' := by
 go_enter Tryz.func44, Tryz.ntmps44
 go_wp2_with fail
 go_at_call 62
 refine (trim_cron s _ hs).mono ?_
 rintro e w1 ⟨rfl, hx⟩
 go_wp2_with fail
 go_ret
 exact ⟨rfl, hx⟩
theorem collapse_len : ∀ (l acc : List UInt8), (l.foldl colStep acc).length ≤ acc.length + l.length
 | [], acc => by simp
 | c :: l, acc => by
   have h1 := colStep_len acc c
   have h2 := collapse_len l (colStep acc c)
   simp only [List.foldl_cons, List.length_cons]; omega
theorem dropWhile_len {α : Type} (p : α → Bool) : ∀ l : List α, (l.dropWhile p).length ≤ l.length
 | [] => by simp
 | a :: l => by
   have := dropWhile_len p l
   rw [List.dropWhile_cons]; split <;> simp <;> omega
theorem trimL_len (l : List UInt8) : (trimL l).length ≤ l.length := by
 have h1 := collapse_len l []
 have h2 := dropWhile_len sp (collapse l)
 have h3 := dropWhile_len sp (stripF (collapse l)).reverse
 unfold trimL stripB
 unfold stripF collapse at *
 simp only [List.length_reverse, List.length_nil] at *
 omega
def exprO (l : List UInt8) : Option (List (List Int × Int)) := parseO (trimL l)
theorem validate (s : ByteArray) (w : World) (hs : s.size ≤ 900) (hE : Env w) :
 Calls Tryz.prog 40 #[.string s] w fun e w' => ((exprO (bytes s) ≠ none ∧ e = .returned .nilIface) ∨ (exprO (bytes s) = none ∧ ∃ t p, e = .returned (.iface t p))) ∧ Ext w w' := by
 have hl := trimL_len (bytes s)
 rw [bytes_length] at hl
 have Hl := Lib.hid hl
 clear hl
 go_enter Tryz.func40, Tryz.ntmps40
 go_wp2_with fail
 go_at_call 62
 refine (trim_cron s _ (by omega)).mono ?_
 rintro e w1 ⟨rfl, hx⟩
 go_wp2_with fail
 go_at_call 61
 refine (parse_cron _ _ (by rw [size_mk]; have := Hl.out; omega) (hE.ext hx)).mono ?_
 rintro e w2 ⟨⟨fs, v, hf, rfl, hF⟩ | ⟨hf, t, p, rfl⟩, hx2⟩
 ·rw [bytes_mk] at hf
  have hne : exprO (bytes s) ≠ none := by unfold exprO; rw [hf]; simp
  have Hne := Lib.hid hne
  obtain ⟨B, ps, rfl, _⟩ := hF
  clear hf hne
  go_wp2_with fail
  go_ret
  exact ⟨.inl ⟨Hne.out, rfl⟩, hx.trans hx2⟩
 ·rw [bytes_mk] at hf
  have Hf : Hid (exprO (bytes s) = none) := hf
  clear hf
  go_wp2_with fail
  go_ret
  exact ⟨.inr ⟨Hf.out, t, p, rfl⟩, hx.trans hx2⟩
theorem isText_len {l : List UInt8} (h : isTextB l = true) : l.length ≤ 120 := by
 unfold isTextB at h
 simp only [Bool.and_eq_true, decide_eq_true_eq] at h
 exact h.2
theorem impl_valid (s : ByteArray) (w : World) (hs : s.size ≤ 100000000) (hE : Env w) :
 Calls Tryz.prog 17 #[.string s] w fun e w' => e = .returned (.bool (isTextB (bytes s) && (exprO (bytes s)).isSome)) ∧ Ext w w' := by
 go_enter Tryz.func17, Tryz.ntmps17
 go_wp2_with fail
 go_at_call 38
 refine (is_text s _ hs).mono ?_
 rintro e w1 ⟨rfl, rfl⟩
 rcases ht : isTextB (bytes s)
 ·have Ht := Lib.hid ht
  clear ht
  go_wp2_with fail
  go_ret
  exact ⟨ret_bool (by rw [Ht.out]; rfl), Ext.refl _⟩
 ·have hl := isText_len ht
  rw [bytes_length] at hl
  have Ht := Lib.hid ht
  clear ht
  go_wp2_with fail
  go_at_call 40
  refine (validate s _ (by omega) hE).mono ?_
  rintro e w1 ⟨⟨hne, rfl⟩ | ⟨hf, t, p, rfl⟩, hx⟩
  ·have Hb : Hid ((exprO (bytes s)).isSome = true) := by show _ = _; rw [Option.isSome_iff_ne_none]; exact hne
   clear hne
   go_wp2_with fail
   go_ret
   exact ⟨ret_bool (by rw [Ht.out, Hb.out]; rfl), hx⟩
  ·have Hb : Hid ((exprO (bytes s)).isSome = false) := by show _ = _; rw [hf]; rfl
   clear hf
   go_wp2_with fail
   go_ret
   exact ⟨ret_bool (by rw [Ht.out, Hb.out]; rfl), hx⟩
theorem impl_trimmed (s : ByteArray) (w : World) (hs : s.size ≤ 100000000) (ht : isTextB (bytes s) = true) :
 Calls Tryz.prog 21 #[.string s] w fun e w' => e = .returned (.string (mk (trimL (bytes s)))) ∧ Ext w w' := by
 have hl := isText_len ht
 rw [bytes_length] at hl
 go_enter Tryz.func21, Tryz.ntmps21
 go_wp2_with fail
 go_at_call 38
 refine (is_text s _ hs).mono ?_
 rintro e w1 ⟨rfl, rfl⟩
 rw [ht]
 clear ht
 go_wp2_with fail
 go_at_call 44
 refine (zz_trim2 s _ (by omega)).mono ?_
 rintro e w1 ⟨rfl, hx⟩
 go_wp2_with fail
 go_ret
 exact ⟨rfl, hx⟩
def IntRows (w : World) (base : Nat) (v : Value) (ls : List (List Int)) : Prop :=
 ∃ xs, w.ownsRow base 38 1 v ls.length xs ∧ ∀ (i : Nat) (x : Value) (l : List Int), xs[i]? = some x → ls[i]? = some l → Ints w base x l
theorem IntRows.ext {w w' : World} {base : Nat} {v : Value} {ls : List (List Int)} (h : IntRows w base v ls) (x : Ext w w') : IntRows w' base v ls := by
 obtain ⟨xs, h1, h2⟩ := h
 exact ⟨xs, own_ext x h1, fun i y l a b => (h2 i y l a b).ext x⟩
theorem IntRows.nil (w : World) (base : Nat) : IntRows w base (.slice none 0 0) [] := ⟨[], World.ownsRow_nil _ _ _ _, fun i x l h => by simp at h⟩
theorem Ints.other {w w1 : World} {base b n : Nat} {x v : Value} {l : List Int} {xs : List Value} (h : Ints w base x l) (ho : w.ownsRow b 38 1 v n xs) (hg : w.grownBy w1 v.ownBlock) : Ints w1 base x l := by
 refine own_other h hg (fun g hx hv => ?_)
 rcases h.2 with ⟨rfl, _⟩ | ⟨g1, _, c1, rfl, _, h1, _⟩
 ·cases hx
 ·injection hx with hx; simp at hx; subst hx
  rcases ho.2 with ⟨rfl, _⟩ | ⟨g2, _, c2, rfl, _, h2, _⟩
  ·cases hv
  ·injection hv with hv; simp at hv; subst hv
   rw [h1] at h2; injection h2 with h2; injection h2 with _ h2; cases h2
theorem IntRows.snoc {w w1 : World} {base : Nat} {v v' x : Value} {ls : List (List Int)} {l : List Int} {xs : List Value} (ho : w.ownsRow base 38 1 v ls.length xs)
 (hi : ∀ (i : Nat) (x : Value) (l : List Int), xs[i]? = some x → ls[i]? = some l → Ints w base x l) (hx : Ints w base x l)
 (hn : w1.ownsRow base 38 1 v' (ls.length + 1) (xs ++ [x])) (hg : (w.alloc (.cells #[x] 38)).grownBy w1 v.ownBlock) : IntRows w1 base v' (ls ++ [l]) := by
 have ho' := ho.alloc (.cells #[x] 38)
 have hlen : xs.length = ls.length := by have := ho.1; omega
 refine ⟨xs ++ [x], by simpa using hn, fun i y m h1 h2 => ?_⟩
 rcases Nat.lt_trichotomy i xs.length with h | h | h
 ·rw [List.getElem?_append_left h] at h1
  rw [List.getElem?_append_left (by omega)] at h2
  exact ((hi i y m h1 h2).ext (Ext.alloc _ _)).other ho' hg
 ·subst h
  rw [List.getElem?_append_right (Nat.le_refl _)] at h1
  rw [List.getElem?_append_right (by omega)] at h2
  simp [hlen] at h1 h2
  subst h1; subst h2
  exact (hx.ext (Ext.alloc _ _)).other ho' hg
 ·rw [List.getElem?_eq_none (by simp; omega)] at h1; cases h1
theorem Tryz.info38 : (Tryz.prog.info? 38).map (fun i => (i.zero, i.size, i.bytes)) = some (some (.slice none 0 0), 1, 24) := by kernel_rfl
theorem IntRows.mono {w : World} {b b' : Nat} {v : Value} {ls : List (List Int)} (h : IntRows w b v ls) (hb : b' ≤ b) : IntRows w b' v ls := by
 obtain ⟨xs, h1, h2⟩ := h
 exact ⟨xs, ⟨h1.1, h1.2.imp id fun ⟨g, cap, cur, q1, q2, q3⟩ => ⟨g, cap, cur, q1, Nat.le_trans hb q2, q3⟩⟩, fun i x l p q => (h2 i x l p q).mono hb⟩
theorem domO_len {l : List UInt8} {zs : List Int} {n : Int} (h : domO [] 1 31 l = some (zs, n)) (hl : l.length ≤ 1000) : zs.length ≤ 100000000 := by
 unfold domO at h
 split at h
 ·split at h
  ·injection h with h; injection h with h h2; subst h; simp
  ·split at h
   ·split at h
    ·cases h
    ·split at h
     ·injection h with h; injection h with h h2; subst h; simp
     ·cases h
   ·cases h
 ·split at h
  ·split at h
   ·injection h with h; injection h with h h2; subst h; simp
   ·split at h
    ·split at h
     ·cases h
     ·split at h
      ·injection h with h; injection h with h h2; subst h; simp
      ·cases h
    ·simp only [Option.map_eq_some_iff] at h
     obtain ⟨y, hy, he⟩ := h
     injection he with he; subst he
     exact fieldO_len hy (by decide) (by decide) hl
  ·simp only [Option.map_eq_some_iff] at h
   obtain ⟨y, hy, he⟩ := h
   injection he with he; subst he
   exact fieldO_len hy (by decide) (by decide) hl
theorem buildO_len {t : List (List UInt8)} {fs : List (List Int × Int)} (h : buildO t = some fs) (ht : ∀ x ∈ t, x.length ≤ 1000) : ∀ f ∈ fs, f.1.length ≤ 100000000 := by
 unfold buildO at h
 split at h
 ·rename_i a b c d e f g
  split at h
  ·cases h
  ·rename_i A hA
   split at h
   ·cases h
   ·rename_i B hB
    split at h
    ·cases h
    ·rename_i C hC
     split at h
     ·cases h
     ·rename_i D dn hD
      split at h
      ·cases h
      ·rename_i E hE
       split at h
       ·cases h
       ·rename_i F wn hF
        split at h
        ·cases h
        ·rename_i G hG
         injection h with h
         subst h
         intro x hx
         simp only [List.mem_cons, List.not_mem_nil, or_false] at hx
         rcases hx with rfl | rfl | rfl | rfl | rfl | rfl | rfl
         ·exact fieldO_len hA (by decide) (by decide) (ht _ (by simp))
         ·exact fieldO_len hB (by decide) (by decide) (ht _ (by simp))
         ·exact fieldO_len hC (by decide) (by decide) (ht _ (by simp))
         ·exact domO_len hD (ht _ (by simp))
         ·exact fieldO_len hE (by decide) (by decide) (ht _ (by simp))
         ·have := dowO_len hF (ht _ (by simp)); simpa using this
         ·exact fieldO_len hG (by decide) (by decide) (ht _ (by simp))
 ·cases h
theorem special_len {l v : List UInt8} (h : specialO l = some v) : v.length ≤ 11 := by
 unfold specialO at h
 repeat' split at h
 all_goals first
  | (injection h with h; subst h; decide)
  | cases h
theorem tokens_len {l : List UInt8} (hl : l.length ≤ 900) : ∀ x ∈ withYear (tokens l), x.length ≤ 1000 := by
 have key : ∀ x ∈ tokens l, x.length ≤ 900 := by
  intro x hx
  have := splitL_item _ 32 x hx
  cases hs : specialO l with
  | none => rw [hs, Option.getD_none] at this; omega
  | some v => rw [hs, Option.getD_some] at this; have := special_len hs; omega
 intro x hx
 unfold withYear at hx
 split at hx
 ·rcases List.mem_append.mp hx with h | h
  ·have := key x h; omega
  ·simp at h; subst h; simp
 ·have := key x hx; omega
theorem fields_len {l : List UInt8} {fs : List (List Int × Int)} (h : exprO l = some fs) (hl : l.length ≤ 900) : ∀ f ∈ fs, f.1.length ≤ 100000000 := by
 have hl2 := trimL_len l
 have ht := tokens_len (l := trimL l) (by omega)
 unfold exprO parseO at h
 rcases hT : withYear (tokens (trimL l)) with _ | ⟨a, _ | ⟨b, _ | ⟨c, _ | ⟨d, _ | ⟨e, _ | ⟨f, _ | ⟨g, _ | ⟨y, t⟩⟩⟩⟩⟩⟩⟩⟩ <;> rw [hT] at h ht
 all_goals first
  | (rw [cronT_seven] at h
     split at h
     ·cases h
     ·exact buildO_len h ht)
  | (rw [cronT_len (by simp)] at h; cases h)
def FieldsPost (w : World) (fs : List (List Int × Int)) (en : Ending) (w' : World) : Prop :=
 ∃ v a b, en = .returned (.tuple #[v, .int .i64 (a : Int), .int .i64 (b : Int), .nilIface]) ∧ (fs[3]?.map (·.2)) = some a ∧ (fs[5]?.map (·.2)) = some b ∧ IntRows w' w.heap.size v (fs.map (·.1)) ∧ Ext w w'
set_option maxHeartbeats 3200000 in
set_option maxRecDepth 1000000 in
theorem zz_fields (s : ByteArray) (w : World) (hs : s.size ≤ 900) (hE : Env w) :
 Calls Tryz.prog 39 #[.string s] w fun e w' => ((∃ fs, exprO (bytes s) = some fs ∧ FieldsPost w fs e w') ∨
  (exprO (bytes s) = none ∧ ∃ t p, e = .returned (.tuple #[.slice none 0 0, .int .i64 0, .int .i64 0, .iface t p]) ∧ Ext w w')) := by
 obtain ⟨i0, hi0, hz0, hz1, hz2⟩ := info_parts Tryz.info38
 obtain ⟨j0, hj0, hy0, hy1, hy2⟩ := info_parts Tryz.info3
 have hl := trimL_len (bytes s)
 rw [bytes_length] at hl
 have Hl := Lib.hid hl
 clear hl
 go_enter Tryz.func39, Tryz.ntmps39
 go_wp2_with fail
 go_at_call 62
 refine (trim_cron s _ (by omega)).mono ?_
 rintro e w1 ⟨rfl, hx1⟩
 go_wp2_with fail
 go_at_call 61
 refine (parse_cron _ _ (by rw [size_mk]; have := Hl.out; omega) (hE.ext hx1)).mono ?_
 rintro e w2 ⟨⟨fs, v, hf, rfl, hF⟩ | ⟨hf, t, p, rfl⟩, hx2⟩
 ·rw [bytes_mk] at hf
  have Hf : Hid (exprO (bytes s) = some fs) := hf
  have hx02 := hx1.trans hx2
  obtain ⟨B, ps, rfl, hBb, hB, hpl, hFL⟩ := hF.mono (Below.size hx1)
  have HFL := Lib.hid hFL
  have hfl : fs.length = 7 := by rw [← hFL.1]; exact hpl
  have HB := Lib.hid hB
  have Hpl := Lib.hid hpl
  have Hfl := Lib.hid hfl
  have Hsz : Hid (∀ f ∈ fs, f.1.length ≤ 100000000) := fields_len (l := bytes s) hf (by rw [bytes_length]; omega)
  clear hf hF hFL hB hpl hfl
  go_wp2_with fail
  go_loopw [8, 10, 22] (fun v8 _ i wr => ∃ (k : Nat) (ls : List (List Int)), k ≤ 7 ∧ i = .int .i64 k ∧ ls.length = k ∧ Hid (ls = (fs.take k).map (·.1)) ∧ Hid (IntRows wr w2.heap.size v8 ls) ∧ Ext w2 wr)
   (fun _ _ i _ => 7 - (RowKit.intOf i).toNat)
  case atStart => exact ⟨0, [], Nat.zero_le _, rfl, rfl, rfl, IntRows.nil _ _, Ext.refl _⟩
  case round =>
   obtain ⟨k, ls, hk, rfl, hlk, Hls, HR, hx⟩ := hrel
   have Hlk := Lib.hid hlk
   by_cases hlt : k < 7
   ·obtain ⟨p, hp⟩ : ∃ p, ps[k]? = some p := ⟨_, List.getElem?_eq_getElem (by rw [Hpl.out]; exact hlt)⟩
    obtain ⟨f, hf1⟩ : ∃ f, fs[k]? = some f := ⟨_, List.getElem?_eq_getElem (by rw [Hfl.out]; exact hlt)⟩
    have hFd := (HFL.out.2.1 k p f hp hf1).ext hx
    have hBr := (Below.block hx B (block_lt HB.out)).trans HB.out
    have hck : wr.cell? ⟨B, k, none⟩ = some p := row_cell hBr (by simpa using hp)
    obtain ⟨N, sl, rfl, hNb, hN, hI⟩ := hFd
    have hcn : wr.cell? ⟨N, 0, none⟩ = some sl := by simp [World.cell?, hN]
    have Hf1 := Lib.hid hf1
    obtain ⟨xs, hown, hin⟩ := HR.out
    rw [hlk] at hown
    have Hown := Lib.hid hown
    have Hin := Lib.hid hin
    have hll : f.1.length ≤ 100000000 := Hsz.out f (List.mem_iff_getElem?.mpr ⟨k, hf1⟩)
    have hIx := hI.2
    rcases hIx with ⟨hsl, h0⟩ | ⟨g, cap, cur, hsl, hgb, hg, hnc, hcm, hcs, htk⟩
    ·subst hsl
     have h0' : f.1 = [] := List.length_eq_zero_iff.mp h0
     have HI5 : Hid (Ints wr w2.heap.size (.slice none 0 0) f.1) := by show World.ownsRow _ _ _ _ _ _ _; rw [h0']; exact World.ownsRow_nil _ _ _ _
     have Hown5 := Hown
     have Hin5 := Hin
     have ownr := Hown.out
     have hx5 := hx
     obtain ⟨w5, hw5⟩ : ∃ w5, w5 = wr := ⟨_, rfl⟩
     subst hw5
     clear hf1 hp hBr hN hI hown hin hll h0 h0' hlk
     go_wp2_with (first
      | (at_builtin; refine wpList_append_own _ rfl _ _ 30 rfl w2.heap.size 38 i0 (.slice none 0 0) 1 24 Tryz.underlying30 hi0 hz0 hz1 hz2 rfl (by decide) _ _ _ rfl (ownr.alloc _) ⟨w5.heap.size, 0, none⟩ 1 1 [.slice none 0 0] rfl rfl ?c1 ?c2 ?c3 ?c4 ?c5 ?_)
      | go_in)
     case c1 => exact cell_one_new _ _ _
     case c2 => intro u hu; simp at hu; subst hu; rfl
     case c3 => unfold maxLen; omega
     case c4 => omega
     case c5 => have := hx5.size; simp; omega
     intro v2 w6 hown2 hgr2 _
     have A1 : Hid (IntRows w6 w2.heap.size v2 (ls ++ [f.1])) := IntRows.snoc (by rw [Hlk.out]; exact Hown5.out) Hin5.out HI5.out (by rw [Hlk.out]; exact hown2) hgr2
     have A2 : Ext w2 w6 := Ext.own_grown hx5 ownr hgr2
     have A3 : Hid (ls ++ [f.1] = (fs.take (k + 1)).map (·.1)) := by
      show _ = _
      rw [Hls.out, take_snocL fs k f Hf1.out, List.map_append]; rfl
     clear hown2 hgr2 ownr
     go_wp2_with fail
     go_roundw
     case rel => exact ⟨k + 1, ls ++ [f.1], by omega, by go_num, by rw [List.length_append, Hlk.out]; rfl, A3, A1, A2⟩
     case measure => simp [RowKit.intOf]; omega
    ·subst hsl
     have hq : f.1.length = f.1.length := rfl
     obtain ⟨q, hq⟩ : ∃ q, q = f.1.length := ⟨_, rfl⟩
     have hqb : q ≤ 100000000 := by omega
     have hnews : ∀ j u, (ints f.1)[j]? = some u → wr.cell? ((⟨g, 0, none⟩ : Addr).add j) = some u := fun j u hu => by
      have ha : (⟨g, 0, none⟩ : Addr).add j = ⟨g, j, none⟩ := by unfold Addr.add; split <;> simp_all
      have hj := (List.getElem?_eq_some_iff.mp hu).1
      rw [ints_length] at hj
      rw [ha, World.ownsRow.cellAt hI j (by omega)]; exact hu
     have hil : (ints f.1).length = q * 1 := by rw [ints_length]; omega
     have hnews2 : ∀ j u, (ints f.1)[j]? = some u → wr.cell? ⟨g, j, none⟩ = some u := fun j u hu => by
      have hj := (List.getElem?_eq_some_iff.mp hu).1
      rw [ints_length] at hj
      rw [World.ownsRow.cellAt hI j (by omega)]; exact hu
     have Hnews := Lib.hid hnews
     have Hnews2 := Lib.hid hnews2
     clear hnews2
     have Hil := Lib.hid hil
     have Hq := Lib.hid hq
     rw [← hq] at hcn
     clear hf1 hp hBr hN hI hown hin hll hlk hg hnc hcm hcs htk hnews hil hq
     go_wp2_with (first
      | (at_builtin; refine wpList_append_own _ rfl _ _ 38 rfl w2.heap.size 3 j0 (.int .i64 0) 1 8 Tryz.underlying38 hj0 hy0 hy1 hy2 rfl (by decide) (.slice none 0 0) 0 [] rfl (World.ownsRow_nil _ _ _ _) ⟨g, 0, none⟩ q cap (ints f.1) rfl Hil.out ?c1 ?c2 ?c3 ?c4 ?c5 ?_)
      | go_in)
     case c1 => first | exact Hnews.out | exact Hnews2.out
     case c2 => exact ints_one _
     case c3 => unfold maxLen; omega
     case c4 => omega
     case c5 => exact hx.size
     intro v1 w5 hown1 hgr1 _
     have hxa : Ext wr w5 := Below.grown (Below.refl _ _) hgr1 (Nat.le_refl _) (fun k h => by cases h)
     have hx5 := hx.trans hxa
     have HI5 : Hid (Ints w5 w2.heap.size v1 f.1) := by
      show World.ownsRow _ _ _ _ _ _ _
      rw [← Hq.out]; simpa using hown1
     have Hown5 := Lib.hid (own_ext hxa Hown.out)
     have Hin5 : Hid (∀ (i : Nat) (x : Value) (l : List Int), xs[i]? = some x → ls[i]? = some l → Ints w5 w2.heap.size x l) := fun i x l a b => (Hin.out i x l a b).ext hxa
     obtain ⟨ax, cx, hax⟩ := own_any HI5.out
     obtain ⟨m5, hm5⟩ : ∃ m, m = f.1.length := ⟨_, rfl⟩
     rw [← hm5] at hax
     subst hax
     have ownr := Hown5.out
     clear hown1 hgr1 hm5
     go_wp2_with (first
      | (at_builtin; refine wpList_append_own _ rfl _ _ 30 rfl w2.heap.size 38 i0 (.slice none 0 0) 1 24 Tryz.underlying30 hi0 hz0 hz1 hz2 rfl (by decide) _ _ _ rfl (ownr.alloc _) ⟨w5.heap.size, 0, none⟩ 1 1 [.slice ax m5 cx] rfl rfl ?c1 ?c2 ?c3 ?c4 ?c5 ?_)
      | go_in)
     case c1 => exact cell_one_new _ _ _
     case c2 => intro u hu; simp at hu; subst hu; rfl
     case c3 => unfold maxLen; omega
     case c4 => omega
     case c5 => have := hx5.size; simp; omega
     intro v2 w6 hown2 hgr2 _
     have A1 : Hid (IntRows w6 w2.heap.size v2 (ls ++ [f.1])) := IntRows.snoc (by rw [Hlk.out]; exact Hown5.out) Hin5.out HI5.out (by rw [Hlk.out]; exact hown2) hgr2
     have A2 : Ext w2 w6 := Ext.own_grown hx5 ownr hgr2
     have A3 : Hid (ls ++ [f.1] = (fs.take (k + 1)).map (·.1)) := by
      show _ = _
      rw [Hls.out, take_snocL fs k f Hf1.out, List.map_append]; rfl
     clear hown2 hgr2 ownr
     go_wp2_with fail
     go_roundw
     case rel => exact ⟨k + 1, ls ++ [f.1], by omega, by go_num, by rw [List.length_append, Hlk.out]; rfl, A3, A1, A2⟩
     case measure => simp [RowKit.intOf]; omega
   ·have hk7 : k = 7 := by omega
    have ha : ∀ (i : Nat) (f : List Int × Int), fs[i]? = some f → ∃ N, (∃ p : Value, ps[i]? = some p ∧ p = Value.pointer (some ⟨N, 0, none⟩)) ∧ wr.cell? ⟨N, 1, none⟩ = some (.int .i64 f.2) := fun i f hf => by
     have hi := (List.getElem?_eq_some_iff.mp hf).1
     obtain ⟨p, hp⟩ : ∃ p, ps[i]? = some p := ⟨_, List.getElem?_eq_getElem (by rw [Hpl.out, ← Hfl.out]; exact hi)⟩
     obtain ⟨N, sl, rfl, hNb, hN, hI⟩ := (HFL.out.2.1 i p f hp hf).ext hx
     exact ⟨N, ⟨_, hp, rfl⟩, by simp [World.cell?, hN]⟩
    obtain ⟨f3, hf3⟩ : ∃ f, fs[3]? = some f := ⟨_, List.getElem?_eq_getElem (by rw [Hfl.out]; decide)⟩
    obtain ⟨f5, hf5⟩ : ∃ f, fs[5]? = some f := ⟨_, List.getElem?_eq_getElem (by rw [Hfl.out]; decide)⟩
    obtain ⟨N3, ⟨_, hp3, rfl⟩, cn3⟩ := ha 3 f3 hf3
    obtain ⟨N5, ⟨_, hp5, rfl⟩, cn5⟩ := ha 5 f5 hf5
    have hBr := (Below.block hx B (block_lt HB.out)).trans HB.out
    have cb3 : wr.cell? ⟨B, 3, none⟩ = some (.pointer (some ⟨N3, 0, none⟩)) := row_cell hBr (by simpa using hp3)
    have cb5 : wr.cell? ⟨B, 5, none⟩ = some (.pointer (some ⟨N5, 0, none⟩)) := row_cell hBr (by simpa using hp5)
    have Hf3 : Hid (fs[3]?.map (·.2) = some f3.2) := by show _ = _; rw [hf3]; rfl
    have Hf5 : Hid (fs[5]?.map (·.2) = some f5.2) := by show _ = _; rw [hf5]; rfl
    have HR2 : Hid (IntRows wr w.heap.size u8 (fs.map (·.1))) := by
     have h := HR.out.mono (Below.size hx02)
     rw [Hls.out, List.take_of_length_le (by rw [Hfl.out]; omega)] at h
     exact h
    clear ha hf3 hf5 hp3 hp5 hBr hlk
    obtain ⟨a8, c8, h8⟩ := own_any HR2.out.choose_spec.1
    obtain ⟨m8, hm8⟩ : ∃ m, m = (fs.map (·.1)).length := ⟨_, rfl⟩
    rw [← hm8] at h8
    subst h8
    clear hm8
    go_wp2_with fail
    go_region
    all_goals go_wp2_with fail
    all_goals exact bodyPost_ret (v := .tuple #[.slice a8 m8 c8, .int .i64 f3.2, .int .i64 f5.2, .nilIface]) (by simp [results, Tryz.results39, go_sem]) rfl (.inl ⟨fs, Hf.out, _, _, _, rfl, Hf3.out, Hf5.out, HR2.out.ext (Ext.drew _), (hx02.trans hx).trans (Ext.drew _)⟩)
 ·rw [bytes_mk] at hf
  have Hf : Hid (exprO (bytes s) = none) := hf
  clear hf
  go_wp2_with fail
  exact bodyPost_ret (v := .tuple #[.slice none 0 0, .int .i64 0, .int .i64 0, .iface t p]) (by simp [results, Tryz.results39, go_sem]) rfl (.inr ⟨Hf.out, t, p, rfl, hx1.trans hx2⟩)
end Go.Proofs.YtmaffdhcmdhjfaaGreatDoor
namespace Go.Proofs.YtmaffdhcmdhjfaaGreatDoor
open Go.RowKit Go.Lib
def implO (l : List UInt8) : Option (List (List Int × Int)) := if isTextB l then exprO l else none
def ImplPost (w : World) (r : Option (List (List Int × Int))) (en : Ending) (w' : World) : Prop :=
 ((∃ fs v a b, r = some fs ∧ en = .returned (.tuple #[v, .int .i64 (a : Int), .int .i64 (b : Int), .bool true]) ∧ (fs[3]?.map (·.2)) = some a ∧ (fs[5]?.map (·.2)) = some b ∧ IntRows w' w.heap.size v (fs.map (·.1))) ∨
   (r = none ∧ en = .returned (.tuple #[.slice none 0 0, .int .i64 0, .int .i64 0, .bool false]))) ∧ Ext w w'
set_option maxHeartbeats 800000 in
theorem impl_fields (s : ByteArray) (w : World) (hs : s.size ≤ 100000000) (hE : Env w) :
 Calls Tryz.prog 15 #[.string s] w fun e w' => ImplPost w (implO (bytes s)) e w' := by
 go_enter Tryz.func15, Tryz.ntmps15
 go_wp2_with fail
 go_at_call 38
 refine (is_text s _ hs).mono ?_
 rintro e w1 ⟨rfl, rfl⟩
 rcases ht : isTextB (bytes s)
 ·have Hr : Hid (implO (bytes s) = none) := by show _ = _; unfold implO; rw [ht]; rfl
  clear ht
  go_wp2_with fail
  exact bodyPost_ret (v := .tuple #[.slice none 0 0, .int .i64 0, .int .i64 0, .bool false]) (by simp [results, Tryz.results15, go_sem]) rfl ⟨.inr ⟨Hr.out, rfl⟩, Ext.refl _⟩
 ·have hl := isText_len ht
  rw [bytes_length] at hl
  have Hi : Hid (implO (bytes s) = exprO (bytes s)) := by show _ = _; unfold implO; rw [ht]; rfl
  clear ht
  go_wp2_with fail
  go_at_call 39
  refine (zz_fields s _ (by omega) hE).mono ?_
  rintro e w1 (⟨fs, hf, v, a, b, rfl, ha, hb, hR, hx⟩ | ⟨hf, t, p, rfl, hx⟩)
  ·have Hr := Lib.hid (Hi.out.trans hf)
   have Ha := Lib.hid ha
   have Hb := Lib.hid hb
   obtain ⟨a8, c8, h8⟩ := own_any hR.choose_spec.1
   obtain ⟨m8, hm8⟩ : ∃ m, m = (fs.map (·.1)).length := ⟨_, rfl⟩
   rw [← hm8] at h8
   subst h8
   have HR := Lib.hid hR
   clear hf ha hb hR hm8
   go_wp2_with fail
   exact bodyPost_ret (v := .tuple #[.slice a8 m8 c8, .int .i64 a, .int .i64 b, .bool true]) (by simp [results, Tryz.results15, go_sem]) rfl ⟨.inl ⟨fs, _, _, _, Hr.out, rfl, Ha.out, Hb.out, HR.out⟩, hx⟩
  ·have Hr := Lib.hid (Hi.out.trans hf)
   clear hf
   go_wp2_with fail
   exact bodyPost_ret (v := .tuple #[.slice none 0 0, .int .i64 0, .int .i64 0, .bool false]) (by simp [results, Tryz.results15, go_sem]) rfl ⟨.inr ⟨Hr.out, rfl⟩, hx⟩
end Go.Proofs.YtmaffdhcmdhjfaaGreatDoor
