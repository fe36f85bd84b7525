/- What all walks of this seat share: later worlds, the tables' reading, parts of an expression as values. What the functions of package quartz compute of an expression, as plain functions on bytes. The small functions on texts: zzHas, zzDigits, zzWords. zzSplit. What the functions read of the laid variables; Atoi, Itoa and the makers of errors by their contracts. zzWithoutLast, zzIsLastDay, zzIsWeekday, zzIsLastWeekday. zzIsHash, zzUpper. months, days, translateLiteral, normalize. fillRangeValues, fillStepValues. extractStepValues, extractRangeValues. translateLiterals. parseRangeField. parseStepField. -/
import Derived.Test.YtmaffdhcmdhjfaaGreatDoorProg
import Derived.WalkKit
import Derived.WalkLawsBesides
import Derived.WalkSpells
import Derived.BigQuiet
import Derived.Deep.QuietTactic
import Derived.Deep.RegionWith
import Derived.Lib.Hide
import Derived.Lib.LaidTab
import Derived.Lib.ItoaNum
import Derived.Laws.OwnMore
import Derived.Deep.AppendLies
import Derived.Test.YtmaffdhcmdhjfaaGreatDoorShelf
import Derived.Laws.AppendOwn
import Derived.Maps.AppendAt
import Derived.Sort.Walk7
import Derived.Lib.SmallJoins
import Derived.OwnWalk
set_option linter.unusedSimpArgs false
set_option linter.unusedVariables false
namespace Go.Proofs.YtmaffdhcmdhjfaaGreatDoor
open Go.RowKit
def Ext (w w' : World) : Prop := Below w.heap.size w w'
theorem Ext.refl (w : World) : Ext w w := Below.refl _ _
theorem Ext.trans {a b c : World} (h : Ext a b) (k : Ext b c) : Ext a c := Below.trans h (Below.mono k h.size)
theorem Ext.alloc (w : World) (o : Obj) : Ext w (w.alloc o) := (Below.refl _ _).alloc (Nat.le_refl _) _
theorem Ext.drew (w : World) : Ext w w.drew := (Below.refl _ _).drew
theorem Ext.cell {w w' : World} (h : Ext w w') {a : Addr} {v : Value} (hc : w.cell? a = some v) : w'.cell? a = some v := by
 have hl : a.block < w.heap.size := by
  rcases Nat.lt_or_ge a.block w.heap.size with h' | h'
  ·exact h'
  ·simp [World.cell?, Array.getElem?_eq_none h'] at hc
 rw [(show Below w.heap.size w w' from h).cell hl]; exact hc
structure Atom where
 k : Int
 a : Int
 b : Int
 s : Int
 n : Int
 it : Value
def Atom.cells (p : Atom) : Array Value := #[.int .i64 p.k, .int .i64 p.a, .int .i64 p.b, .int .i64 p.s, .int .i64 p.n, p.it]
def Atom.val (p : Atom) : Value := .agg #[.int .i64 p.k, .int .i64 p.a, .int .i64 p.b, .int .i64 p.s, .int .i64 p.n, p.it]
theorem told_any (k a b s n : Int) (it : Value) (w : World) :
 Calls Tryz.prog 36 #[.agg #[.int .i64 k, .int .i64 a, .int .i64 b, .int .i64 s, .int .i64 n, it]] w fun e w' => e = .returned (.bool (!(k == 0) && !(k == 1))) ∧ Ext w w' := by
 go_enter Tryz.func36, Tryz.ntmps36
 go_wp2
 all_goals go_ret
 ·subst_vars; exact ⟨by simp, Ext.alloc _ _⟩
 ·exact ⟨rfl, Ext.alloc _ _⟩
end Go.Proofs.YtmaffdhcmdhjfaaGreatDoor
namespace Go.Proofs.YtmaffdhcmdhjfaaGreatDoor
open Go.RowKit
def bytes (s : ByteArray) : List UInt8 := s.data.toList
def mk (l : List UInt8) : ByteArray := ⟨l.toArray⟩
theorem bytes_mk (l : List UInt8) : bytes (mk l) = l := rfl
theorem mk_bytes (s : ByteArray) : mk (bytes s) = s := rfl
theorem mk_eq (s : ByteArray) (l : List UInt8) (h : bytes s = l) : s = mk l := by rw [← h, mk_bytes]
theorem size_mk (l : List UInt8) : (mk l).size = l.length := rfl
theorem bytes_length (s : ByteArray) : (bytes s).length = s.size := rfl
def isDig (c : UInt8) : Bool := decide (48 ≤ c.toNat) && decide (c.toNat ≤ 57)
def digitsB (l : List UInt8) : Bool := l.all isDig && decide (0 < l.length)
def isWord (c : UInt8) : Bool := (decide (48 ≤ c.toNat) && decide (c.toNat ≤ 57)) || (decide (97 ≤ c.toNat) && decide (c.toNat ≤ 122)) || (decide (65 ≤ c.toNat) && decide (c.toNat ≤ 90))
def upC (c : UInt8) : UInt8 := if 97 ≤ c.toNat ∧ c.toNat ≤ 122 then UInt8.ofNat (c.toNat - 32) else c
def upperL (l : List UInt8) : List UInt8 := l.map upC
def lastDayB (l : List UInt8) : Bool := l == [76] || (decide (2 < l.length) && (l.take 2 == [76, 45] && digitsB (l.drop 2)))
def weekdayB (l : List UInt8) : Bool := decide (1 < l.length) && (l.getLast? == some 87 && digitsB l.dropLast)
def lastWeekdayB (l : List UInt8) : Bool := decide (0 < l.length) && (l.getLast? == some 76 && l.all isWord)
def splitGo (c : UInt8) : List UInt8 → List UInt8 → List (List UInt8)
 | cur, [] => [cur]
 | cur, x :: xs => if x = c then cur :: splitGo c [] xs else splitGo c (cur ++ [x]) xs
def splitL (l : List UInt8) (c : UInt8) : List (List UInt8) := splitGo c [] l
def hashB (l : List UInt8) : Bool := match splitL l 35 with
 | [a, b] => decide (0 < a.length) && (a.all isWord && digitsB b)
 | _ => false
def monthN : List (List UInt8) := [[48], [74, 65, 78], [70, 69, 66], [77, 65, 82], [65, 80, 82], [77, 65, 89], [74, 85, 78], [74, 85, 76], [65, 85, 71], [83, 69, 80], [79, 67, 84], [78, 79, 86], [68, 69, 67]]
def dayN : List (List UInt8) := [[48], [83, 85, 78], [77, 79, 78], [84, 85, 69], [87, 69, 68], [84, 72, 85], [70, 82, 73], [83, 65, 84]]
def translateO (names : List (List UInt8)) (l : List UInt8) : Option Int := (names.findIdx? (fun n => n == upperL l)).map fun i => (i : Int)
theorem bytes_extract (s : ByteArray) (a b : Nat) : bytes (s.extract a b) = ((bytes s).take b).drop a := by
 unfold bytes
 rw [ByteArray.data_extract, Array.toList_extract, List.extract_eq_take_drop, List.drop_take]
def strs (l : List (List UInt8)) : List Value := l.map fun x => .string (mk x)
def ints (l : List Int) : List Value := l.map (Value.int .i64)
theorem strs_length (l : List (List UInt8)) : (strs l).length = l.length := by simp [strs]
theorem ints_length (l : List Int) : (ints l).length = l.length := by simp [ints]
def Strs (w : World) (base : Nat) (v : Value) (l : List (List UInt8)) : Prop := w.ownsRow base 9 1 v l.length (strs l)
def Ints (w : World) (base : Nat) (v : Value) (l : List Int) : Prop := w.ownsRow base 3 1 v l.length (ints l)
theorem own_ext {w w' : World} {base e size n : Nat} {v : Value} {xs : List Value} (h : Ext w w') (ho : w.ownsRow base e size v n xs) : w'.ownsRow base e size v n xs := by
 refine ⟨ho.1, ?_⟩
 rcases ho.2 with hn | ⟨g, cap, cur, hv, hb, hg, rest⟩
 ·exact .inl hn
 ·refine .inr ⟨g, cap, cur, hv, hb, ?_, rest⟩
  have hl : g < w.heap.size := by
   rcases Nat.lt_or_ge g w.heap.size with hlt | hge
   ·exact hlt
   ·rw [Array.getElem?_eq_none hge] at hg; cases hg
  rw [Below.block h g hl]; exact hg
theorem Strs.ext {w w' : World} {base : Nat} {v : Value} {l : List (List UInt8)} (hs : Strs w base v l) (h : Ext w w') : Strs w' base v l := own_ext h hs
theorem Ints.ext {w w' : World} {base : Nat} {v : Value} {l : List Int} (hs : Ints w base v l) (h : Ext w w') : Ints w' base v l := own_ext h hs
theorem Strs.form {w : World} {base : Nat} {v : Value} {l : List (List UInt8)} (hs : Strs w base v l) (hn : 0 < l.length) :
 ∃ g cap, v = .slice (some ⟨g, 0, none⟩) l.length cap ∧ base ≤ g ∧ g < w.heap.size ∧ ∀ (j : Nat) (x : List UInt8), l[j]? = some x → w.cell? ⟨g, j, none⟩ = some (.string (mk x)) := by
 obtain ⟨g, cap, rfl, hb, hg⟩ := World.ownsRow.form hs hn
 refine ⟨g, cap, rfl, hb, hg, fun j x hx => ?_⟩
 have hj : j < l.length := (List.getElem?_eq_some_iff.mp hx).1
 have := World.ownsRow.cellAt hs j (by simpa using hj)
 rw [this, strs, List.getElem?_map, hx]; rfl
theorem Ints.form {w : World} {base : Nat} {v : Value} {l : List Int} (hs : Ints w base v l) (hn : 0 < l.length) :
 ∃ g cap, v = .slice (some ⟨g, 0, none⟩) l.length cap ∧ base ≤ g ∧ g < w.heap.size ∧ ∀ (j : Nat) (x : Int), l[j]? = some x → w.cell? ⟨g, j, none⟩ = some (.int .i64 x) := by
 obtain ⟨g, cap, rfl, hb, hg⟩ := World.ownsRow.form hs hn
 refine ⟨g, cap, rfl, hb, hg, fun j x hx => ?_⟩
 have hj : j < l.length := (List.getElem?_eq_some_iff.mp hx).1
 have := World.ownsRow.cellAt hs j (by simpa using hj)
 rw [this, ints, List.getElem?_map, hx]; rfl
theorem own_any {w : World} {base e size n : Nat} {v : Value} {xs : List Value} (h : w.ownsRow base e size v n xs) : ∃ a cap, v = .slice a n cap := by
 rcases h.2 with ⟨rfl, rfl⟩ | ⟨g, cap, cur, rfl, _⟩
 ·exact ⟨none, 0, rfl⟩
 ·exact ⟨_, cap, rfl⟩
theorem splitGo_ne (c : UInt8) : ∀ (l cur : List UInt8), splitGo c cur l ≠ []
 | [], cur => by simp [splitGo]
 | x :: xs, cur => by
   unfold splitGo
   split
   ·simp
   ·exact splitGo_ne c xs _
theorem splitGo_len (c : UInt8) : ∀ (l cur : List UInt8), (splitGo c cur l).length ≤ l.length + 1
 | [], cur => by simp [splitGo]
 | x :: xs, cur => by
   unfold splitGo
   split
   ·have := splitGo_len c xs []; simp; omega
   ·have := splitGo_len c xs (cur ++ [x]); simp; omega
theorem splitL_pos (l : List UInt8) (c : UInt8) : 0 < (splitL l c).length := List.length_pos_iff.mpr (splitGo_ne c l [])
theorem splitL_len (l : List UInt8) (c : UInt8) : (splitL l c).length ≤ l.length + 1 := splitGo_len c l []
theorem splitGo_item (c : UInt8) : ∀ (l cur x : List UInt8), x ∈ splitGo c cur l → x.length ≤ cur.length + l.length
 | [], cur, x, h => by simp [splitGo] at h; subst h; simp
 | y :: ys, cur, x, h => by
   unfold splitGo at h
   split at h
   ·rcases List.mem_cons.mp h with rfl | h
    ·simp
    ·have := splitGo_item c ys [] x h; simp at this ⊢; omega
   ·have := splitGo_item c ys (cur ++ [y]) x h; simp at this ⊢; omega
theorem splitL_item (l : List UInt8) (c : UInt8) (x : List UInt8) (h : x ∈ splitL l c) : x.length ≤ l.length := by
 have := splitGo_item c l [] x h; simpa using this
end Go.Proofs.YtmaffdhcmdhjfaaGreatDoor
namespace Go.Proofs.YtmaffdhcmdhjfaaGreatDoor
open Go.RowKit Go.Lib
theorem take_snoc (s : ByteArray) (k : Nat) (h : k < s.size) : (bytes s).take (k + 1) = (bytes s).take k ++ [s[k]] := by
 unfold bytes; rw [List.take_succ_eq_append_getElem (by simpa using h)]; rfl
theorem take_all (s : ByteArray) (k : Nat) (h : s.size ≤ k) : (bytes s).take k = bytes s := by
 unfold bytes; rw [List.take_of_length_le (by simpa using h)]
theorem bytes_split (s : ByteArray) (k : Nat) (h : k < s.size) : bytes s = (bytes s).take k ++ s[k] :: (bytes s).drop (k + 1) := by
 have : (bytes s)[k]'(by unfold bytes; simpa using h) = s[k] := rfl
 rw [← this, List.getElem_cons_drop]
 simp
theorem ret_bool {a b : Bool} (h : a = b) : Ending.returned (.bool a) = .returned (.bool b) := by rw [h]
set_option maxHeartbeats 400000 in
theorem zz_has (s : ByteArray) (c : UInt8) (w : World) (hs : s.size ≤ 4096) :
 Calls Tryz.prog 119 #[.string s, .int .u8 c.toNat] w fun e w' => e = .returned (.bool ((bytes s).contains c)) ∧ w = w' := by
 go_enter Tryz.func119, Tryz.ntmps119
 go_wp2
 go_loop [5] (fun i => ∃ k : Nat, k ≤ s.size ∧ i = .int .i64 k ∧ c ∉ (bytes s).take k) (fun i => s.size - (RowKit.intOf i).toNat)
 case atStart => exact ⟨0, Nat.zero_le _, rfl, by simp⟩
 case round =>
  obtain ⟨k, hk, rfl, hn⟩ := hrel
  have Hn := Lib.hid hn
  clear hn
  by_cases hlt : k < s.size
  ·by_cases he : s[k] = c
   ·have h1 : ((s[k].toNat : Int) == (c.toNat : Int)) = true := by rw [he]; simp
    go_wp2
    go_ret
    refine ⟨ret_bool ?_, rfl⟩
    rw [bytes_split s k hlt, he]; simp
   ·have h1 : ((s[k].toNat : Int) == (c.toNat : Int)) = false := by
     rw [beq_eq_false_iff_ne]; intro h; exact he (UInt8.toNat.inj (by omega))
    go_wp2
    go_round
    case rel => exact ⟨k + 1, by omega, by go_num, by rw [take_snoc s k hlt]; simp [Hn.out]; exact fun h => he h.symm⟩
    case measure => simp [RowKit.intOf]; omega
  ·go_wp2
   go_ret
   refine ⟨ret_bool ?_, rfl⟩
   have := Hn.out
   rw [take_all s k (by omega)] at this
   simpa using this
set_option maxHeartbeats 400000 in
theorem zz_digits (s : ByteArray) (w : World) (hs : s.size ≤ 4096) :
 Calls Tryz.prog 157 #[.string s] w fun e w' => e = .returned (.bool (digitsB (bytes s))) ∧ w = w' := by
 go_enter Tryz.func157, Tryz.ntmps157
 go_wp2
 go_loop [3] (fun i => ∃ k : Nat, k ≤ s.size ∧ i = .int .i64 k ∧ ((bytes s).take k).all isDig = true) (fun i => s.size - (RowKit.intOf i).toNat)
 case atStart => exact ⟨0, Nat.zero_le _, rfl, by simp⟩
 case round =>
  obtain ⟨k, hk, rfl, hn⟩ := hrel
  have Hn := Lib.hid hn
  clear hn
  by_cases hlt : k < s.size
  ·by_cases he : 48 ≤ s[k].toNat ∧ s[k].toNat ≤ 57
   ·have h1 : decide ((s[k].toNat : Int) < 48) = false := by simp; omega
    have h2 : decide (57 < (s[k].toNat : Int)) = false := by simp; omega
    have hd : isDig s[k] = true := by simp [isDig]; omega
    go_wp2
    go_round
    case rel => exact ⟨k + 1, by omega, by go_num, by rw [take_snoc s k hlt, List.all_append, Hn.out]; simpa using hd⟩
    case measure => simp [RowKit.intOf]; omega
   ·have hd : isDig s[k] = false := by simp [isDig]; omega
    have hb : digitsB (bytes s) = false := by
     rw [bytes_split s k hlt]; simp [digitsB, hd]
    have Hb := Lib.hid hb
    clear hb
    by_cases h48 : s[k].toNat < 48
    ·have h1 : decide ((s[k].toNat : Int) < 48) = true := by simp; omega
     go_wp2
     go_ret
     exact ⟨ret_bool Hb.out.symm, rfl⟩
    ·have h1 : decide ((s[k].toNat : Int) < 48) = false := by simp; omega
     have h2 : decide (57 < (s[k].toNat : Int)) = true := by simp; omega
     go_wp2
     go_ret
     exact ⟨ret_bool Hb.out.symm, rfl⟩
  ·have h0 : decide (0 < s.size) = decide (0 < (bytes s).length) := rfl
   have H0 := Lib.hid h0
   clear h0
   go_wp2
   all_goals go_ret
   all_goals
    refine ⟨ret_bool ?_, rfl⟩
    have := Hn.out
    rw [take_all s k (by omega)] at this
    simp [digitsB, this, ← H0.out]
set_option maxHeartbeats 800000 in
theorem zz_words (s : ByteArray) (w : World) (hs : s.size ≤ 4096) :
 Calls Tryz.prog 160 #[.string s] w fun e w' => e = .returned (.bool ((bytes s).all isWord)) ∧ w = w' := by
 go_enter Tryz.func160, Tryz.ntmps160
 go_wp2
 go_loop [3] (fun i => ∃ k : Nat, k ≤ s.size ∧ i = .int .i64 k ∧ ((bytes s).take k).all isWord = true) (fun i => s.size - (RowKit.intOf i).toNat)
 case atStart => exact ⟨0, Nat.zero_le _, rfl, by simp⟩
 case round =>
  obtain ⟨k, hk, rfl, hn⟩ := hrel
  have Hn := Lib.hid hn
  clear hn
  by_cases hlt : k < s.size
  ·have hcl : isWord s[k] = ((decide (48 ≤ (s[k].toNat : Int)) && decide ((s[k].toNat : Int) ≤ 57)) || (decide (97 ≤ (s[k].toNat : Int)) && decide ((s[k].toNat : Int) ≤ 122)) || (decide (65 ≤ (s[k].toNat : Int)) && decide ((s[k].toNat : Int) ≤ 90))) := by
    rw [Bool.eq_iff_iff]; simp [isWord]; omega
   have Hcl := Lib.hid hcl
   clear hcl
   have hrest : isWord s[k] = false → ((bytes s).all isWord) = false := by
    intro h; rw [bytes_split s k hlt]; simp [h]
   have hgo : isWord s[k] = true → ((bytes s).take (k+1)).all isWord = true := by
    intro h; rw [take_snoc s k hlt, List.all_append, Hn.out]; simpa using h
   have Hr := Lib.hid hrest
   have Hg := Lib.hid hgo
   clear hrest hgo
   go_wp2
   all_goals first
    | (go_ret; refine ⟨ret_bool ?_, rfl⟩; symm; apply Hr.out; rw [Hcl.out]; simp only [Bool.or_eq_false_iff, Bool.and_eq_false_imp, decide_eq_true_eq, decide_eq_false_iff_not]; omega)
    | (go_round
       case rel => exact ⟨k+1, by omega, by go_num, Hg.out (by rw [Hcl.out]; simp only [Bool.or_eq_true, Bool.and_eq_true, decide_eq_true_eq]; omega)⟩
       case measure => simp [RowKit.intOf]; omega)
  ·go_wp2
   go_ret
   refine ⟨ret_bool ?_, rfl⟩
   have := Hn.out
   rw [take_all s k (by omega)] at this
   simp [this]
end Go.Proofs.YtmaffdhcmdhjfaaGreatDoor
namespace Go.Proofs.YtmaffdhcmdhjfaaGreatDoor
open Go.RowKit Go.Lib
theorem Tryz.info9 : (Tryz.prog.info? 9).map (fun i => (i.zero, i.size, i.bytes)) = some (some (.string ⟨#[]⟩), 1, 16) := by kernel_rfl
theorem Tryz.info3 : (Tryz.prog.info? 3).map (fun i => (i.zero, i.size, i.bytes)) = some (some (.int .i64 0), 1, 8) := by kernel_rfl
theorem Ext.own_grown {w wr w1 : World} {o : Obj} {e size n : Nat} {v : Value} {xs : List Value} (h : Ext w wr) (hown : wr.ownsRow w.heap.size e size v n xs) (hg : (wr.alloc o).grownBy w1 v.ownBlock) : Ext w w1 :=
 Below.grown (Below.alloc h h.size o) hg (by have := h.size; simp; omega) (fun k hk => (hown.lt k hk).1)
theorem strs_snoc (ps : List (List UInt8)) (x : List UInt8) : strs (ps ++ [x]) = strs ps ++ [.string (mk x)] := by simp [strs]
theorem ints_snoc (ps : List Int) (x : Int) : ints (ps ++ [x]) = ints ps ++ [.int .i64 x] := by simp [ints]
theorem split_step (s : ByteArray) (c : UInt8) (k f : Nat) (hk : k < s.size) (hf : f ≤ k) :
 splitGo c (((bytes s).take k).drop f) ((bytes s).drop k) =
  if s[k] = c then ((bytes s).take k).drop f :: splitGo c [] ((bytes s).drop (k + 1)) else splitGo c (((bytes s).take (k + 1)).drop f) ((bytes s).drop (k + 1)) := by
 have h : (bytes s).drop k = s[k] :: (bytes s).drop (k + 1) := by
  have : (bytes s)[k]'(by unfold bytes; simpa using hk) = s[k] := rfl
  rw [← this, List.getElem_cons_drop]
 rw [h, splitGo, take_snoc s k hk, List.drop_append_of_le_length (by simp; rw [bytes_length]; omega)]
set_option maxHeartbeats 1600000 in
set_option maxRecDepth 1000000 in
theorem zz_split (s : ByteArray) (c : UInt8) (w : World) (hs : s.size ≤ 4096) :
 Calls Tryz.prog 76 #[.string s, .int .u8 c.toNat] w fun e w' => ∃ v, e = .returned v ∧ Strs w' w.heap.size v (splitL (bytes s) c) ∧ Ext w w' := by
 obtain ⟨i0, hi, hz0, hz1, hz2⟩ := info_parts Tryz.info9
 go_enter Tryz.func76, Tryz.ntmps76
 go_wp2
 go_loopw [5, 6, 7] (fun v f i wr => ∃ (k j : Nat) (ps : List (List UInt8)), k ≤ s.size ∧ j ≤ k ∧ i = .int .i64 k ∧ f = .int .i64 j ∧ ps.length ≤ k ∧ wr.ownsRow w.heap.size 9 1 v ps.length (strs ps) ∧ Ext w wr ∧
  ps ++ splitGo c (((bytes s).take k).drop j) ((bytes s).drop k) = splitL (bytes s) c)
  (fun _ _ i _ => s.size - (RowKit.intOf i).toNat)
 case atStart => exact ⟨0, 0, [], Nat.zero_le _, Nat.le_refl _, rfl, rfl, by simp, World.ownsRow_nil _ _ _ _, Ext.refl _, by simp [splitL]⟩
 case round =>
  obtain ⟨k, j, ps, hk, hj, rfl, rfl, hpl, hown, hext, hsp⟩ := hrel
  have Hsp := Lib.hid hsp
  clear hsp
  by_cases hlt : k < s.size
  ·have Hst := Lib.hid (split_step s c k j hlt hj)
   by_cases he : s[k] = c
   ·have h1 : ((s[k].toNat : Int) == (c.toNat : Int)) = true := by rw [he]; simp
    go_wp2_with (first
     | (at_builtin; refine wpList_append_own _ rfl _ _ 85 rfl w.heap.size 9 i0 (.string ⟨#[]⟩) 1 16 Tryz.underlying85 hi hz0 hz1 hz2 rfl (by decide) _ _ _ rfl (hown.alloc _) ⟨wr.heap.size, 0, none⟩ 1 1 [.string (s.extract j k)] rfl rfl ?c1 ?c2 ?c3 ?c4 ?c5 ?_)
     | go_in)
    case c1 => exact cell_one_new _ _ _
    case c2 => intro u hu; simp at hu; subst hu; rfl
    case c3 => unfold maxLen; omega
    case c4 => omega
    case c5 => have := hext.size; simp; omega
    ·intro v' w1 hown' hgrow _
     have hext1 := Ext.own_grown hext hown hgrow
     have hown1 : w1.ownsRow w.heap.size 9 1 v' (ps ++ [((bytes s).take k).drop j]).length (strs (ps ++ [((bytes s).take k).drop j])) := by
      rw [strs_snoc, ← bytes_extract, mk_bytes]; simpa using hown'
     clear hown' hgrow hown
     go_wp2
     go_roundw
     case rel => exact ⟨k + 1, k + 1, _, by omega, Nat.le_refl _, by go_num, by go_num, by simp; omega, hown1, hext1, by rw [← Hsp.out, Hst.out, if_pos he, List.drop_of_length_le (List.length_take_le _ _)]; simp⟩
     case measure => simp [RowKit.intOf]; omega
   ·have h1 : ((s[k].toNat : Int) == (c.toNat : Int)) = false := by
     rw [beq_eq_false_iff_ne]; intro h; exact he (UInt8.toNat.inj (by omega))
    go_wp2
    go_roundw
    case rel => exact ⟨k + 1, j, ps, by omega, by omega, by go_num, rfl, by omega, hown, hext, by rw [← Hsp.out, Hst.out, if_neg he]⟩
    case measure => simp [RowKit.intOf]; omega
  ·go_wp2_with (first
    | (at_builtin; refine wpList_append_own _ rfl _ _ 85 rfl w.heap.size 9 i0 (.string ⟨#[]⟩) 1 16 Tryz.underlying85 hi hz0 hz1 hz2 rfl (by decide) _ _ _ rfl (hown.alloc _) ⟨wr.heap.size, 0, none⟩ 1 1 [.string (s.extract j s.size)] rfl rfl ?c1 ?c2 ?c3 ?c4 ?c5 ?_)
    | go_in)
   case c1 => exact cell_one_new _ _ _
   case c2 => intro u hu; simp at hu; subst hu; rfl
   case c3 => unfold maxLen; omega
   case c4 => omega
   case c5 => have := hext.size; simp; omega
   ·intro v' w1 hown' hgrow _
    have hext1 := Ext.own_grown hext hown hgrow
    have hown1 : Strs w1 w.heap.size v' (splitL (bytes s) c) := by
     have e : splitL (bytes s) c = ps ++ [(bytes s).drop j] := by
      rw [← Hsp.out, take_all s k (by omega), List.drop_of_length_le (show (bytes s).length ≤ k by rw [bytes_length]; omega)]; rfl
     unfold Strs
     rw [e, strs_snoc, ← take_all s s.size (Nat.le_refl _), ← bytes_extract, mk_bytes]; simpa using hown'
    clear hown' hgrow hown
    go_wp2
    go_ret
    exact ⟨v', rfl, hown1, hext1⟩
end Go.Proofs.YtmaffdhcmdhjfaaGreatDoor
namespace Go.Proofs.YtmaffdhcmdhjfaaGreatDoor
open Go.RowKit Go.Lib
theorem gTab : Tryz.prog.globalNamed "internal/strconv.uint64pow10" = some 3 := by kernel_rfl
structure Env (w : World) : Prop where
 tab : Lib.TabIs Tryz.prog w "internal/strconv.uint64pow10" .u64 Lib.pow10Tab
 big : 8 ≤ w.heap.size
 cron : ∃ t p, w.cell? ⟨1, 0, none⟩ = some (.iface t p)
 syn : ∃ t p, w.cell? ⟨6, 0, none⟩ = some (.iface t p)
 rng : ∃ t p, w.cell? ⟨7, 0, none⟩ = some (.iface t p)
theorem Env.ext {w w' : World} (h : Env w) (x : Ext w w') : Env w' where
 tab := var?_below x gTab (by have := h.big; omega) h.tab
 big := by have := h.big; have := Below.size x; omega
 cron := by obtain ⟨t, p, hc⟩ := h.cron; exact ⟨t, p, x.cell hc⟩
 syn := by obtain ⟨t, p, hc⟩ := h.syn; exact ⟨t, p, x.cell hc⟩
 rng := by obtain ⟨t, p, hc⟩ := h.rng; exact ⟨t, p, x.cell hc⟩
theorem Env.drew {w : World} (h : Env w) : Env w.drew := h.ext (Ext.drew w)
theorem Ext.grow {w : World} (os : Array Obj) (k : Nat) : Ext w (Go.Sort.grow (w.drewN k) os) :=
 ⟨rfl, rfl, rfl, by rw [Go.Sort.size_grow]; exact Nat.le_add_right _ _, fun i hi => by
  show (w.heap ++ os)[i]? = _
  rw [Array.getElem?_append_left hi]⟩
theorem Ext.bytes (w : World) (e : TypeId) (s : ByteArray) : Ext w (Lib.bytesWorld w e s) := Go.Joins.below_bytesWorld _ w e s (Nat.le_refl _)
theorem itoa_any (n : Int) (h : Joins.In64 n) (w : World) (hE : Env w) :
 Calls Tryz.prog 56 #[.int .i64 n] w fun e w' => e = .returned (.string (mk (Lib.itoa n))) ∧ Ext w w' := by
 refine (Tryz.strconv_Itoa n h.1 h.2 w hE.tab).mono ?_
 rintro e w' ⟨rfl, k, os, rfl⟩
 exact ⟨rfl, Ext.grow os k⟩
def atoiO (l : List UInt8) : Option Int := match Lib.atoiAll l with
 | .ok v => some v
 | _ => none
theorem atoi_any (s : ByteArray) (w : World) (hs : s.size ≤ 4096) (hE : Env w) :
 Calls Tryz.prog 128 #[.string s] w fun e w' => ((∃ v, atoiO (bytes s) = some v ∧ e = .returned (.tuple #[.int .i64 v, .nilIface])) ∨
  (atoiO (bytes s) = none ∧ ∃ v t p, e = .returned (.tuple #[.int .i64 v, .iface t p]))) ∧ Ext w w' := by
 unfold atoiO
 rcases h : Lib.atoiAll (bytes s) with v | _ | _
 ·refine (Tryz.strconv_Atoi_ok s (by omega) v h w).mono ?_
  rintro e w' ⟨rfl, h'⟩
  refine ⟨.inl ⟨v, rfl, rfl⟩, ?_⟩
  rcases h' with rfl | ⟨t, rfl⟩
  ·exact Ext.refl _
  ·exact Ext.bytes _ _ _
 ·obtain ⟨t, p, hc⟩ := hE.syn
  refine (Any.strconv_Atoi_syntax Tryz.laysC172 s (by omega) h _ w hc (.inr ⟨t, p, rfl⟩)).mono ?_
  rintro e w' ⟨N, rfl, _, _, hb⟩
  exact ⟨.inr ⟨rfl, _, _, _, rfl⟩, hb⟩
 ·obtain ⟨t, p, hc⟩ := hE.rng
  refine (Any.strconv_Atoi_range Tryz.laysC172 s (by omega) h _ w hc (.inr ⟨t, p, rfl⟩)).mono ?_
  rintro e w' ⟨N, rfl, _, _, hb⟩
  exact ⟨.inr ⟨rfl, _, _, _, rfl⟩, hb⟩
theorem in_scope (v a b : Int) (w : World) :
 Calls Tryz.prog 124 #[.int .i64 v, .int .i64 a, .int .i64 b] w fun e w' => e = .returned (.bool (decide (a ≤ v) && decide (v ≤ b))) ∧ w = w' := by
 go_enter Tryz.func124, Tryz.ntmps124
 go_wp2
 all_goals go_ret
 all_goals (refine ⟨ret_bool ?_, rfl⟩; simp; try omega)
theorem new_field (a : Option Addr) (k c : Nat) (w : World) :
 Calls Tryz.prog 118 #[.slice a k c] w fun e w' => e = .returned (.pointer (some ⟨w.heap.size, 0, none⟩)) ∧ w.alloc (.cells #[.slice a k c, .int .i64 0] 92) = w' := by
 go_enter Tryz.func118, Tryz.ntmps118
 go_wp2
 go_ret
 exact ⟨rfl, rfl⟩
theorem new_fieldN (a : Option Addr) (k c : Nat) (n : Int) (w : World) :
 Calls Tryz.prog 127 #[.slice a k c, .int .i64 n] w fun e w' => e = .returned (.pointer (some ⟨w.heap.size, 0, none⟩)) ∧ w.alloc (.cells #[.slice a k c, .int .i64 n] 92) = w' := by
 go_enter Tryz.func127, Tryz.ntmps127
 go_wp2
 go_ret
 exact ⟨rfl, rfl⟩
theorem new_err (s : ByteArray) (w : World) (hE : Env w) :
 Calls Tryz.prog 77 #[.string s] w fun e w' => ∃ t p, e = .returned (.iface t p) ∧ Ext w w' := by
 obtain ⟨t, p, hc⟩ := hE.cron
 go_enter Tryz.func77, Tryz.ntmps77
 go_wp2
 go_ret
 exact ⟨_, _, rfl, Ext.alloc _ _⟩
theorem new_invalid (s t : ByteArray) (w : World) (hE : Env w) (hs : s.size ≤ 4096) (ht : t.size ≤ 4096) :
 Calls Tryz.prog 125 #[.string t, .string s] w fun e w' => ∃ t p, e = .returned (.iface t p) ∧ Ext w w' := by
 go_enter Tryz.func125, Tryz.ntmps125
 go_wp2_with fail
 go_at_call 77
 refine (new_err _ _ hE).mono ?_
 rintro e w1 ⟨t, p, rfl, x⟩
 go_wp2_with fail
 go_ret
 exact ⟨_, _, rfl, x⟩
end Go.Proofs.YtmaffdhcmdhjfaaGreatDoor
namespace Go.Proofs.YtmaffdhcmdhjfaaGreatDoor
open Go.RowKit Go.Lib
theorem toList_bytes (s : ByteArray) : s.toList = bytes s := by
 rw [ByteArray.toList_eq]; rfl
theorem dropLast_mk (s : ByteArray) : s.extract 0 (s.size - 1) = mk (bytes s).dropLast := by
 rw [List.dropLast_eq_take, ← mk_bytes (s.extract 0 (s.size - 1)), bytes_extract, bytes_length]; rfl
theorem last_bytes (s : ByteArray) (h : s.size - 1 < s.size) : (bytes s).getLast? = some s[s.size - 1] := by
 rw [List.getLast?_eq_getElem?, bytes_length, List.getElem?_eq_getElem (by rw [bytes_length]; exact h)]; rfl
theorem last_is (s : ByteArray) (c : UInt8) (h : s.size - 1 < s.size) : ((bytes s).getLast? == some c) = ((s[s.size - 1].toNat : Int) == (c.toNat : Int)) := by
 rw [last_bytes s h, Bool.eq_iff_iff]; simp only [beq_iff_eq, Option.some.injEq]
 exact ⟨fun h => by rw [h], fun h => UInt8.toNat.inj (by omega)⟩
theorem without_last (s : ByteArray) (w : World) (hs : s.size ≤ 4096) (h0 : 0 < s.size) :
 Calls Tryz.prog 130 #[.string s] w fun e w' => e = .returned (.string (mk (bytes s).dropLast)) ∧ w = w' := by
 rw [← dropLast_mk]
 go_enter Tryz.func130, Tryz.ntmps130
 go_wp2
 go_ret
 exact ⟨rfl, rfl⟩
theorem is_last_day (s : ByteArray) (w : World) (hs : s.size ≤ 4096) :
 Calls Tryz.prog 126 #[.string s] w fun e w' => e = .returned (.bool (lastDayB (bytes s))) ∧ w = w' := by
 have h2 : 2 < s.size → bytes (s.extract 2 s.size) = (bytes s).drop 2 := fun _ => by rw [bytes_extract, take_all s _ (Nat.le_refl _)]
 have H2 := Lib.hid h2
 clear h2
 have h3 : bytes (s.extract 0 2) = (bytes s).take 2 := by rw [bytes_extract]; rfl
 have H3 := Lib.hid h3
 clear h3
 have hl := Lib.hid (bytes_length s)
 go_enter Tryz.func126, Tryz.ntmps126
 go_wp2_with fail
 ·go_ret
  refine ⟨ret_bool ?_, rfl⟩
  simp_all [lastDayB, toList_bytes]
 ·go_at_call 157
  refine (zz_digits _ _ (by simp; omega)).mono ?_
  rintro e w1 ⟨rfl, rfl⟩
  go_wp2_with fail
  go_ret
  refine ⟨ret_bool ?_, rfl⟩
  rename_i ha hb hc
  have hb' : 2 < s.size := by omega
  rw [toList_bytes] at ha hc
  rw [H3.out] at hc
  rw [H2.out hb']
  simp [lastDayB, hc, hl.out, hb', toList_bytes]
 ·go_ret
  refine ⟨ret_bool ?_, rfl⟩
  rename_i ha hb hc
  rw [toList_bytes] at ha hc ⊢
  rw [H3.out] at hc
  simp [lastDayB, ha, hc]
 ·go_ret
  refine ⟨ret_bool ?_, rfl⟩
  rename_i ha hb
  rw [toList_bytes] at ha ⊢
  have hb' : ¬ 2 < s.size := by omega
  simp [lastDayB, ha, hl.out, hb']
theorem is_weekday (s : ByteArray) (w : World) (hs : s.size ≤ 4096) :
 Calls Tryz.prog 129 #[.string s] w fun e w' => e = .returned (.bool (weekdayB (bytes s))) ∧ w = w' := by
 have h1 := Lib.hid (last_is s 87)
 have hl := Lib.hid (bytes_length s)
 have hd := Lib.hid (dropLast_mk s)
 go_enter Tryz.func129, Tryz.ntmps129
 go_wp2_with fail
 ·go_at_call 157
  refine (zz_digits _ _ (by simp; omega)).mono ?_
  rintro e w1 ⟨rfl, rfl⟩
  go_wp2_with fail
  go_ret
  refine ⟨ret_bool ?_, rfl⟩
  rename_i ha _ hb
  have ha' : 1 < s.size := by omega
  have := h1.out (by omega)
  rw [hd.out, bytes_mk, weekdayB, this, hl.out]
  simp [ha', hb]
 ·rename_i ha hb
  go_ret
  refine ⟨ret_bool ?_, rfl⟩
  have := h1.out (by omega)
  rw [weekdayB, this, hl.out]
  simp [hb]
 ·rename_i ha
  go_ret
  refine ⟨ret_bool ?_, rfl⟩
  rw [weekdayB, hl.out]
  have ha' : ¬ 1 < s.size := by omega
  simp [ha']
theorem is_last_weekday (s : ByteArray) (w : World) (hs : s.size ≤ 4096) :
 Calls Tryz.prog 131 #[.string s] w fun e w' => e = .returned (.bool (lastWeekdayB (bytes s))) ∧ w = w' := by
 have h1 := Lib.hid (last_is s 76)
 have hl := Lib.hid (bytes_length s)
 go_enter Tryz.func131, Tryz.ntmps131
 go_wp2_with fail
 ·go_at_call 160
  refine (zz_words _ _ hs).mono ?_
  rintro e w1 ⟨rfl, rfl⟩
  go_wp2_with fail
  go_ret
  refine ⟨ret_bool ?_, rfl⟩
  rename_i ha _ hb
  have ha' : 0 < s.size := by omega
  have := h1.out (by omega)
  rw [lastWeekdayB, this, hl.out]
  simp [ha', hb]
 ·rename_i ha hb
  go_ret
  refine ⟨ret_bool ?_, rfl⟩
  have := h1.out (by omega)
  rw [lastWeekdayB, this, hl.out]
  simp [hb]
 ·rename_i ha
  go_ret
  refine ⟨ret_bool ?_, rfl⟩
  rw [lastWeekdayB, hl.out]
  have ha' : ¬ 0 < s.size := by omega
  simp [ha']
end Go.Proofs.YtmaffdhcmdhjfaaGreatDoor
namespace Go.Proofs.YtmaffdhcmdhjfaaGreatDoor
open Go.RowKit Go.Lib
theorem is_hash (s : ByteArray) (w : World) (hs : s.size ≤ 4096) :
 Calls Tryz.prog 132 #[.string s] w fun e w' => e = .returned (.bool (hashB (bytes s))) ∧ Ext w w' := by
 go_enter Tryz.func132, Tryz.ntmps132
 go_wp2_with fail
 go_at_call 76
 refine (zz_split s 35 _ hs).mono ?_
 rintro e w1 ⟨v, rfl, hst, hx⟩
 obtain ⟨g, cap, rfl, hb, hg, hcell⟩ := hst.form (splitL_pos _ _)
 have hitem := splitL_item (bytes s) 35
 rw [bytes_length] at hitem
 rcases hl : splitL (bytes s) 35 with _ | ⟨a, _ | ⟨b, _ | ⟨c, rest⟩⟩⟩
 ·exact absurd hl (splitGo_ne _ _ _)
 ·rw [hl] at hcell
  have hv : hashB (bytes s) = false := by simp [hashB, hl]
  have Hv := Lib.hid hv
  clear hv hl hcell hitem hst
  go_wp2
  go_ret
  exact ⟨ret_bool Hv.out.symm, hx⟩
 ·rw [hl] at hcell
  have c0 := hcell 0 a rfl
  have c1 := hcell 1 b rfl
  have ha := hitem a (by rw [hl]; simp)
  have hb := hitem b (by rw [hl]; simp)
  have hv : hashB (bytes s) = (decide (0 < a.length) && (a.all isWord && digitsB b)) := by simp [hashB, hl]
  have Hv := Lib.hid hv
  clear hv hl hcell hitem hst
  go_wp2_with fail
  ·go_at_call 160
   refine (zz_words _ _ (by rw [size_mk]; omega)).mono ?_
   rintro e w2 ⟨rfl, rfl⟩
   go_wp2_with fail
   ·go_at_call 157
    refine (zz_digits _ _ (by rw [size_mk]; omega)).mono ?_
    rintro e w2 ⟨rfl, rfl⟩
    go_wp2_with fail
    go_ret
    refine ⟨ret_bool ?_, hx⟩
    rw [Hv.out, bytes_mk]
    simp_all [size_mk, bytes_mk]
   ·go_ret
    refine ⟨ret_bool ?_, hx⟩
    rw [Hv.out]
    simp_all [size_mk, bytes_mk]
    intro h; exfalso; rename_i hh; obtain ⟨x, hx1, hx2⟩ := hh; rw [h x hx1] at hx2; cases hx2
  ·go_ret
   refine ⟨ret_bool ?_, hx⟩
   rw [Hv.out]
   simp_all [size_mk, bytes_mk]
 ·have hv : hashB (bytes s) = false := by simp [hashB, hl]
  have Hv := Lib.hid hv
  clear hv hl hcell hitem hst
  go_wp2
  go_ret
  exact ⟨ret_bool Hv.out.symm, hx⟩
def upAt (l : List UInt8) (k j : Nat) : Nat := (if j < k then upC (l.getD j 0) else l.getD j 0).toNat
theorem upAt_succ (l : List UInt8) (k j : Nat) (h : j ≠ k) : upAt l (k + 1) j = upAt l k j := by
 unfold upAt
 by_cases h1 : j < k
 ·rw [if_pos h1, if_pos (by omega)]
 ·rw [if_neg h1, if_neg (by omega)]
theorem upAt_at (l : List UInt8) (k : Nat) : upAt l k k = (l.getD k 0).toNat := by unfold upAt; rw [if_neg (by omega)]
theorem upAt_now (l : List UInt8) (k : Nat) : upAt l (k + 1) k = (upC (l.getD k 0)).toNat := by unfold upAt; rw [if_pos (by omega)]
theorem conv_bytes (s : ByteArray) (w : World) : ∃ cap w1, (convert 9 109 (.string s)).run Tryz.prog w = .ok (.slice (some ⟨w.heap.size, 0, none⟩) s.size cap) w1 ∧ Ext w w1 ∧ w1.heap.size = w.heap.size + 1 ∧
 (∀ j, j < s.size → w1.cell? ⟨w.heap.size, j, none⟩ = some (.int .u8 ((bytes s).getD j 0).toNat)) ∧ (∀ j, j < s.size → w1.frozen? ⟨w.heap.size, j, none⟩ = false) := by
 refine ⟨_, _, run_bytes_of_string w 9 109 5 s Tryz.underlying9 Tryz.underlying109 Tryz.underlying5, (Ext.drew w).trans (Ext.alloc _ _), by simp, fun j hj => ?_, fun j hj => ?_⟩
 ·have := World.cell?_alloc_mark w.drew (bytesRow s (grownCap w s.size 0 5)) 5 ((bytesRow s (grownCap w s.size 0 5)).size, (bytesRow s (grownCap w s.size 0 5)).size + 1) j
  rw [show w.drew.heap.size = w.heap.size from rfl] at this
  rw [this, bytesRow_at s _ j hj]
  unfold bytes
  rw [List.getD_eq_getElem?_getD, List.getElem?_eq_getElem (by simpa using hj)]
  simp
 ·have := World.frozen?_alloc_mark w.drew (bytesRow s (grownCap w s.size 0 5)) 5 (bytesRow s (grownCap w s.size 0 5)).size ((bytesRow s (grownCap w s.size 0 5)).size + 1) j
  rw [show w.drew.heap.size = w.heap.size from rfl] at this
  rw [this]
  have hl : s.size ≤ (bytesRow s (grownCap w s.size 0 5)).size := by unfold bytesRow; simp
  rw [decide_eq_false (by omega)]; rfl
theorem conv_back (N cap : Nat) (l : List UInt8) (w : World) (h : ∀ j, j < l.length → w.cell? ⟨N, j, none⟩ = some (.int .u8 (l.getD j 0).toNat)) :
 (convert 109 9 (.slice (some ⟨N, 0, none⟩) l.length cap)).run Tryz.prog w = .ok (.string (mk l)) w := by
 refine run_convert_bytes_back w 109 9 5 ⟨N, 0, none⟩ cap l Tryz.underlying109 Tryz.underlying5 Tryz.underlying9 (fun j hj => ?_)
 have := h j hj
 rw [List.getD_eq_getElem?_getD, List.getElem?_eq_getElem hj] at this
 have ha : (⟨N, 0, none⟩ : Addr).add j = ⟨N, j, none⟩ := by unfold Addr.add; split <;> simp_all
 rw [ha]
 simpa using this
theorem upC_in (b : UInt8) (h1 : 97 ≤ b.toNat) (h2 : b.toNat ≤ 122) : ((upC b).toNat : Int) = (b.toNat : Int) - 97 + 65 := by
 unfold upC
 rw [if_pos ⟨h1, h2⟩]
 have : (UInt8.ofNat (b.toNat - 32)).toNat = b.toNat - 32 := by simp; omega
 rw [this]; omega
theorem upC_out (b : UInt8) (h : ¬ (97 ≤ b.toNat ∧ b.toNat ≤ 122)) : upC b = b := by unfold upC; rw [if_neg h]
theorem Ext.set {w wr : World} (h : Ext w wr) {N : Nat} (hN : w.heap.size ≤ N) (j : Nat) (v : Value) : Ext w (wr.setCell ⟨N, j, none⟩ v) := Below.setCell h (p := ⟨N, j, none⟩) hN v
theorem upper_keep {wr : World} {N : Nat} {s : ByteArray} {k X : Nat} (Hc : ∀ j, j < s.size → wr.cell? ⟨N, j, none⟩ = some (.int .u8 (upAt (bytes s) k j))) (hX : X = ((bytes s).getD k 0).toNat) (h : ¬ (97 ≤ X ∧ X ≤ 122)) :
 ∀ j, j < s.size → wr.cell? ⟨N, j, none⟩ = some (.int .u8 (upAt (bytes s) (k + 1) j)) := by
 intro j hj
 by_cases hjk : j = k
 ·subst hjk
  rw [Hc j hj, upAt_at, upAt_now, upC_out _ (by rw [← hX]; exact h)]
 ·rw [Hc j hj, upAt_succ _ _ _ hjk]
theorem upper_set {wr : World} {N : Nat} {s : ByteArray} {k X : Nat} (Hc : ∀ j, j < s.size → wr.cell? ⟨N, j, none⟩ = some (.int .u8 (upAt (bytes s) k j))) (hX : X = ((bytes s).getD k 0).toNat) (h1 : 97 ≤ X) (h2 : X ≤ 122) :
 ∀ j, j < s.size → (wr.setCell ⟨N, k, none⟩ (.int .u8 ((X : Int) - 97 + 65))).cell? ⟨N, j, none⟩ = some (.int .u8 (upAt (bytes s) (k + 1) j)) := by
 intro j hj
 by_cases hjk : j = k
 ·subst hjk
  rw [World.cell?_setCell_same _ _ _ (Hc j hj), upAt_now, upC_in _ (by rw [← hX]; exact h1) (by rw [← hX]; exact h2), hX]
 ·rw [World.cell?_setCell_other _ _ _ _ (by intro e; injection e with _ e; exact hjk e.symm), Hc j hj, upAt_succ _ _ _ hjk]
set_option maxHeartbeats 800000 in
set_option maxRecDepth 1000000 in
theorem zz_upper (s : ByteArray) (w : World) (hs : s.size ≤ 4096) :
 Calls Tryz.prog 170 #[.string s] w fun e w' => e = .returned (.string (mk (upperL (bytes s)))) ∧ Ext w w' := by
 obtain ⟨cap, w1, hcv, hx1, hz1, hc1, hf1⟩ := conv_bytes s w
 obtain ⟨N, hN⟩ : ∃ N, N = w.heap.size := ⟨_, rfl⟩
 rw [← hN] at hcv hz1 hc1 hf1
 have HN := Lib.hid hN
 clear hN
 go_enter Tryz.func170, Tryz.ntmps170
 go_wp2_with fail
 go_loopw [4, 5, 10] (fun _ _ i wr => ∃ k : Nat, k ≤ s.size ∧ i = .int .i64 k ∧ Ext w wr ∧ Hid (∀ j, j < s.size → wr.cell? ⟨N, j, none⟩ = some (.int .u8 (upAt (bytes s) k j))) ∧ Hid (∀ j, j < s.size → wr.frozen? ⟨N, j, none⟩ = false))
  (fun _ _ i _ => s.size - (RowKit.intOf i).toNat)
 case atStart => exact ⟨0, Nat.zero_le _, rfl, hx1, hc1, hf1⟩
 case round =>
  obtain ⟨k, hk, rfl, hx, Hc, Hf⟩ := hrel
  by_cases hlt : k < s.size
  ·obtain ⟨X, hX⟩ : ∃ X, X = ((bytes s).getD k 0).toNat := ⟨_, rfl⟩
   have hck : wr.cell? ⟨N, k, none⟩ = some (.int .u8 (X : Int)) := by rw [Hc.out k hlt, upAt_at, hX]
   have hfk := Hf.out k hlt
   have HX := Lib.hid hX
   have hX2 : X < 256 := by rw [hX]; exact UInt8.toNat_lt _
   clear hX hcv
   go_wp2_with fail
   ·rename_i h1 h2
    go_roundw
    case rel => exact ⟨k + 1, by omega, by go_num, hx.set (by rw [HN.out]; exact Nat.le_refl _) _ _, upper_set Hc.out HX.out (by omega) (by omega), fun j hj => by rw [World.frozen?_setCell]; exact Hf.out j hj⟩
    case measure => simp [RowKit.intOf]; omega
   all_goals
    go_roundw
    case rel => exact ⟨k + 1, by omega, by go_num, hx, upper_keep Hc.out HX.out (by omega), Hf⟩
    case measure => simp [RowKit.intOf]; omega
  ·have hb : (convert 109 9 (.slice (some ⟨N, 0, none⟩) s.size cap)).run Tryz.prog wr = .ok (.string (mk (upperL (bytes s)))) wr := by
    have hlen : (upperL (bytes s)).length = s.size := by simp [upperL, bytes_length]
    have := conv_back N cap (upperL (bytes s)) wr (fun j hj => by
     have hj' : j < (bytes s).length := by rw [bytes_length, ← hlen]; exact hj
     rw [Hc.out j (by rw [← hlen]; exact hj)]
     unfold upAt upperL
     rw [if_pos (by rw [bytes_length] at hj'; omega), List.getD_eq_getElem?_getD, List.getD_eq_getElem?_getD, List.getElem?_map, List.getElem?_eq_getElem hj']
     rfl)
    rw [hlen] at this
    exact this
   clear hcv
   go_wp2
   go_ret
   exact ⟨rfl, hx⟩
end Go.Proofs.YtmaffdhcmdhjfaaGreatDoor
namespace Go.Proofs.YtmaffdhcmdhjfaaGreatDoor
open Go.RowKit Go.Lib
theorem Strs.zero {w : World} {base : Nat} {v : Value} {l : List (List UInt8)} (h : Strs w base v l) : Strs w 0 v l := ⟨h.1, h.2.imp id fun ⟨g, cap, cur, h1, _, h3⟩ => ⟨g, cap, cur, h1, Nat.zero_le _, h3⟩⟩
theorem months_any (w : World) : Calls Tryz.prog 92 #[] w fun e w' => ∃ v, e = .returned v ∧ Strs w' w.heap.size v monthN ∧ Ext w w' := by
 go_enter Tryz.func92, Tryz.ntmps92
 go_wp2
 go_ret
 exact ⟨_, rfl, World.ownsRow_lit w (e := 9) (strs monthN).toArray 13 (Nat.le_refl _) (by decide) rfl, Ext.alloc _ _⟩
theorem days_any (w : World) : Calls Tryz.prog 94 #[] w fun e w' => ∃ v, e = .returned v ∧ Strs w' w.heap.size v dayN ∧ Ext w w' := by
 go_enter Tryz.func94, Tryz.ntmps94
 go_wp2
 go_ret
 exact ⟨_, rfl, World.ownsRow_lit w (e := 9) (strs dayN).toArray 8 (Nat.le_refl _) (by decide) rfl, Ext.alloc _ _⟩
theorem findIdx_here (names : List (List UInt8)) (u : List UInt8) (k : Nat) (h : ∀ j, j < k → names[j]? ≠ some u) (hk : names[k]? = some u) : names.findIdx? (fun n => n == u) = some k := by
 rw [List.findIdx?_eq_some_iff_getElem]
 obtain ⟨h1, h2⟩ := List.getElem?_eq_some_iff.mp hk
 refine ⟨h1, by simp [h2], fun j hj => ?_⟩
 have := h j hj
 rw [List.getElem?_eq_getElem (by omega)] at this
 simpa using this
theorem findIdx_none (names : List (List UInt8)) (u : List UInt8) (h : ∀ j, j < names.length → names[j]? ≠ some u) : names.findIdx? (fun n => n == u) = none := by
 rw [List.findIdx?_eq_none_iff]
 intro x hx
 obtain ⟨j, hj, rfl⟩ := List.mem_iff_getElem.mp hx
 have := h j hj
 rw [List.getElem?_eq_getElem hj] at this
 simpa using this
set_option maxHeartbeats 800000 in
theorem translate_any (v : Value) (names : List (List UInt8)) (s : ByteArray) (w : World) (hs : s.size ≤ 4096) (hn : names.length ≤ 13) (hE : Env w) (hv : Strs w 0 v names) :
 Calls Tryz.prog 156 #[v, .string s] w fun e w' => ((∃ n, translateO names (bytes s) = some n ∧ e = .returned (.tuple #[.int .i64 n, .nilIface])) ∨
  (translateO names (bytes s) = none ∧ ∃ n t p, e = .returned (.tuple #[.int .i64 n, .iface t p]))) ∧ Ext w w' := by
 obtain ⟨a, cap, rfl⟩ := own_any hv
 obtain ⟨n, hnn⟩ : ∃ n, n = names.length := ⟨_, rfl⟩
 have hcell : 0 < n → ∃ g, a = some ⟨g, 0, none⟩ ∧ ∀ (j : Nat) (x : List UInt8), names[j]? = some x → w.cell? ⟨g, j, none⟩ = some (.string (mk x)) := by
  intro h
  obtain ⟨g, cap', he, _, _, hc⟩ := hv.form (by omega)
  injection he with he1
  exact ⟨g, he1, hc⟩
 rw [← hnn]
 have Hnn := Lib.hid hnn
 have hn' : n ≤ 13 := by omega
 clear hv hnn hn
 go_enter Tryz.func156, Tryz.ntmps156
 go_wp2_with fail
 go_at_call 170
 refine (zz_upper s _ hs).mono ?_
 rintro e w1 ⟨rfl, hx1⟩
 go_wp2_with fail
 go_loop [7, 8, 13] (fun _ _ i => ∃ k : Nat, k ≤ n ∧ i = .int .i64 k ∧ Hid (∀ j, j < k → names[j]? ≠ some (upperL (bytes s)))) (fun _ _ i => n - (RowKit.intOf i).toNat)
 case atStart => exact ⟨0, Nat.zero_le _, rfl, fun j hj => by omega⟩
 case round =>
  obtain ⟨k, hk, rfl, Hk⟩ := hrel
  by_cases hlt : k < n
  ·obtain ⟨g, rfl, hc⟩ := hcell (by omega)
   obtain ⟨x, hx⟩ : ∃ x, names[k]? = some x := ⟨_, List.getElem?_eq_getElem (by rw [← Hnn.out]; exact hlt)⟩
   have hck := hx1.cell (hc k x hx)
   have Hx := Lib.hid hx
   clear hx hc hcell
   by_cases he : x = upperL (bytes s)
   ·have hb : ((mk x).toList == (mk (upperL (bytes s))).toList) = true := by rw [he]; simp
    have hr : translateO names (bytes s) = some (k : Int) := by unfold translateO; rw [findIdx_here _ _ k Hk.out (by rw [Hx.out, he])]; rfl
    have Hr := Lib.hid hr
    clear hr he
    go_wp2_with fail
    go_ret2
    exact ⟨.inl ⟨_, Hr.out, rfl⟩, hx1⟩
   ·have hb : ((mk x).toList == (mk (upperL (bytes s))).toList) = false := by
     rw [toList_bytes, toList_bytes, bytes_mk, bytes_mk, beq_eq_false_iff_ne]; exact he
    have He := Lib.hid he
    clear he
    go_wp2_with fail
    go_round
    case rel => exact ⟨k + 1, by omega, by go_num, fun j hj => by
     by_cases hjk : j = k
     ·subst hjk; rw [Hx.out]; intro e; injection e with e; exact He.out e
     ·exact Hk.out j (by omega)⟩
    case measure => simp [RowKit.intOf]; omega
  ·have hr : translateO names (bytes s) = none := by unfold translateO; rw [findIdx_none _ _ (fun j hj => Hk.out j (by rw [← Hnn.out] at hj; omega))]; rfl
   have Hr := Lib.hid hr
   clear hr
   go_wp2_with fail
   go_at_call 77
   refine (new_err _ _ (hE.ext hx1)).mono ?_
   rintro e w2 ⟨t, p, rfl, hx2⟩
   go_wp2_with fail
   go_ret2
   exact ⟨.inr ⟨Hr.out, _, t, p, rfl⟩, hx1.trans hx2⟩
def normalizeO (names : List (List UInt8)) (l : List UInt8) : Option Int := match atoiO l with
 | some v => some v
 | none => translateO names l
set_option maxHeartbeats 800000 in
theorem normalize_any (v : Value) (names : List (List UInt8)) (s : ByteArray) (w : World) (hs : s.size ≤ 4096) (hn : names.length ≤ 13) (hE : Env w) (hv : Strs w 0 v names) :
 Calls Tryz.prog 123 #[.string s, v] w fun e w' => ((∃ n, normalizeO names (bytes s) = some n ∧ e = .returned (.tuple #[.int .i64 n, .nilIface])) ∨
  (normalizeO names (bytes s) = none ∧ ∃ n t p, e = .returned (.tuple #[.int .i64 n, .iface t p]))) ∧ Ext w w' := by
 obtain ⟨a, cap, rfl⟩ := own_any hv
 have Hv := Lib.hid hv
 clear hv
 go_enter Tryz.func123, Tryz.ntmps123
 go_wp2_with fail
 go_at_call 128
 refine (atoi_any s _ hs hE).mono ?_
 rintro e w1 ⟨⟨n, hn1, rfl⟩ | ⟨hn1, n, t, p, rfl⟩, hx1⟩
 ·have hr : normalizeO names (bytes s) = some n := by simp [normalizeO, hn1]
  go_wp2_with fail
  go_ret2
  exact ⟨.inl ⟨_, hr, rfl⟩, hx1⟩
 ·have hr : normalizeO names (bytes s) = translateO names (bytes s) := by simp [normalizeO, hn1]
  go_wp2_with fail
  go_at_call 156
  refine (translate_any _ names s _ hs hn (hE.ext hx1) (Hv.out.ext hx1)).mono ?_
  rintro e w2 ⟨⟨n, hn2, rfl⟩ | ⟨hn2, n, t, p, rfl⟩, hx2⟩
  ·go_wp2_with fail
   go_ret2
   exact ⟨.inl ⟨_, hr.trans hn2, rfl⟩, hx1.trans hx2⟩
  ·go_wp2_with fail
   go_ret2
   exact ⟨.inr ⟨hr.trans hn2, _, _, _, rfl⟩, hx1.trans hx2⟩
end Go.Proofs.YtmaffdhcmdhjfaaGreatDoor
namespace Go.Proofs.YtmaffdhcmdhjfaaGreatDoor
open Go.RowKit Go.Lib
def stepsL (a b s : Int) : List Int := (List.range (((b - a) / s).toNat + 1)).map fun i : Nat => a + s * i
theorem steps_own {w : World} {base : Nat} {v : Value} {a s : Int} {n : Nat} {xs : List Value} (h : w.ownsRow base 3 1 v n xs) (hx : ∀ j : Nat, j < n → xs[j]? = some (.int .i64 (a + s * j))) :
 Ints w base v ((List.range n).map fun i : Nat => a + s * i) := by
 have e : xs = ints ((List.range n).map fun i : Nat => a + s * i) := by
  apply List.ext_getElem?
  intro j
  by_cases hj : j < n
  ·rw [hx j hj]; simp [ints, hj]
  ·rw [List.getElem?_eq_none (by have := h.1; omega), List.getElem?_eq_none (by simp [ints]; omega)]
 unfold Ints
 rw [← e]
 simpa using h
theorem set_get {xs : List Value} {a s : Int} {k n : Nat} (hl : xs.length = n) (hk : k < n) (h : ∀ j : Nat, j < k → xs[j]? = some (.int .i64 (a + s * j))) :
 ∀ j : Nat, j < k + 1 → (xs.set k (.int .i64 (a + s * k)))[j]? = some (.int .i64 (a + s * j)) := by
 intro j hj
 by_cases e : j = k
 ·subst e; rw [List.getElem?_set_self (by omega)]
 ·rw [List.getElem?_set_ne (fun h => e h.symm)]; exact h j (by omega)
theorem step_lt (a b s : Int) (hs : 1 ≤ s) (hab : a ≤ b) (k : Nat) : k < ((b - a) / s).toNat + 1 ↔ a + s * k ≤ b := by
 have h0 : 0 ≤ (b - a) / s := Int.ediv_nonneg (by omega) (by omega)
 have h1 : (k : Int) ≤ (b - a) / s ↔ (k : Int) * s ≤ b - a := Int.le_ediv_iff_mul_le (by omega)
 rw [Int.mul_comm] at h1
 constructor
 ·intro h; have := h1.1 (by omega); omega
 ·intro h; have := h1.2 (by omega); omega
set_option maxHeartbeats 800000 in
set_option maxRecDepth 1000000 in
theorem fill_range (a b : Int) (w : World) (h0 : 0 ≤ a) (hab : a ≤ b) (hb : b ≤ 4000) :
 Calls Tryz.prog 83 #[.int .i64 a, .int .i64 b] w fun e w' => ∃ v, e = .returned (.tuple #[v, .nilIface]) ∧ Ints w' w.heap.size v (stepsL a b 1) ∧ Ext w w' := by
 obtain ⟨i0, hi, hz0, hz1, hz2⟩ := info_parts Tryz.info3
 obtain ⟨n, hn⟩ : ∃ n : Nat, n = ((b - a) / 1).toNat + 1 := ⟨_, rfl⟩
 have hlt := step_lt a b 1 (by omega) hab
 have hnb : (n : Int) = b - a + 1 := by rw [hn]; omega
 unfold stepsL
 rw [← hn]
 rw [← hn] at hlt
 have Hlt := Lib.hid hlt
 clear hlt hn
 go_enter Tryz.func83, Tryz.ntmps83
 go_wp2_with (first
  | (at_make; refine wpList_make_full _ rfl _ _ 38 rfl w.heap.size 3 i0 (.int .i64 0) 1 Tryz.underlying38 hi hz0 hz1 .i64 .i64 (b - a + 1) (b - a + 1) n rfl rfl hnb.symm hnb.symm ?c1 ?c2 ?c3 ?_)
  | fail)
 case c1 => rw [hz2]; omega
 case c2 => unfold maxLen; omega
 case c3 => omega
 intro w1 hown hgr
 have hx1 : Ext w w1 := Below.grown (Below.refl _ _) hgr (Nat.le_refl _) (fun k h => by cases h)
 go_wp2_with fail
 go_loopw [8, 9] (fun i j wr => ∃ (k : Nat) (I : Int) (xs : List Value), k ≤ n ∧ i = .int .i64 I ∧ j = .int .i64 k ∧ 0 ≤ I ∧ I ≤ 8000 ∧ Hid (I = a + 1 * k) ∧ Hid (wr.ownsRow w.heap.size 3 1 (.slice (some ⟨w.heap.size, 0, none⟩) n n) n xs) ∧ Ext w wr ∧ Hid (∀ j : Nat, j < k → xs[j]? = some (.int .i64 (a + 1 * j))))
  (fun _ j _ => n - (RowKit.intOf j).toNat)
 case atStart => exact ⟨0, a, _, Nat.zero_le _, rfl, rfl, h0, by omega, by show _ = _; simp, hown, hx1, fun j hj => by omega⟩
 case round =>
  obtain ⟨k, I, xs, hk, rfl, rfl, hI0, hI1, HI, How, hx, Hxs⟩ := hrel
  clear hown
  by_cases hlt : k < n
  ·obtain ⟨u, hu⟩ : ∃ u, xs[k]? = some u := ⟨_, List.getElem?_eq_getElem (by have := How.out.1; omega)⟩
   have hck : wr.cell? ⟨w.heap.size, k, none⟩ = some u := by rw [How.out.cellAt k (by omega)]; exact hu
   have hfk := How.out.frozenAt k
   have hle : I ≤ b := by rw [HI.out]; exact (Hlt.out k).1 hlt
   have HI2 : Hid (I + 1 = a + 1 * ((k + 1 : Nat) : Int)) := by
    show _ = _
    rw [HI.out, Int.natCast_succ, Int.mul_add]; omega
   have Hst := Lib.hid (How.out.stored k (.int .i64 I))
   have Hset : Hid (∀ j : Nat, j < k + 1 → (xs.set k (.int .i64 I))[j]? = some (.int .i64 (a + 1 * j))) := by
    show ∀ _, _
    rw [HI.out]; exact set_get (by have := How.out.1; omega) hlt Hxs.out
   clear hu
   go_wp2_with fail
   go_roundw
   case rel => exact ⟨k + 1, _, _, by omega, by go_num, by go_num, by omega, by omega, HI2, Hst.out.1, hx.set (Nat.le_refl _) _ _, Hset⟩
   case measure => simp [RowKit.intOf]; omega
  ·have hkn : k = n := by omega
   have hgt : b < I := by
    have h := (Hlt.out k)
    rw [← HI.out] at h
    omega
   subst hkn
   go_wp2_with fail
   go_ret2
   exact ⟨_, rfl, steps_own How.out Hxs.out, hx⟩
set_option maxHeartbeats 800000 in
set_option maxRecDepth 1000000 in
theorem fill_step (a s b : Int) (w : World) (h0 : 0 ≤ a) (hab : a ≤ b) (hb : b ≤ 4000) (hs1 : 1 ≤ s) (hs2 : s ≤ 4000) :
 Calls Tryz.prog 155 #[.int .i64 a, .int .i64 s, .int .i64 b] w fun e w' => ∃ v, e = .returned (.tuple #[v, .nilIface]) ∧ Ints w' w.heap.size v (stepsL a b s) ∧ Ext w w' := by
 obtain ⟨i0, hi, hz0, hz1, hz2⟩ := info_parts Tryz.info3
 obtain ⟨n, hn⟩ : ∃ n : Nat, n = ((b - a) / s).toNat + 1 := ⟨_, rfl⟩
 have hlt := step_lt a b s hs1 hab
 have hq0 : 0 ≤ (b - a) / s := Int.ediv_nonneg (by omega) (by omega)
 have hqb : (b - a) / s ≤ b - a := Int.ediv_le_self _ (by omega)
 have hqn : (b - a) / s = (n : Int) - 1 := by omega
 have hqt : (b - a).tdiv s = (n : Int) - 1 := by rw [Int.tdiv_eq_ediv_of_nonneg (by omega)]; exact hqn
 have hs0 : (s == 0) = false := by rw [beq_eq_false_iff_ne]; omega
 have hnb : n ≤ 4001 := by omega
 unfold stepsL
 rw [← hn]
 rw [← hn] at hlt
 have Hlt := Lib.hid hlt
 clear hlt hn
 go_enter Tryz.func155, Tryz.ntmps155
 have Hq := Lib.hid hqn
 clear hqn hq0 hqb
 go_wp2_with (first
  | (at_make; refine wpList_make_full _ rfl _ _ 38 rfl w.heap.size 3 i0 (.int .i64 0) 1 Tryz.underlying38 hi hz0 hz1 .i64 .i64 (n : Int) (n : Int) n rfl rfl rfl rfl ?c1 ?c2 ?c3 ?_)
  | fail)
 case c1 => rw [hz2]; omega
 case c2 => unfold maxLen; omega
 case c3 => omega
 intro w1 hown hgr
 have hx1 : Ext w w1 := Below.grown (Below.refl _ _) hgr (Nat.le_refl _) (fun k h => by cases h)
 go_wp2_with fail
 go_loopw [10, 11] (fun i j wr => ∃ (k : Nat) (I : Int) (xs : List Value), k ≤ n ∧ i = .int .i64 I ∧ j = .int .i64 k ∧ 0 ≤ I ∧ I ≤ 8000 ∧ Hid (I = a + s * k) ∧ Hid (wr.ownsRow w.heap.size 3 1 (.slice (some ⟨w.heap.size, 0, none⟩) n n) n xs) ∧ Ext w wr ∧ Hid (∀ j : Nat, j < k → xs[j]? = some (.int .i64 (a + s * j))))
  (fun _ j _ => n - (RowKit.intOf j).toNat)
 case atStart => exact ⟨0, a, _, Nat.zero_le _, rfl, rfl, h0, by omega, by show _ = _; simp, hown, hx1, fun j hj => by omega⟩
 case round =>
  obtain ⟨k, I, xs, hk, rfl, rfl, hI0, hI1, HI, How, hx, Hxs⟩ := hrel
  clear hown
  by_cases hlt : k < n
  ·obtain ⟨u, hu⟩ : ∃ u, xs[k]? = some u := ⟨_, List.getElem?_eq_getElem (by have := How.out.1; omega)⟩
   have hck : wr.cell? ⟨w.heap.size, k, none⟩ = some u := by rw [How.out.cellAt k (by omega)]; exact hu
   have hfk := How.out.frozenAt k
   have hle : I ≤ b := by rw [HI.out]; exact (Hlt.out k).1 hlt
   have HI2 : Hid (I + s = a + s * ((k + 1 : Nat) : Int)) := by
    show _ = _
    rw [HI.out, Int.natCast_succ, Int.mul_add]; omega
   have Hst := Lib.hid (How.out.stored k (.int .i64 I))
   have Hset : Hid (∀ j : Nat, j < k + 1 → (xs.set k (.int .i64 I))[j]? = some (.int .i64 (a + s * j))) := by
    show ∀ _, _
    rw [HI.out]; exact set_get (by have := How.out.1; omega) hlt Hxs.out
   clear hu
   go_wp2_with fail
   go_roundw
   case rel => exact ⟨k + 1, _, _, by omega, by go_num, by go_num, by omega, by omega, HI2, Hst.out.1, hx.set (Nat.le_refl _) _ _, Hset⟩
   case measure => simp [RowKit.intOf]; omega
  ·have hkn : k = n := by omega
   have hgt : b < I := by
    have h := (Hlt.out k)
    rw [← HI.out] at h
    omega
   subst hkn
   go_wp2_with fail
   go_ret2
   exact ⟨_, rfl, steps_own How.out Hxs.out, hx⟩
end Go.Proofs.YtmaffdhcmdhjfaaGreatDoor
namespace Go.Proofs.YtmaffdhcmdhjfaaGreatDoor
open Go.RowKit Go.Lib
theorem own_other {w w1 : World} {base e size n : Nat} {v : Value} {xs : List Value} {row : Option Nat} (ho : w.ownsRow base e size v n xs) (hg : w.grownBy w1 row) (hne : ∀ g, v.ownBlock = some g → row ≠ some g) : w1.ownsRow base e size v n xs := by
 refine ⟨ho.1, ?_⟩
 rcases ho.2 with hn | ⟨g, cap, cur, rfl, hb, hgg, rest⟩
 ·exact .inl hn
 ·refine .inr ⟨g, cap, cur, rfl, hb, ?_, rest⟩
  have hl : g < w.heap.size := by
   rcases Nat.lt_or_ge g w.heap.size with hlt | hge
   ·exact hlt
   ·rw [Array.getElem?_eq_none hge] at hgg; cases hgg
  rw [hg.block g hl (fun e => hne g rfl e.symm)]; exact hgg
def Apart (v u : Value) : Prop := ∀ g, v.ownBlock = some g → u.ownBlock ≠ some g
theorem Apart.symm {v u : Value} (h : Apart v u) : Apart u v := fun g h1 h2 => h g h2 h1
theorem Apart.grown {w : World} {v u v' : Value} {base e size n : Nat} {xs : List Value} (h : Apart v u) (ho : w.ownsRow base e size u n xs) {k : Nat} (hk : w.heap.size ≤ k) (hv : v'.ownBlock = v.ownBlock ∨ v'.ownBlock = some k) : Apart v' u := by
 intro g hg hu
 rcases hv with hv | hv
 ·exact h g (hv ▸ hg) hu
 ·have := (ho.lt g hu).2
  rw [hv] at hg; injection hg with hg; omega
def inC (c : UInt8) (l : List (List UInt8)) : List (List UInt8) := l.filter fun x => x.contains c
def outC (c : UInt8) (l : List (List UInt8)) : List (List UInt8) := l.filter fun x => !x.contains c
theorem take_snocL {α : Type} (l : List α) (k : Nat) (x : α) (h : l[k]? = some x) : l.take (k + 1) = l.take k ++ [x] := by
 obtain ⟨hk, rfl⟩ := List.getElem?_eq_some_iff.mp h
 exact List.take_succ_eq_append_getElem hk
theorem inC_yes (c : UInt8) (l : List (List UInt8)) (k : Nat) (x : List UInt8) (h : l[k]? = some x) (hc : x.contains c = true) : inC c (l.take (k + 1)) = inC c (l.take k) ++ [x] ∧ outC c (l.take (k + 1)) = outC c (l.take k) := by
 rw [take_snocL l k x h]; unfold inC outC; rw [List.filter_append, List.filter_append]; simp only [List.filter_cons, List.filter_nil, hc]; simp
theorem inC_no (c : UInt8) (l : List (List UInt8)) (k : Nat) (x : List UInt8) (h : l[k]? = some x) (hc : x.contains c = false) : inC c (l.take (k + 1)) = inC c (l.take k) ∧ outC c (l.take (k + 1)) = outC c (l.take k) ++ [x] := by
 rw [take_snocL l k x h]; unfold inC outC; rw [List.filter_append, List.filter_append]; simp only [List.filter_cons, List.filter_nil, hc]; simp
theorem inC_len (c : UInt8) (l : List (List UInt8)) (k : Nat) : (inC c (l.take k)).length ≤ k ∧ (outC c (l.take k)).length ≤ k := by
 have h := List.length_take_le k l
 exact ⟨Nat.le_trans (List.length_filter_le _ _) h, Nat.le_trans (List.length_filter_le _ _) h⟩
set_option maxHeartbeats 1600000 in
set_option maxRecDepth 1000000 in
theorem extract_step (v : Value) (l : List (List UInt8)) (w : World) (hv : Strs w 0 v l) (hl : l.length ≤ 4096) (hi : ∀ x ∈ l, x.length ≤ 4096) :
 Calls Tryz.prog 151 #[v] w fun e w' => ∃ v1 v2, e = .returned (.tuple #[v1, v2]) ∧ Strs w' w.heap.size v1 (outC 47 l) ∧ Strs w' w.heap.size v2 (inC 47 l) ∧ Ext w w' := by
 obtain ⟨i0, hi0, hz0, hz1, hz2⟩ := info_parts Tryz.info9
 obtain ⟨a, cap, rfl⟩ := own_any hv
 obtain ⟨n, hnn⟩ : ∃ n, n = l.length := ⟨_, rfl⟩
 have hcell : 0 < n → ∃ g, a = some ⟨g, 0, none⟩ ∧ ∀ (j : Nat) (x : List UInt8), l[j]? = some x → w.cell? ⟨g, j, none⟩ = some (.string (mk x)) := by
  intro h
  obtain ⟨g, cap', he, _, _, hc⟩ := hv.form (by omega)
  injection he with he1
  exact ⟨g, he1, hc⟩
 rw [← hnn]
 have hn' : n ≤ 4096 := by omega
 have Hnn := Lib.hid hnn
 clear hv hl hnn
 go_enter Tryz.func151, Tryz.ntmps151
 go_wp2_with (first
  | (at_make; refine wpList_make_own _ rfl _ _ 85 rfl w.heap.size 9 i0 (.string ⟨#[]⟩) 1 Tryz.underlying85 hi0 hz0 hz1 .i64 .i64 (n : Int) n rfl rfl rfl ?c1 ?c2 ?c3 ?_)
  | fail)
 case c1 => rw [hz2]; omega
 case c2 => unfold maxLen; omega
 case c3 => omega
 intro w1 own1 gr1
 have hx1 : Ext w w1 := Below.grown (Below.refl _ _) gr1 (Nat.le_refl _) (fun k h => by cases h)
 go_wp2_with (first
  | (at_make; refine wpList_make_own _ rfl _ _ 85 rfl w.heap.size 9 i0 (.string ⟨#[]⟩) 1 Tryz.underlying85 hi0 hz0 hz1 .i64 .i64 (0 : Int) 0 rfl rfl rfl ?c1 ?c2 ?c3 ?_)
  | fail)
 case c1 => omega
 case c2 => unfold maxLen; omega
 case c3 => exact hx1.size
 intro w2 own2 gr2
 have hx2 : Ext w w2 := hx1.trans (Below.grown (Below.refl _ _) gr2 (Nat.le_refl _) (fun k h => by cases h))
 have own1' := own_other own1 gr2 (fun g _ => by intro h; cases h)
 have hap : Apart (.slice (some ⟨w.heap.size, 0, none⟩) 0 n) (.slice (some ⟨w1.heap.size, 0, none⟩) 0 0) := by
  intro g h1 h2
  have := (own1.lt g h1).2
  injection h2 with h2; simp at h2; omega
 go_wp2_with fail
 go_loopw [4, 5, 7, 14] (fun v4 v5 _ i wr => ∃ k : Nat, k ≤ n ∧ i = .int .i64 k ∧ Hid (wr.ownsRow w.heap.size 9 1 v4 (outC 47 (l.take k)).length (strs (outC 47 (l.take k)))) ∧ Hid (wr.ownsRow w.heap.size 9 1 v5 (inC 47 (l.take k)).length (strs (inC 47 (l.take k)))) ∧ Hid (Apart v4 v5) ∧ Ext w wr)
  (fun _ _ _ i _ => n - (RowKit.intOf i).toNat)
 case atStart => exact ⟨0, Nat.zero_le _, rfl, own1', own2, hap, hx2⟩
 case round =>
  obtain ⟨k, hk, rfl, H4, H5, Hap, hx⟩ := hrel
  clear own1 own2 own1' hap gr1 gr2
  have hlen := inC_len 47 l k
  by_cases hlt : k < n
  ·obtain ⟨g, rfl, hc⟩ := hcell (by omega)
   obtain ⟨x, hxx⟩ : ∃ x, l[k]? = some x := ⟨_, List.getElem?_eq_getElem (by rw [← Hnn.out]; exact hlt)⟩
   have hck := hx.cell (hc k x hxx)
   have hxl := hi x (List.mem_iff_getElem?.mpr ⟨k, hxx⟩)
   have Hxx := Lib.hid hxx
   clear hxx hc hcell
   have own4 := H4.out
   have own5 := H5.out
   go_wp2_with fail
   go_at_call 119
   refine (zz_has (mk x) 47 _ (by rw [size_mk]; exact hxl)).mono ?_
   rintro e w3 ⟨rfl, rfl⟩
   rw [bytes_mk]
   rcases hcc : x.contains 47
   ·have Hno := Lib.hid (inC_no 47 l k x Hxx.out hcc)
    go_wp2_with (first
     | (at_builtin; refine wpList_append_own_at _ rfl _ _ 85 rfl w.heap.size 9 i0 (.string ⟨#[]⟩) 1 16 Tryz.underlying85 hi0 hz0 hz1 hz2 rfl (by decide) _ _ _ rfl (own4.alloc _) ⟨wr.heap.size, 0, none⟩ 1 1 [.string (mk x)] rfl rfl ?c1 ?c2 ?c3 ?c4 ?c5 ?_)
     | go_in)
    case c1 => exact cell_one_new _ _ _
    case c2 => intro u hu; simp at hu; subst hu; rfl
    case c3 => unfold maxLen; omega
    case c4 => omega
    case c5 => have := hx.size; simp; omega
    intro v' w5 hown' hgrow _ hblk
    have A1 : Hid (w5.ownsRow w.heap.size 9 1 v' (outC 47 (l.take (k + 1))).length (strs (outC 47 (l.take (k + 1))))) := by
     show World.ownsRow _ _ _ _ _ _ _
     rw [Hno.out.2, strs_snoc]; simpa using hown'
    have A2 : Hid (w5.ownsRow w.heap.size 9 1 u5 (inC 47 (l.take (k + 1))).length (strs (inC 47 (l.take (k + 1))))) := by
     show World.ownsRow _ _ _ _ _ _ _
     rw [Hno.out.1]; exact own_other (own5.alloc _) hgrow (fun g h1 h2 => Hap.out g h2 h1)
    have A3 : Hid (Apart v' u5) := Hap.out.grown own5 (k := wr.heap.size + 1) (by omega) (by simpa using hblk)
    have A4 := Ext.own_grown hx own4 hgrow
    clear hown' hgrow hblk own4 own5
    go_wp2_with fail
    go_roundw
    case rel => exact ⟨k + 1, by omega, by go_num, A1, A2, A3, A4⟩
    case measure => simp [RowKit.intOf]; omega
   ·have Hyes := Lib.hid (inC_yes 47 l k x Hxx.out hcc)
    go_wp2_with (first
     | (at_builtin; refine wpList_append_own_at _ rfl _ _ 85 rfl w.heap.size 9 i0 (.string ⟨#[]⟩) 1 16 Tryz.underlying85 hi0 hz0 hz1 hz2 rfl (by decide) _ _ _ rfl (own5.alloc _) ⟨wr.heap.size, 0, none⟩ 1 1 [.string (mk x)] rfl rfl ?c1 ?c2 ?c3 ?c4 ?c5 ?_)
     | go_in)
    case c1 => exact cell_one_new _ _ _
    case c2 => intro u hu; simp at hu; subst hu; rfl
    case c3 => unfold maxLen; omega
    case c4 => omega
    case c5 => have := hx.size; simp; omega
    intro v' w5 hown' hgrow _ hblk
    have A1 : Hid (w5.ownsRow w.heap.size 9 1 v' (inC 47 (l.take (k + 1))).length (strs (inC 47 (l.take (k + 1))))) := by
     show World.ownsRow _ _ _ _ _ _ _
     rw [Hyes.out.1, strs_snoc]; simpa using hown'
    have A2 : Hid (w5.ownsRow w.heap.size 9 1 u4 (outC 47 (l.take (k + 1))).length (strs (outC 47 (l.take (k + 1))))) := by
     show World.ownsRow _ _ _ _ _ _ _
     rw [Hyes.out.2]; exact own_other (own4.alloc _) hgrow (fun g h1 h2 => Hap.out g h1 h2)
    have A3 : Hid (Apart u4 v') := (Hap.out.symm.grown own4 (k := wr.heap.size + 1) (by omega) (by simpa using hblk)).symm
    have A4 := Ext.own_grown hx own5 hgrow
    clear hown' hgrow hblk own4 own5
    go_wp2_with fail
    go_roundw
    case rel => exact ⟨k + 1, by omega, by go_num, A2, A1, A3, A4⟩
    case measure => simp [RowKit.intOf]; omega
  ·have hkn : l.take k = l := List.take_of_length_le (by rw [← Hnn.out]; omega)
   rw [hkn] at H4 H5
   go_wp2_with fail
   go_ret2
   exact ⟨_, _, rfl, H4.out, H5.out, hx⟩
set_option maxHeartbeats 1600000 in
set_option maxRecDepth 1000000 in
theorem extract_range (v : Value) (l : List (List UInt8)) (w : World) (hv : Strs w 0 v l) (hl : l.length ≤ 4096) (hi : ∀ x ∈ l, x.length ≤ 4096) :
 Calls Tryz.prog 152 #[v] w fun e w' => ∃ v1 v2, e = .returned (.tuple #[v1, v2]) ∧ Strs w' w.heap.size v1 (outC 45 l) ∧ Strs w' w.heap.size v2 (inC 45 l) ∧ Ext w w' := by
 obtain ⟨i0, hi0, hz0, hz1, hz2⟩ := info_parts Tryz.info9
 obtain ⟨a, cap, rfl⟩ := own_any hv
 obtain ⟨n, hnn⟩ : ∃ n, n = l.length := ⟨_, rfl⟩
 have hcell : 0 < n → ∃ g, a = some ⟨g, 0, none⟩ ∧ ∀ (j : Nat) (x : List UInt8), l[j]? = some x → w.cell? ⟨g, j, none⟩ = some (.string (mk x)) := by
  intro h
  obtain ⟨g, cap', he, _, _, hc⟩ := hv.form (by omega)
  injection he with he1
  exact ⟨g, he1, hc⟩
 rw [← hnn]
 have hn' : n ≤ 4096 := by omega
 have Hnn := Lib.hid hnn
 clear hv hl hnn
 go_enter Tryz.func152, Tryz.ntmps152
 go_wp2_with (first
  | (at_make; refine wpList_make_own _ rfl _ _ 85 rfl w.heap.size 9 i0 (.string ⟨#[]⟩) 1 Tryz.underlying85 hi0 hz0 hz1 .i64 .i64 (n : Int) n rfl rfl rfl ?c1 ?c2 ?c3 ?_)
  | fail)
 case c1 => rw [hz2]; omega
 case c2 => unfold maxLen; omega
 case c3 => omega
 intro w1 own1 gr1
 have hx1 : Ext w w1 := Below.grown (Below.refl _ _) gr1 (Nat.le_refl _) (fun k h => by cases h)
 go_wp2_with (first
  | (at_make; refine wpList_make_own _ rfl _ _ 85 rfl w.heap.size 9 i0 (.string ⟨#[]⟩) 1 Tryz.underlying85 hi0 hz0 hz1 .i64 .i64 (0 : Int) 0 rfl rfl rfl ?c1 ?c2 ?c3 ?_)
  | fail)
 case c1 => omega
 case c2 => unfold maxLen; omega
 case c3 => exact hx1.size
 intro w2 own2 gr2
 have hx2 : Ext w w2 := hx1.trans (Below.grown (Below.refl _ _) gr2 (Nat.le_refl _) (fun k h => by cases h))
 have own1' := own_other own1 gr2 (fun g _ => by intro h; cases h)
 have hap : Apart (.slice (some ⟨w.heap.size, 0, none⟩) 0 n) (.slice (some ⟨w1.heap.size, 0, none⟩) 0 0) := by
  intro g h1 h2
  have := (own1.lt g h1).2
  injection h2 with h2; simp at h2; omega
 go_wp2_with fail
 go_loopw [4, 5, 7, 14] (fun v4 v5 _ i wr => ∃ k : Nat, k ≤ n ∧ i = .int .i64 k ∧ Hid (wr.ownsRow w.heap.size 9 1 v4 (outC 45 (l.take k)).length (strs (outC 45 (l.take k)))) ∧ Hid (wr.ownsRow w.heap.size 9 1 v5 (inC 45 (l.take k)).length (strs (inC 45 (l.take k)))) ∧ Hid (Apart v4 v5) ∧ Ext w wr)
  (fun _ _ _ i _ => n - (RowKit.intOf i).toNat)
 case atStart => exact ⟨0, Nat.zero_le _, rfl, own1', own2, hap, hx2⟩
 case round =>
  obtain ⟨k, hk, rfl, H4, H5, Hap, hx⟩ := hrel
  clear own1 own2 own1' hap gr1 gr2
  have hlen := inC_len 45 l k
  by_cases hlt : k < n
  ·obtain ⟨g, rfl, hc⟩ := hcell (by omega)
   obtain ⟨x, hxx⟩ : ∃ x, l[k]? = some x := ⟨_, List.getElem?_eq_getElem (by rw [← Hnn.out]; exact hlt)⟩
   have hck := hx.cell (hc k x hxx)
   have hxl := hi x (List.mem_iff_getElem?.mpr ⟨k, hxx⟩)
   have Hxx := Lib.hid hxx
   clear hxx hc hcell
   have own4 := H4.out
   have own5 := H5.out
   go_wp2_with fail
   go_at_call 119
   refine (zz_has (mk x) 45 _ (by rw [size_mk]; exact hxl)).mono ?_
   rintro e w3 ⟨rfl, rfl⟩
   rw [bytes_mk]
   rcases hcc : x.contains 45
   ·have Hno := Lib.hid (inC_no 45 l k x Hxx.out hcc)
    go_wp2_with (first
     | (at_builtin; refine wpList_append_own_at _ rfl _ _ 85 rfl w.heap.size 9 i0 (.string ⟨#[]⟩) 1 16 Tryz.underlying85 hi0 hz0 hz1 hz2 rfl (by decide) _ _ _ rfl (own4.alloc _) ⟨wr.heap.size, 0, none⟩ 1 1 [.string (mk x)] rfl rfl ?c1 ?c2 ?c3 ?c4 ?c5 ?_)
     | go_in)
    case c1 => exact cell_one_new _ _ _
    case c2 => intro u hu; simp at hu; subst hu; rfl
    case c3 => unfold maxLen; omega
    case c4 => omega
    case c5 => have := hx.size; simp; omega
    intro v' w5 hown' hgrow _ hblk
    have A1 : Hid (w5.ownsRow w.heap.size 9 1 v' (outC 45 (l.take (k + 1))).length (strs (outC 45 (l.take (k + 1))))) := by
     show World.ownsRow _ _ _ _ _ _ _
     rw [Hno.out.2, strs_snoc]; simpa using hown'
    have A2 : Hid (w5.ownsRow w.heap.size 9 1 u5 (inC 45 (l.take (k + 1))).length (strs (inC 45 (l.take (k + 1))))) := by
     show World.ownsRow _ _ _ _ _ _ _
     rw [Hno.out.1]; exact own_other (own5.alloc _) hgrow (fun g h1 h2 => Hap.out g h2 h1)
    have A3 : Hid (Apart v' u5) := Hap.out.grown own5 (k := wr.heap.size + 1) (by omega) (by simpa using hblk)
    have A4 := Ext.own_grown hx own4 hgrow
    clear hown' hgrow hblk own4 own5
    go_wp2_with fail
    go_roundw
    case rel => exact ⟨k + 1, by omega, by go_num, A1, A2, A3, A4⟩
    case measure => simp [RowKit.intOf]; omega
   ·have Hyes := Lib.hid (inC_yes 45 l k x Hxx.out hcc)
    go_wp2_with (first
     | (at_builtin; refine wpList_append_own_at _ rfl _ _ 85 rfl w.heap.size 9 i0 (.string ⟨#[]⟩) 1 16 Tryz.underlying85 hi0 hz0 hz1 hz2 rfl (by decide) _ _ _ rfl (own5.alloc _) ⟨wr.heap.size, 0, none⟩ 1 1 [.string (mk x)] rfl rfl ?c1 ?c2 ?c3 ?c4 ?c5 ?_)
     | go_in)
    case c1 => exact cell_one_new _ _ _
    case c2 => intro u hu; simp at hu; subst hu; rfl
    case c3 => unfold maxLen; omega
    case c4 => omega
    case c5 => have := hx.size; simp; omega
    intro v' w5 hown' hgrow _ hblk
    have A1 : Hid (w5.ownsRow w.heap.size 9 1 v' (inC 45 (l.take (k + 1))).length (strs (inC 45 (l.take (k + 1))))) := by
     show World.ownsRow _ _ _ _ _ _ _
     rw [Hyes.out.1, strs_snoc]; simpa using hown'
    have A2 : Hid (w5.ownsRow w.heap.size 9 1 u4 (outC 45 (l.take (k + 1))).length (strs (outC 45 (l.take (k + 1))))) := by
     show World.ownsRow _ _ _ _ _ _ _
     rw [Hyes.out.2]; exact own_other (own4.alloc _) hgrow (fun g h1 h2 => Hap.out g h1 h2)
    have A3 : Hid (Apart u4 v') := (Hap.out.symm.grown own4 (k := wr.heap.size + 1) (by omega) (by simpa using hblk)).symm
    have A4 := Ext.own_grown hx own5 hgrow
    clear hown' hgrow hblk own4 own5
    go_wp2_with fail
    go_roundw
    case rel => exact ⟨k + 1, by omega, by go_num, A2, A1, A3, A4⟩
    case measure => simp [RowKit.intOf]; omega
  ·have hkn : l.take k = l := List.take_of_length_le (by rw [← Hnn.out]; omega)
   rw [hkn] at H4 H5
   go_wp2_with fail
   go_ret2
   exact ⟨_, _, rfl, H4.out, H5.out, hx⟩
end Go.Proofs.YtmaffdhcmdhjfaaGreatDoor
namespace Go.Proofs.YtmaffdhcmdhjfaaGreatDoor
open Go.RowKit Go.Lib
def normAll (names : List (List UInt8)) : List (List UInt8) → Option (List Int)
 | [] => some []
 | x :: xs => match normalizeO names x with
   | none => none
   | some n => (normAll names xs).map (n :: ·)
theorem normAll_append (names : List (List UInt8)) : ∀ (a b : List (List UInt8)), normAll names (a ++ b) = (normAll names a).bind fun x => (normAll names b).map (x ++ ·)
 | [], b => by simp [normAll]
 | x :: xs, b => by
   simp only [List.cons_append, normAll]
   cases normalizeO names x with
   | none => rfl
   | some n =>
     simp only [normAll_append names xs b]
     cases normAll names xs with
     | none => rfl
     | some y => cases normAll names b <;> simp
theorem normAll_split (names : List (List UInt8)) (l : List (List UInt8)) (k : Nat) (x : List UInt8) (zs : List Int) (hx : l[k]? = some x) (h : normAll names (l.take k) = some zs) :
 normAll names l = (match normalizeO names x with
  | none => none
  | some n => (normAll names (l.drop (k + 1))).map fun r => zs ++ n :: r) ∧
 normAll names (l.take (k + 1)) = (normalizeO names x).map fun n => zs ++ [n] := by
 obtain ⟨hk, rfl⟩ := List.getElem?_eq_some_iff.mp hx
 constructor
 ·conv => lhs; rw [← List.take_append_drop k l, List.drop_eq_getElem_cons hk]
  rw [normAll_append, h]
  simp only [Option.bind_some, normAll]
  cases normalizeO names l[k] with
  | none => rfl
  | some n => simp only [Option.map_map]; rfl
 ·rw [List.take_succ_eq_append_getElem hk, normAll_append, h]
  simp only [Option.bind_some, normAll]
  cases normalizeO names l[k] <;> rfl
theorem normAll_len (names : List (List UInt8)) : ∀ (l : List (List UInt8)) (zs : List Int), normAll names l = some zs → zs.length = l.length
 | [], zs, h => by simp [normAll] at h; subst h; rfl
 | x :: xs, zs, h => by
   unfold normAll at h
   cases hn : normalizeO names x with
   | none => rw [hn] at h; cases h
   | some n =>
     rw [hn] at h
     simp only [Option.map_eq_some_iff] at h
     obtain ⟨y, hy, rfl⟩ := h
     simp [normAll_len names xs y hy]
set_option maxHeartbeats 1600000 in
set_option maxRecDepth 1000000 in
theorem translate_lits (vn v : Value) (names l : List (List UInt8)) (w : World) (hvn : Strs w 0 vn names) (hnn : names.length ≤ 13) (hv : Strs w 0 v l) (hl : l.length ≤ 4096) (hi : ∀ x ∈ l, x.length ≤ 4096) (hE : Env w) :
 Calls Tryz.prog 153 #[vn, v] w fun e w' => ((∃ zs v', normAll names l = some zs ∧ e = .returned (.tuple #[v', .nilIface]) ∧ Ints w' w.heap.size v' zs) ∨
  (normAll names l = none ∧ ∃ t p, e = .returned (.tuple #[.slice none 0 0, .iface t p]))) ∧ Ext w w' := by
 obtain ⟨i0, hi0, hz0, hz1, hz2⟩ := info_parts Tryz.info3
 obtain ⟨a, cap, rfl⟩ := own_any hv
 obtain ⟨an, capn, rfl⟩ := own_any hvn
 obtain ⟨n, hn0⟩ : ∃ n, n = l.length := ⟨_, rfl⟩
 have hcell : 0 < n → ∃ g, a = some ⟨g, 0, none⟩ ∧ ∀ (j : Nat) (x : List UInt8), l[j]? = some x → w.cell? ⟨g, j, none⟩ = some (.string (mk x)) := by
  intro h
  obtain ⟨g, cap', he, _, _, hc⟩ := hv.form (by omega)
  injection he with he1
  exact ⟨g, he1, hc⟩
 rw [← hn0]
 have hn' : n ≤ 4096 := by omega
 have Hnn := Lib.hid hn0
 have Hvn := Lib.hid hvn
 clear hv hl hn0 hvn
 go_enter Tryz.func153, Tryz.ntmps153
 go_wp2_with (first
  | (at_make; refine wpList_make_own _ rfl _ _ 38 rfl w.heap.size 3 i0 (.int .i64 0) 1 Tryz.underlying38 hi0 hz0 hz1 .i64 .i64 (n : Int) n rfl rfl rfl ?c1 ?c2 ?c3 ?_)
  | fail)
 case c1 => rw [hz2]; omega
 case c2 => unfold maxLen; omega
 case c3 => omega
 intro w1 own1 gr1
 have hx1 : Ext w w1 := Below.grown (Below.refl _ _) gr1 (Nat.le_refl _) (fun k h => by cases h)
 go_wp2_with fail
 go_loopw [6, 8, 9, 10, 16] (fun v6 _ _ _ i wr => ∃ (k : Nat) (zs : List Int), k ≤ n ∧ i = .int .i64 k ∧ zs.length = k ∧ Hid (normAll names (l.take k) = some zs) ∧ Hid (wr.ownsRow w.heap.size 3 1 v6 zs.length (ints zs)) ∧ Ext w wr)
  (fun _ _ _ _ i _ => n - (RowKit.intOf i).toNat)
 case atStart => exact ⟨0, [], Nat.zero_le _, rfl, rfl, rfl, own1, hx1⟩
 case round =>
  obtain ⟨k, zs, hk, rfl, hzl, Hz, H6, hx⟩ := hrel
  clear own1 gr1
  by_cases hlt : k < n
  ·obtain ⟨g, rfl, hc⟩ := hcell (by omega)
   obtain ⟨x, hxx⟩ : ∃ x, l[k]? = some x := ⟨_, List.getElem?_eq_getElem (by rw [← Hnn.out]; exact hlt)⟩
   have hck := hx.cell (hc k x hxx)
   have hxl := hi x (List.mem_iff_getElem?.mpr ⟨k, hxx⟩)
   have Hs := Lib.hid (normAll_split names l k x zs hxx Hz.out)
   clear hxx hc hcell
   go_wp2_with fail
   go_at_call 123
   refine (normalize_any _ names (mk x) _ (by rw [size_mk]; exact hxl) hnn (hE.ext hx) (Hvn.out.ext hx)).mono ?_
   rintro e w3 ⟨⟨m, hm, rfl⟩ | ⟨hm, m, t, p, rfl⟩, hx3⟩
   ·have hs := Hs.out
    rw [bytes_mk] at hm
    rw [hm] at hs
    have Hs2 := Lib.hid hs.2
    clear hs Hs hm
    have own6 := own_ext hx3 H6.out
    go_wp2_with (first
     | (at_builtin; refine wpList_append_own _ rfl _ _ 38 rfl w.heap.size 3 i0 (.int .i64 0) 1 8 Tryz.underlying38 hi0 hz0 hz1 hz2 rfl (by decide) _ _ _ rfl (own6.alloc _) ⟨w3.heap.size, 0, none⟩ 1 1 [.int .i64 m] rfl rfl ?c1 ?c2 ?c3 ?c4 ?c5 ?_)
     | go_in)
    case c1 => exact cell_one_new _ _ _
    case c2 => intro u hu; simp at hu; subst hu; rfl
    case c3 => unfold maxLen; omega
    case c4 => omega
    case c5 => have := (hx.trans hx3).size; simp; omega
    intro v' w5 hown' hgrow _
    have A1 : Hid (w5.ownsRow w.heap.size 3 1 v' (zs ++ [m]).length (ints (zs ++ [m]))) := by
     show World.ownsRow _ _ _ _ _ _ _
     rw [ints_snoc]; simpa [hzl] using hown'
    have A4 := Ext.own_grown (hx.trans hx3) own6 hgrow
    clear hown' hgrow own6
    go_wp2_with fail
    go_roundw
    case rel => exact ⟨k + 1, zs ++ [m], by omega, by go_num, by simp; omega, by show _ = _; rw [Hs2.out]; rfl, A1, A4⟩
    case measure => simp [RowKit.intOf]; omega
   ·have hs := Hs.out
    rw [bytes_mk] at hm
    rw [hm] at hs
    have Hs1 := Lib.hid hs.1
    clear hs Hs hm
    go_wp2_with fail
    go_ret2
    exact ⟨.inr ⟨Hs1.out, t, p, rfl⟩, hx.trans hx3⟩
  ·have hkn : l.take k = l := List.take_of_length_le (by rw [← Hnn.out]; omega)
   rw [hkn] at Hz
   go_wp2_with fail
   go_ret2
   exact ⟨.inl ⟨zs, _, Hz.out, rfl, H6.out⟩, hx⟩
end Go.Proofs.YtmaffdhcmdhjfaaGreatDoor
namespace Go.Proofs.YtmaffdhcmdhjfaaGreatDoor
open Go.RowKit Go.Lib
def Field (w : World) (base : Nat) (v : Value) (zs : List Int) (n : Int) : Prop :=
 ∃ N sl, v = .pointer (some ⟨N, 0, none⟩) ∧ base ≤ N ∧ w.heap[N]? = some (.cells #[sl, .int .i64 n] 92 (0, 0)) ∧ Ints w base sl zs
theorem block_lt {w : World} {N : Nat} {o : Obj} (h : w.heap[N]? = some o) : N < w.heap.size := by
 rcases Nat.lt_or_ge N w.heap.size with hlt | hge
 ·exact hlt
 ·rw [Array.getElem?_eq_none hge] at h; cases h
theorem Field.ext {w w' : World} {base : Nat} {v : Value} {zs : List Int} {n : Int} (h : Field w base v zs n) (x : Ext w w') : Field w' base v zs n := by
 obtain ⟨N, sl, hv, hb, hN, hI⟩ := h
 exact ⟨N, sl, hv, hb, by rw [Below.block x N (block_lt hN)]; exact hN, hI.ext x⟩
theorem Field.mk {w : World} {base : Nat} {sl : Value} {zs : List Int} {n : Int} (hI : Ints w base sl zs) (hb : base ≤ w.heap.size) :
 Field (w.alloc (.cells #[sl, .int .i64 n] 92)) base (.pointer (some ⟨w.heap.size, 0, none⟩)) zs n :=
 ⟨w.heap.size, sl, rfl, hb, by rw [← World.alloc_eq]; simp, hI.ext (Ext.alloc _ _)⟩
theorem Ints.mono {w : World} {b b' : Nat} {v : Value} {zs : List Int} (h : Ints w b v zs) (hb : b' ≤ b) : Ints w b' v zs :=
 ⟨h.1, h.2.imp id fun ⟨g, cap, cur, h1, h2, h3⟩ => ⟨g, cap, cur, h1, Nat.le_trans hb h2, h3⟩⟩
theorem Field.mono {w : World} {b b' : Nat} {v : Value} {zs : List Int} {n : Int} (h : Field w b v zs n) (hb : b' ≤ b) : Field w b' v zs n := by
 obtain ⟨N, sl, hv, hN, hc, hI⟩ := h
 exact ⟨N, sl, hv, Nat.le_trans hb hN, hc, hI.mono hb⟩
theorem fill_range_bad (a b : Int) (w : World) (h : b < a) (hE : Env w) :
 Calls Tryz.prog 83 #[.int .i64 a, .int .i64 b] w fun e w' => ∃ t p, e = .returned (.tuple #[.slice none 0 0, .iface t p]) ∧ Ext w w' := by
 go_enter Tryz.func83, Tryz.ntmps83
 go_wp2_with fail
 go_at_call 77
 refine (new_err _ _ hE).mono ?_
 rintro e w1 ⟨t, p, rfl, x⟩
 go_wp2_with fail
 go_ret2
 exact ⟨t, p, rfl, x⟩
theorem fill_step_bad (a s b : Int) (w : World) (h : b < a) (hE : Env w) :
 Calls Tryz.prog 155 #[.int .i64 a, .int .i64 s, .int .i64 b] w fun e w' => ∃ t p, e = .returned (.tuple #[.slice none 0 0, .iface t p]) ∧ Ext w w' := by
 go_enter Tryz.func155, Tryz.ntmps155
 go_wp2_with fail
 go_at_call 77
 refine (new_err _ _ hE).mono ?_
 rintro e w1 ⟨t, p, rfl, x⟩
 go_wp2_with fail
 go_ret2
 exact ⟨t, p, rfl, x⟩
def within (lo hi x : Int) : Bool := decide (lo ≤ x) && decide (x ≤ hi)
def rangeO (names : List (List UInt8)) (lo hi : Int) (l : List UInt8) : Option (List Int) := match splitL l 45 with
 | [a, b] => match normalizeO names a with
   | none => none
   | some x => match normalizeO names b with
     | none => none
     | some y => if within lo hi x && within lo hi y && decide (x ≤ y) then some (stepsL x y 1) else none
 | _ => none
theorem in_scope' (v a b : Int) (w : World) :
 Calls Tryz.prog 124 #[.int .i64 v, .int .i64 a, .int .i64 b] w fun e w' => e = .returned (.bool (within a b v)) ∧ w = w' := in_scope v a b w
theorem within_le {a b v : Int} (h : within a b v = true) : a ≤ v ∧ v ≤ b := by simpa [within] using h
set_option maxHeartbeats 1600000 in
set_option maxRecDepth 1000000 in
theorem parse_range (s : ByteArray) (lo hi : Int) (vn : Value) (names : List (List UInt8)) (w : World) (hs : s.size ≤ 4000) (hlo : 0 ≤ lo) (hhi : hi ≤ 4000) (hvn : Strs w 0 vn names) (hnn : names.length ≤ 13) (hE : Env w) :
 Calls Tryz.prog 122 #[.string s, .agg #[.int .i64 lo, .int .i64 hi], vn] w fun e w' => ((∃ zs v, rangeO names lo hi (bytes s) = some zs ∧ e = .returned (.tuple #[v, .nilIface]) ∧ Field w' w.heap.size v zs 0) ∨
  (rangeO names lo hi (bytes s) = none ∧ ∃ t p, e = .returned (.tuple #[.pointer none, .iface t p]))) ∧ Ext w w' := by
 obtain ⟨an, capn, rfl⟩ := own_any hvn
 have Hvn := Lib.hid hvn
 clear hvn
 have hx0 := Ext.alloc w (.cells #[.int .i64 lo, .int .i64 hi] 130)
 go_enter Tryz.func122, Tryz.ntmps122
 go_wp2_with fail
 go_at_call 76
 refine (zz_split s 45 _ (by omega)).mono ?_
 rintro e w1 ⟨v, rfl, hst, hx1⟩
 have hlo1 : w1.cell? ⟨w.heap.size, 0, none⟩ = some (.int .i64 lo) := hx1.cell (by simp)
 have hhi1 : w1.cell? ⟨w.heap.size, 1, none⟩ = some (.int .i64 hi) := hx1.cell (by simp)
 have hx01 := hx0.trans hx1
 clear hx0 hx1
 obtain ⟨g, cap, rfl, hb, hg, hcell⟩ := hst.form (splitL_pos _ _)
 have hitem := splitL_item (bytes s) 45
 rw [bytes_length] at hitem
 have hE1 := hE.ext hx01
 rcases hl : splitL (bytes s) 45 with _ | ⟨a, _ | ⟨b, _ | ⟨c, rest⟩⟩⟩
 ·exact absurd hl (splitGo_ne _ _ _)
 ·have hr : rangeO names lo hi (bytes s) = none := by simp [rangeO, hl]
  have Hr := Lib.hid hr
  clear hr hl hcell hitem hst
  go_wp2_with fail
  go_at_call 125
  refine (new_invalid s _ _ hE1 (by omega) (by decide)).mono ?_
  rintro e w2 ⟨t, p, rfl, hx2⟩
  go_wp2_with fail
  go_ret2
  exact ⟨.inr ⟨Hr.out, t, p, rfl⟩, hx01.trans hx2⟩
 ·rw [hl] at hcell
  have c0 := hcell 0 a rfl
  have c1 := hcell 1 b rfl
  have ha := hitem a (by rw [hl]; simp)
  have hb := hitem b (by rw [hl]; simp)
  have Hl := Lib.hid hl
  clear hl hcell hitem hst
  go_wp2_with fail
  go_at_call 123
  refine (normalize_any _ names (mk a) _ (by rw [size_mk]; omega) hnn hE1 (Hvn.out.ext hx01)).mono ?_
  rintro e w2 ⟨⟨x, hm, rfl⟩ | ⟨hm, m, t, p, rfl⟩, hx2⟩
  ·have hm' : normalizeO names a = some x := hm
   have Hm := Lib.hid hm'
   clear hm hm'
   have hlo2 := hx2.cell hlo1
   have hhi2 := hx2.cell hhi1
   have c1' := hx2.cell c1
   have hx02 := hx01.trans hx2
   have hE2 := hE.ext hx02
   clear hlo1 hhi1 c1 hx2 c0
   go_wp2_with fail
   go_at_call 123
   refine (normalize_any _ names (mk b) _ (by rw [size_mk]; omega) hnn hE2 (Hvn.out.ext hx02)).mono ?_
   rintro e w3 ⟨⟨y, hy, rfl⟩ | ⟨hy, m, t, p, rfl⟩, hx3⟩
   ·have hy' : normalizeO names b = some y := hy
    have Hy := Lib.hid hy'
    clear hy hy'
    have hlo3 := hx3.cell hlo2
    have hhi3 := hx3.cell hhi2
    have hx03 := hx02.trans hx3
    have hE3 := hE.ext hx03
    clear hlo2 hhi2 c1' hx3
    have Hr : Hid (rangeO names lo hi (bytes s) = if within lo hi x && within lo hi y && decide (x ≤ y) then some (stepsL x y 1) else none) := by
     show _ = _
     simp [rangeO, Hl.out, Hm.out, Hy.out]
    go_wp2_with fail
    go_at_call 124
    refine (in_scope' x lo hi _).mono ?_
    rintro e w4 ⟨rfl, rfl⟩
    rcases hwx : within lo hi x
    ·have Hr2 : Hid (rangeO names lo hi (bytes s) = none) := by
      show _ = _
      rw [Hr.out, hwx]; rfl
     clear hwx
     go_wp2_with fail
     go_at_call 125
     refine (new_invalid s _ _ hE3 (by omega) (by decide)).mono ?_
     rintro e w4 ⟨t, p, rfl, hx4⟩
     go_wp2_with fail
     go_ret2
     exact ⟨.inr ⟨Hr2.out, t, p, rfl⟩, hx03.trans hx4⟩
    ·go_wp2_with fail
     go_at_call 124
     refine (in_scope' y lo hi _).mono ?_
     rintro e w4 ⟨rfl, rfl⟩
     rcases hwy : within lo hi y
     ·have Hr2 : Hid (rangeO names lo hi (bytes s) = none) := by
       show _ = _
       rw [Hr.out, hwx, hwy]; rfl
      clear hwx hwy
      go_wp2_with fail
      go_at_call 125
      refine (new_invalid s _ _ hE3 (by omega) (by decide)).mono ?_
      rintro e w4 ⟨t, p, rfl, hx4⟩
      go_wp2_with fail
      go_ret2
      exact ⟨.inr ⟨Hr2.out, t, p, rfl⟩, hx03.trans hx4⟩
     ·have bx := within_le hwx
      have by' := within_le hwy
      by_cases hxy : x ≤ y
      ·have Hr2 : Hid (rangeO names lo hi (bytes s) = some (stepsL x y 1)) := by
        show _ = _
        rw [Hr.out, hwx, hwy, decide_eq_true hxy]; rfl
       clear hwx hwy hlo3 hhi3
       go_wp2_with fail
       go_at_call 83
       refine (fill_range x y _ (by omega) hxy (by omega)).mono ?_
       rintro e w4 ⟨v, rfl, hI, hx4⟩
       obtain ⟨av, cv, rfl⟩ := own_any hI
       have HI := Lib.hid (Ints.mono hI hx03.size)
       clear hI
       go_wp2_with fail
       go_at_call 118
       refine (new_field _ _ _ _).mono ?_
       rintro e w5 ⟨rfl, rfl⟩
       go_wp2_with fail
       go_ret2
       exact ⟨.inl ⟨_, _, Hr2.out, rfl, Field.mk HI.out (hx03.trans hx4).size⟩, (hx03.trans hx4).trans (Ext.alloc _ _)⟩
      ·have Hr2 : Hid (rangeO names lo hi (bytes s) = none) := by
        show _ = _
        rw [Hr.out, hwx, hwy, decide_eq_false hxy]; rfl
       clear hwx hwy hlo3 hhi3
       go_wp2_with fail
       go_at_call 83
       refine (fill_range_bad x y _ (by omega) hE3).mono ?_
       rintro e w4 ⟨t, p, rfl, hx4⟩
       go_wp2_with fail
       go_ret2
       exact ⟨.inr ⟨Hr2.out, t, p, rfl⟩, hx03.trans hx4⟩
   ·have hy' : normalizeO names b = none := hy
    have hr : rangeO names lo hi (bytes s) = none := by simp [rangeO, Hl.out, Hm.out, hy']
    have Hr := Lib.hid hr
    clear hr hy hy'
    go_wp2_with fail
    go_ret2
    exact ⟨.inr ⟨Hr.out, t, p, rfl⟩, hx02.trans hx3⟩
  ·have hm' : normalizeO names a = none := hm
   have hr : rangeO names lo hi (bytes s) = none := by simp [rangeO, Hl.out, hm']
   have Hr := Lib.hid hr
   clear hr hm hm'
   go_wp2_with fail
   go_ret2
   exact ⟨.inr ⟨Hr.out, t, p, rfl⟩, hx01.trans hx2⟩
 ·have hr : rangeO names lo hi (bytes s) = none := by simp [rangeO, hl]
  have Hr := Lib.hid hr
  have hlen := splitL_len (bytes s) 45
  rw [hl, bytes_length] at hlen
  simp at hlen
  clear hr hl hcell hitem hst
  go_wp2_with fail
  go_at_call 125
  refine (new_invalid s _ _ hE1 (by omega) (by decide)).mono ?_
  rintro e w2 ⟨t, p, rfl, hx2⟩
  go_wp2_with fail
  go_ret2
  exact ⟨.inr ⟨Hr.out, t, p, rfl⟩, hx01.trans hx2⟩
end Go.Proofs.YtmaffdhcmdhjfaaGreatDoor
namespace Go.Proofs.YtmaffdhcmdhjfaaGreatDoor
open Go.RowKit Go.Lib
def startO (names : List (List UInt8)) (lo hi : Int) (a : List UInt8) : Option (Int × Int) :=
 if a = [42] then some (lo, hi)
 else if a.contains 45 then match splitL a 45 with
  | [c, d] => match normalizeO names c with
    | none => none
    | some x => match normalizeO names d with
      | none => none
      | some y => some (x, y)
  | _ => none
 else (normalizeO names a).map fun x => (x, hi)
def stepO (names : List (List UInt8)) (lo hi : Int) (l : List UInt8) : Option (List Int) := match splitL l 47 with
 | [a, b] => match startO names lo hi a with
   | none => none
   | some (x, y) => match atoiO b with
     | none => none
     | some st => if within lo hi x && within 1 hi st && within lo hi y && decide (x ≤ y) then some (stepsL x y st) else none
 | _ => none
set_option maxHeartbeats 3200000 in
set_option maxRecDepth 1000000 in
theorem parse_step (s : ByteArray) (lo hi : Int) (vn : Value) (names : List (List UInt8)) (w : World) (hs : s.size ≤ 4000) (hlo : 0 ≤ lo) (hhi : hi ≤ 4000) (hvn : Strs w 0 vn names) (hnn : names.length ≤ 13) (hE : Env w) :
 Calls Tryz.prog 121 #[.string s, .agg #[.int .i64 lo, .int .i64 hi], vn] w fun e w' => ((∃ zs v, stepO names lo hi (bytes s) = some zs ∧ e = .returned (.tuple #[v, .nilIface]) ∧ Field w' w.heap.size v zs 0) ∨
  (stepO names lo hi (bytes s) = none ∧ ∃ t p, e = .returned (.tuple #[.pointer none, .iface t p]))) ∧ Ext w w' := by
 obtain ⟨an, capn, rfl⟩ := own_any hvn
 have Hvn := Lib.hid hvn
 clear hvn
 have hx0 := Ext.alloc w (.cells #[.int .i64 lo, .int .i64 hi] 130)
 go_enter Tryz.func121, Tryz.ntmps121
 go_wp2_with fail
 go_at_call 76
 refine (zz_split s 47 _ (by omega)).mono ?_
 rintro e w1 ⟨v, rfl, hst, hx1⟩
 have hlo1 : w1.cell? ⟨w.heap.size, 0, none⟩ = some (.int .i64 lo) := hx1.cell (by simp)
 have hhi1 : w1.cell? ⟨w.heap.size, 1, none⟩ = some (.int .i64 hi) := hx1.cell (by simp)
 have hx01 := hx0.trans hx1
 clear hx0 hx1
 obtain ⟨g, cap, rfl, hb, hg, hcell⟩ := hst.form (splitL_pos _ _)
 have hitem := splitL_item (bytes s) 47
 rw [bytes_length] at hitem
 have hE1 := hE.ext hx01
 rcases hl : splitL (bytes s) 47 with _ | ⟨a, _ | ⟨b, _ | ⟨c, rest⟩⟩⟩
 ·exact absurd hl (splitGo_ne _ _ _)
 ·have hr : stepO names lo hi (bytes s) = none := by simp [stepO, hl]
  have Hr := Lib.hid hr
  clear hr hl hcell hitem hst
  go_wp2_with fail
  go_at_call 125
  refine (new_invalid s _ _ hE1 (by omega) (by decide)).mono ?_
  rintro e w9 ⟨t, p, rfl, hx9⟩
  go_wp2_with fail
  go_ret2
  exact ⟨.inr ⟨Hr.out, t, p, rfl⟩, hx01.trans hx9⟩
 ·rw [hl] at hcell
  have c01 := hcell 0 a rfl
  have c11 := hcell 1 b rfl
  have ha := hitem a (by rw [hl]; simp)
  have hbl := hitem b (by rw [hl]; simp)
  have hStep : stepO names lo hi (bytes s) = match startO names lo hi a with
   | none => none
   | some (x, y) => match atoiO b with
     | none => none
     | some st => if within lo hi x && within 1 hi st && within lo hi y && decide (x ≤ y) then some (stepsL x y st) else none := by simp only [stepO, hl]
  have HS := Lib.hid hStep
  clear hl hcell hitem hst hStep
  by_cases hstar : a = [42]
  ·have Hst : Hid (stepO names lo hi (bytes s) = match atoiO b with
    | none => none
    | some st => if within lo hi lo && within 1 hi st && within lo hi hi && decide (lo ≤ hi) then some (stepsL lo hi st) else none) := by
    show _ = _
    rw [HS.out, hstar]; rfl
   have heq : ((mk a).toList == [42]) = true := by rw [hstar, toList_bytes, bytes_mk]; rfl
   clear HS hstar
   go_wp2_with fail
   go_at_call 128
   refine (atoi_any (mk b) _ (by rw [size_mk]; omega) hE1).mono ?_
   rintro e w2 ⟨⟨st, hst, rfl⟩ | ⟨hst, m, t, p, rfl⟩, hx2⟩
   ·have hst' : atoiO b = some st := hst
    have Hr : Hid (stepO names lo hi (bytes s) = if within lo hi lo && within 1 hi st && within lo hi hi && decide (lo ≤ hi) then some (stepsL lo hi st) else none) := by
     show _ = _
     rw [Hst.out, hst']
    clear hst hst'
    have hlo2 := hx2.cell hlo1
    have hhi2 := hx2.cell hhi1
    have hx02 := hx01.trans hx2
    have hE2 := hE.ext hx02
    clear hlo1 hhi1 c11 hx2 hE1
    go_wp2_with fail
    go_at_call 124
    refine (in_scope' lo lo hi _).mono ?_
    rintro e w9 ⟨rfl, rfl⟩
    rcases hwx : within lo hi lo
    ·have Hr2 : Hid (stepO names lo hi (bytes s) = none) := by
      show _ = _
      rw [Hr.out, hwx]; rfl
     clear hwx
     go_wp2_with fail
     go_at_call 125
     refine (new_invalid s _ _ hE2 (by omega) (by decide)).mono ?_
     rintro e w9 ⟨t, p, rfl, hx9⟩
     go_wp2_with fail
     go_ret2
     exact ⟨.inr ⟨Hr2.out, t, p, rfl⟩, hx02.trans hx9⟩
    ·go_wp2_with fail
     go_at_call 124
     refine (in_scope' st 1 hi _).mono ?_
     rintro e w9 ⟨rfl, rfl⟩
     rcases hws : within 1 hi st
     ·have Hr2 : Hid (stepO names lo hi (bytes s) = none) := by
       show _ = _
       rw [Hr.out, hwx, hws]; rfl
      clear hwx hws
      go_wp2_with fail
      go_at_call 125
      refine (new_invalid s _ _ hE2 (by omega) (by decide)).mono ?_
      rintro e w9 ⟨t, p, rfl, hx9⟩
      go_wp2_with fail
      go_ret2
      exact ⟨.inr ⟨Hr2.out, t, p, rfl⟩, hx02.trans hx9⟩
     ·go_wp2_with fail
      go_at_call 124
      refine (in_scope' hi lo hi _).mono ?_
      rintro e w9 ⟨rfl, rfl⟩
      rcases hwy : within lo hi hi
      ·have Hr2 : Hid (stepO names lo hi (bytes s) = none) := by
        show _ = _
        rw [Hr.out, hwx, hws, hwy]; rfl
       clear hwx hws hwy
       go_wp2_with fail
       go_at_call 125
       refine (new_invalid s _ _ hE2 (by omega) (by decide)).mono ?_
       rintro e w9 ⟨t, p, rfl, hx9⟩
       go_wp2_with fail
       go_ret2
       exact ⟨.inr ⟨Hr2.out, t, p, rfl⟩, hx02.trans hx9⟩
      ·have bx := within_le hwx
       have by' := within_le hwy
       have bs := within_le hws
       by_cases hxy : lo ≤ hi
       ·have Hr2 : Hid (stepO names lo hi (bytes s) = some (stepsL lo hi st)) := by
         show _ = _
         rw [Hr.out, hwx, hwy, hws, decide_eq_true hxy]; rfl
        clear hwx hwy hws hlo2 hhi2
        go_wp2_with fail
        go_at_call 155
        refine (fill_step lo st hi _ (by omega) hxy (by omega) (by omega) (by omega)).mono ?_
        rintro e w9 ⟨v, rfl, hI, hx9⟩
        obtain ⟨av, cv, rfl⟩ := own_any hI
        have HI := Lib.hid (Ints.mono hI hx02.size)
        clear hI
        go_wp2_with fail
        go_at_call 118
        refine (new_field _ _ _ _).mono ?_
        rintro e w10 ⟨rfl, rfl⟩
        go_wp2_with fail
        go_ret2
        exact ⟨.inl ⟨_, _, Hr2.out, rfl, Field.mk HI.out (hx02.trans hx9).size⟩, (hx02.trans hx9).trans (Ext.alloc _ _)⟩
       ·have Hr2 : Hid (stepO names lo hi (bytes s) = none) := by
         show _ = _
         rw [Hr.out, hwx, hwy, hws, decide_eq_false hxy]; rfl
        clear hwx hwy hws hlo2 hhi2
        go_wp2_with fail
        go_at_call 155
        refine (fill_step_bad lo st hi _ (by omega) hE2).mono ?_
        rintro e w9 ⟨t, p, rfl, hx9⟩
        go_wp2_with fail
        go_ret2
        exact ⟨.inr ⟨Hr2.out, t, p, rfl⟩, hx02.trans hx9⟩
   ·have hst' : atoiO b = none := hst
    have Hr2 : Hid (stepO names lo hi (bytes s) = none) := by
     show _ = _
     rw [Hst.out, hst']
    clear hst hst'
    have hx02 := hx01.trans hx2
    have hE2 := hE.ext hx02
    clear hlo1 hhi1 c11 hx2
    go_wp2_with fail
    go_at_call 125
    refine (new_invalid s _ _ hE2 (by omega) (by decide)).mono ?_
    rintro e w9 ⟨t, p, rfl, hx9⟩
    go_wp2_with fail
    go_ret2
    exact ⟨.inr ⟨Hr2.out, t, p, rfl⟩, hx02.trans hx9⟩
  ·have heq : ((mk a).toList == [42]) = false := by rw [toList_bytes, bytes_mk, beq_eq_false_iff_ne]; exact hstar
   have Hne := Lib.hid hstar
   clear hstar
   go_wp2_with fail
   go_at_call 119
   refine (zz_has (mk a) 45 _ (by rw [size_mk]; omega)).mono ?_
   rintro e w9 ⟨rfl, rfl⟩
   rw [bytes_mk]
   rcases hdash : a.contains 45
   ·have hS : startO names lo hi a = (normalizeO names a).map fun x => (x, hi) := by unfold startO; rw [if_neg Hne.out, if_neg (by rw [hdash]; decide)]
    rw [hS] at HS
    clear hdash hS heq
    go_wp2_with fail
    go_at_call 123
    refine (normalize_any _ names (mk a) _ (by rw [size_mk]; omega) hnn hE1 (Hvn.out.ext hx01)).mono ?_
    rintro e w2 ⟨⟨x, hm, rfl⟩ | ⟨hm, m, t, p, rfl⟩, hx2⟩
    ·have hm' : normalizeO names a = some x := hm
     have Hst : Hid (stepO names lo hi (bytes s) = match atoiO b with
      | none => none
      | some st => if within lo hi x && within 1 hi st && within lo hi hi && decide (x ≤ hi) then some (stepsL x hi st) else none) := by
      show _ = _
      rw [HS.out, hm']; rfl
     clear hm hm' HS
     have hlo2 := hx2.cell hlo1
     have hhi2 := hx2.cell hhi1
     have c12 := hx2.cell c11
     have hx02 := hx01.trans hx2
     have hE2 := hE.ext hx02
     clear hlo1 hhi1 c11 hx2 c01 hE1
     go_wp2_with fail
     go_at_call 128
     refine (atoi_any (mk b) _ (by rw [size_mk]; omega) hE2).mono ?_
     rintro e w3 ⟨⟨st, hst, rfl⟩ | ⟨hst, m, t, p, rfl⟩, hx3⟩
     ·have hst' : atoiO b = some st := hst
      have Hr : Hid (stepO names lo hi (bytes s) = if within lo hi x && within 1 hi st && within lo hi hi && decide (x ≤ hi) then some (stepsL x hi st) else none) := by
       show _ = _
       rw [Hst.out, hst']
      clear hst hst'
      have hlo3 := hx3.cell hlo2
      have hhi3 := hx3.cell hhi2
      have hx03 := hx02.trans hx3
      have hE3 := hE.ext hx03
      clear hlo2 hhi2 c12 hx3 hE2
      go_wp2_with fail
      go_at_call 124
      refine (in_scope' x lo hi _).mono ?_
      rintro e w9 ⟨rfl, rfl⟩
      rcases hwx : within lo hi x
      ·have Hr2 : Hid (stepO names lo hi (bytes s) = none) := by
        show _ = _
        rw [Hr.out, hwx]; rfl
       clear hwx
       go_wp2_with fail
       go_at_call 125
       refine (new_invalid s _ _ hE3 (by omega) (by decide)).mono ?_
       rintro e w9 ⟨t, p, rfl, hx9⟩
       go_wp2_with fail
       go_ret2
       exact ⟨.inr ⟨Hr2.out, t, p, rfl⟩, hx03.trans hx9⟩
      ·go_wp2_with fail
       go_at_call 124
       refine (in_scope' st 1 hi _).mono ?_
       rintro e w9 ⟨rfl, rfl⟩
       rcases hws : within 1 hi st
       ·have Hr2 : Hid (stepO names lo hi (bytes s) = none) := by
         show _ = _
         rw [Hr.out, hwx, hws]; rfl
        clear hwx hws
        go_wp2_with fail
        go_at_call 125
        refine (new_invalid s _ _ hE3 (by omega) (by decide)).mono ?_
        rintro e w9 ⟨t, p, rfl, hx9⟩
        go_wp2_with fail
        go_ret2
        exact ⟨.inr ⟨Hr2.out, t, p, rfl⟩, hx03.trans hx9⟩
       ·go_wp2_with fail
        go_at_call 124
        refine (in_scope' hi lo hi _).mono ?_
        rintro e w9 ⟨rfl, rfl⟩
        rcases hwy : within lo hi hi
        ·have Hr2 : Hid (stepO names lo hi (bytes s) = none) := by
          show _ = _
          rw [Hr.out, hwx, hws, hwy]; rfl
         clear hwx hws hwy
         go_wp2_with fail
         go_at_call 125
         refine (new_invalid s _ _ hE3 (by omega) (by decide)).mono ?_
         rintro e w9 ⟨t, p, rfl, hx9⟩
         go_wp2_with fail
         go_ret2
         exact ⟨.inr ⟨Hr2.out, t, p, rfl⟩, hx03.trans hx9⟩
        ·have bx := within_le hwx
         have by' := within_le hwy
         have bs := within_le hws
         by_cases hxy : x ≤ hi
         ·have Hr2 : Hid (stepO names lo hi (bytes s) = some (stepsL x hi st)) := by
           show _ = _
           rw [Hr.out, hwx, hwy, hws, decide_eq_true hxy]; rfl
          clear hwx hwy hws hlo3 hhi3
          go_wp2_with fail
          go_at_call 155
          refine (fill_step x st hi _ (by omega) hxy (by omega) (by omega) (by omega)).mono ?_
          rintro e w9 ⟨v, rfl, hI, hx9⟩
          obtain ⟨av, cv, rfl⟩ := own_any hI
          have HI := Lib.hid (Ints.mono hI hx03.size)
          clear hI
          go_wp2_with fail
          go_at_call 118
          refine (new_field _ _ _ _).mono ?_
          rintro e w10 ⟨rfl, rfl⟩
          go_wp2_with fail
          go_ret2
          exact ⟨.inl ⟨_, _, Hr2.out, rfl, Field.mk HI.out (hx03.trans hx9).size⟩, (hx03.trans hx9).trans (Ext.alloc _ _)⟩
         ·have Hr2 : Hid (stepO names lo hi (bytes s) = none) := by
           show _ = _
           rw [Hr.out, hwx, hwy, hws, decide_eq_false hxy]; rfl
          clear hwx hwy hws hlo3 hhi3
          go_wp2_with fail
          go_at_call 155
          refine (fill_step_bad x st hi _ (by omega) hE3).mono ?_
          rintro e w9 ⟨t, p, rfl, hx9⟩
          go_wp2_with fail
          go_ret2
          exact ⟨.inr ⟨Hr2.out, t, p, rfl⟩, hx03.trans hx9⟩
     ·have hst' : atoiO b = none := hst
      have Hr2 : Hid (stepO names lo hi (bytes s) = none) := by
       show _ = _
       rw [Hst.out, hst']
      clear hst hst'
      have hx03 := hx02.trans hx3
      have hE3 := hE.ext hx03
      clear hlo2 hhi2 c12 hx3
      go_wp2_with fail
      go_at_call 125
      refine (new_invalid s _ _ hE3 (by omega) (by decide)).mono ?_
      rintro e w9 ⟨t, p, rfl, hx9⟩
      go_wp2_with fail
      go_ret2
      exact ⟨.inr ⟨Hr2.out, t, p, rfl⟩, hx03.trans hx9⟩
    ·have hm' : normalizeO names a = none := hm
     rw [hm'] at HS
     have Hr2 := HS
     clear hm hm' HS
     go_wp2_with fail
     go_ret2
     exact ⟨.inr ⟨Hr2.out, t, p, rfl⟩, hx01.trans hx2⟩
   ·have hS : startO names lo hi a = match splitL a 45 with
     | [c, d] => match normalizeO names c with
       | none => none
       | some x => match normalizeO names d with
         | none => none
         | some y => some (x, y)
     | _ => none := by unfold startO; rw [if_neg Hne.out, if_pos (by rw [hdash])]
    rw [hS] at HS
    clear hdash hS heq
    go_wp2_with fail
    go_at_call 76
    refine (zz_split (mk a) 45 _ (by rw [size_mk]; omega)).mono ?_
    rintro e w2 ⟨v, rfl, hst, hx2⟩
    have hlo2 := hx2.cell hlo1
    have hhi2 := hx2.cell hhi1
    have c12 := hx2.cell c11
    have hx02 := hx01.trans hx2
    have hE2 := hE.ext hx02
    clear hlo1 hhi1 c11 hx2 c01 hE1
    obtain ⟨g2, cap2, rfl, hb2, hg2, hcell⟩ := hst.form (splitL_pos _ _)
    have hitem := splitL_item (bytes (mk a)) 45
    rw [bytes_length, size_mk] at hitem
    rw [bytes_mk] at hitem hcell ⊢
    rcases hl : splitL a 45 with _ | ⟨c, _ | ⟨d, _ | ⟨c3, rest⟩⟩⟩
    ·exact absurd hl (splitGo_ne _ _ _)
    ·rw [hl] at HS
     have Hr2 := HS
     clear HS hl hcell hitem hst
     go_wp2_with fail
     go_at_call 125
     refine (new_invalid s _ _ hE2 (by omega) (by decide)).mono ?_
     rintro e w9 ⟨t, p, rfl, hx9⟩
     go_wp2_with fail
     go_ret2
     exact ⟨.inr ⟨Hr2.out, t, p, rfl⟩, hx02.trans hx9⟩
    ·rw [hl] at hcell HS
     have d0 := hcell 0 c rfl
     have d1 := hcell 1 d rfl
     have hc := hitem c (by rw [hl]; simp)
     have hd := hitem d (by rw [hl]; simp)
     clear hl hcell hitem hst
     go_wp2_with fail
     go_at_call 123
     refine (normalize_any _ names (mk c) _ (by rw [size_mk]; omega) hnn hE2 (Hvn.out.ext hx02)).mono ?_
     rintro e w3 ⟨⟨x, hm, rfl⟩ | ⟨hm, m, t, p, rfl⟩, hx3⟩
     ·have hm' : normalizeO names c = some x := hm
      replace HS : Hid (_ = _) := HS
      have HS2 : Hid (stepO names lo hi (bytes s) = match (match normalizeO names d with
       | none => none
       | some y => some (x, y)) with
       | none => none
       | some (x, y) => match atoiO b with
         | none => none
         | some st => if within lo hi x && within 1 hi st && within lo hi y && decide (x ≤ y) then some (stepsL x y st) else none) := by
       show _ = _
       rw [HS.out]; simp only [hm']
      clear hm hm' HS
      have hlo3 := hx3.cell hlo2
      have hhi3 := hx3.cell hhi2
      have c13 := hx3.cell c12
      have d13 := hx3.cell d1
      have hx03 := hx02.trans hx3
      have hE3 := hE.ext hx03
      clear hlo2 hhi2 c12 hx3 d0 d1 hE2
      go_wp2_with fail
      go_at_call 123
      refine (normalize_any _ names (mk d) _ (by rw [size_mk]; omega) hnn hE3 (Hvn.out.ext hx03)).mono ?_
      rintro e w4 ⟨⟨y, hm, rfl⟩ | ⟨hm, m, t, p, rfl⟩, hx4⟩
      ·have hm' : normalizeO names d = some y := hm
       have Hst : Hid (stepO names lo hi (bytes s) = match atoiO b with
        | none => none
        | some st => if within lo hi x && within 1 hi st && within lo hi y && decide (x ≤ y) then some (stepsL x y st) else none) := by
        show _ = _
        rw [HS2.out]; simp only [hm']
       clear hm hm' HS2
       have hlo4 := hx4.cell hlo3
       have hhi4 := hx4.cell hhi3
       have c14 := hx4.cell c13
       have hx04 := hx03.trans hx4
       have hE4 := hE.ext hx04
       clear hlo3 hhi3 c13 hx4 d13 hE3
       go_wp2_with fail
       go_at_call 128
       refine (atoi_any (mk b) _ (by rw [size_mk]; omega) hE4).mono ?_
       rintro e w5 ⟨⟨st, hst, rfl⟩ | ⟨hst, m, t, p, rfl⟩, hx5⟩
       ·have hst' : atoiO b = some st := hst
        have Hr : Hid (stepO names lo hi (bytes s) = if within lo hi x && within 1 hi st && within lo hi y && decide (x ≤ y) then some (stepsL x y st) else none) := by
         show _ = _
         rw [Hst.out, hst']
        clear hst hst'
        have hlo5 := hx5.cell hlo4
        have hhi5 := hx5.cell hhi4
        have hx05 := hx04.trans hx5
        have hE5 := hE.ext hx05
        clear hlo4 hhi4 c14 hx5 hE4
        go_wp2_with fail
        go_at_call 124
        refine (in_scope' x lo hi _).mono ?_
        rintro e w9 ⟨rfl, rfl⟩
        rcases hwx : within lo hi x
        ·have Hr2 : Hid (stepO names lo hi (bytes s) = none) := by
          show _ = _
          rw [Hr.out, hwx]; rfl
         clear hwx
         go_wp2_with fail
         go_at_call 125
         refine (new_invalid s _ _ hE5 (by omega) (by decide)).mono ?_
         rintro e w9 ⟨t, p, rfl, hx9⟩
         go_wp2_with fail
         go_ret2
         exact ⟨.inr ⟨Hr2.out, t, p, rfl⟩, hx05.trans hx9⟩
        ·go_wp2_with fail
         go_at_call 124
         refine (in_scope' st 1 hi _).mono ?_
         rintro e w9 ⟨rfl, rfl⟩
         rcases hws : within 1 hi st
         ·have Hr2 : Hid (stepO names lo hi (bytes s) = none) := by
           show _ = _
           rw [Hr.out, hwx, hws]; rfl
          clear hwx hws
          go_wp2_with fail
          go_at_call 125
          refine (new_invalid s _ _ hE5 (by omega) (by decide)).mono ?_
          rintro e w9 ⟨t, p, rfl, hx9⟩
          go_wp2_with fail
          go_ret2
          exact ⟨.inr ⟨Hr2.out, t, p, rfl⟩, hx05.trans hx9⟩
         ·go_wp2_with fail
          go_at_call 124
          refine (in_scope' y lo hi _).mono ?_
          rintro e w9 ⟨rfl, rfl⟩
          rcases hwy : within lo hi y
          ·have Hr2 : Hid (stepO names lo hi (bytes s) = none) := by
            show _ = _
            rw [Hr.out, hwx, hws, hwy]; rfl
           clear hwx hws hwy
           go_wp2_with fail
           go_at_call 125
           refine (new_invalid s _ _ hE5 (by omega) (by decide)).mono ?_
           rintro e w9 ⟨t, p, rfl, hx9⟩
           go_wp2_with fail
           go_ret2
           exact ⟨.inr ⟨Hr2.out, t, p, rfl⟩, hx05.trans hx9⟩
          ·have bx := within_le hwx
           have by' := within_le hwy
           have bs := within_le hws
           by_cases hxy : x ≤ y
           ·have Hr2 : Hid (stepO names lo hi (bytes s) = some (stepsL x y st)) := by
             show _ = _
             rw [Hr.out, hwx, hwy, hws, decide_eq_true hxy]; rfl
            clear hwx hwy hws hlo5 hhi5
            go_wp2_with fail
            go_at_call 155
            refine (fill_step x st y _ (by omega) hxy (by omega) (by omega) (by omega)).mono ?_
            rintro e w9 ⟨v, rfl, hI, hx9⟩
            obtain ⟨av, cv, rfl⟩ := own_any hI
            have HI := Lib.hid (Ints.mono hI hx05.size)
            clear hI
            go_wp2_with fail
            go_at_call 118
            refine (new_field _ _ _ _).mono ?_
            rintro e w10 ⟨rfl, rfl⟩
            go_wp2_with fail
            go_ret2
            exact ⟨.inl ⟨_, _, Hr2.out, rfl, Field.mk HI.out (hx05.trans hx9).size⟩, (hx05.trans hx9).trans (Ext.alloc _ _)⟩
           ·have Hr2 : Hid (stepO names lo hi (bytes s) = none) := by
             show _ = _
             rw [Hr.out, hwx, hwy, hws, decide_eq_false hxy]; rfl
            clear hwx hwy hws hlo5 hhi5
            go_wp2_with fail
            go_at_call 155
            refine (fill_step_bad x st y _ (by omega) hE5).mono ?_
            rintro e w9 ⟨t, p, rfl, hx9⟩
            go_wp2_with fail
            go_ret2
            exact ⟨.inr ⟨Hr2.out, t, p, rfl⟩, hx05.trans hx9⟩
       ·have hst' : atoiO b = none := hst
        have Hr2 : Hid (stepO names lo hi (bytes s) = none) := by
         show _ = _
         rw [Hst.out, hst']
        clear hst hst'
        have hx05 := hx04.trans hx5
        have hE5 := hE.ext hx05
        clear hlo4 hhi4 c14 hx5
        go_wp2_with fail
        go_at_call 125
        refine (new_invalid s _ _ hE5 (by omega) (by decide)).mono ?_
        rintro e w9 ⟨t, p, rfl, hx9⟩
        go_wp2_with fail
        go_ret2
        exact ⟨.inr ⟨Hr2.out, t, p, rfl⟩, hx05.trans hx9⟩
      ·have hm' : normalizeO names d = none := hm
       have Hr2 : Hid (stepO names lo hi (bytes s) = none) := by
        show _ = _
        rw [HS2.out]; simp only [hm']
       clear hm hm' HS2
       go_wp2_with fail
       go_ret2
       exact ⟨.inr ⟨Hr2.out, t, p, rfl⟩, hx03.trans hx4⟩
     ·have hm' : normalizeO names c = none := hm
      have Hr2 : Hid (stepO names lo hi (bytes s) = none) := by
       show _ = _
       rw [HS.out]; simp only [hm']
      clear hm hm' HS
      go_wp2_with fail
      go_ret2
      exact ⟨.inr ⟨Hr2.out, t, p, rfl⟩, hx02.trans hx3⟩
    ·rw [hl] at HS
     have Hr2 := HS
     have hlen := splitL_len a 45
     rw [hl] at hlen
     simp at hlen
     clear HS hl hcell hitem hst
     go_wp2_with fail
     go_at_call 125
     refine (new_invalid s _ _ hE2 (by omega) (by decide)).mono ?_
     rintro e w9 ⟨t, p, rfl, hx9⟩
     go_wp2_with fail
     go_ret2
     exact ⟨.inr ⟨Hr2.out, t, p, rfl⟩, hx02.trans hx9⟩
 ·have hr : stepO names lo hi (bytes s) = none := by simp [stepO, hl]
  have Hr := Lib.hid hr
  have hlen := splitL_len (bytes s) 47
  rw [hl, bytes_length] at hlen
  simp at hlen
  clear hr hl hcell hitem hst
  go_wp2_with fail
  go_at_call 125
  refine (new_invalid s _ _ hE1 (by omega) (by decide)).mono ?_
  rintro e w9 ⟨t, p, rfl, hx9⟩
  go_wp2_with fail
  go_ret2
  exact ⟨.inr ⟨Hr.out, t, p, rfl⟩, hx01.trans hx9⟩
end Go.Proofs.YtmaffdhcmdhjfaaGreatDoor
