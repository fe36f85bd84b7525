/- What the functions of package quartz compute of an expression, as plain functions on bytes. -/
import Derived.Test.YtmaffdhcmdhjfaaGreatDoorBase
import Derived.Laws.OwnMore
import Derived.Deep.AppendLies
namespace Go.Proofs.YtmaffdhcmdhjfaaGreatDoor
open Go.RowKit

def bytes (s : ByteArray) : List UInt8 := s.data.toList
def mk (l : List UInt8) : ByteArray := ⟨l.toArray⟩
theorem bytes_mk (l : List UInt8) : bytes (mk l) = l := rfl
theorem mk_bytes (s : ByteArray) : mk (bytes s) = s := rfl
theorem mk_eq (s : ByteArray) (l : List UInt8) (h : bytes s = l) : s = mk l := by rw [← h, mk_bytes]
theorem size_mk (l : List UInt8) : (mk l).size = l.length := rfl
theorem bytes_length (s : ByteArray) : (bytes s).length = s.size := rfl

def isDig (c : UInt8) : Bool := decide (48 ≤ c.toNat) && decide (c.toNat ≤ 57)
def digitsB (l : List UInt8) : Bool := l.all isDig && decide (0 < l.length)
def isWord (c : UInt8) : Bool := (decide (48 ≤ c.toNat) && decide (c.toNat ≤ 57)) || (decide (97 ≤ c.toNat) && decide (c.toNat ≤ 122)) || (decide (65 ≤ c.toNat) && decide (c.toNat ≤ 90))
def upC (c : UInt8) : UInt8 := if 97 ≤ c.toNat ∧ c.toNat ≤ 122 then UInt8.ofNat (c.toNat - 32) else c
def upperL (l : List UInt8) : List UInt8 := l.map upC

def lastDayB (l : List UInt8) : Bool := l == [76] || (decide (2 < l.length) && (l.take 2 == [76, 45] && digitsB (l.drop 2)))
def weekdayB (l : List UInt8) : Bool := decide (1 < l.length) && (l.getLast? == some 87 && digitsB l.dropLast)
def lastWeekdayB (l : List UInt8) : Bool := decide (0 < l.length) && (l.getLast? == some 76 && l.all isWord)

/-- the parts between a letter: those behind the first one's bytes so far -/
def splitGo (c : UInt8) : List UInt8 → List UInt8 → List (List UInt8)
  | cur, [] => [cur]
  | cur, x :: xs => if x = c then cur :: splitGo c [] xs else splitGo c (cur ++ [x]) xs
def splitL (l : List UInt8) (c : UInt8) : List (List UInt8) := splitGo c [] l
def hashB (l : List UInt8) : Bool := match splitL l 35 with
  | [a, b] => decide (0 < a.length) && (a.all isWord && digitsB b)
  | _ => false
def monthN : List (List UInt8) := [[48], [74, 65, 78], [70, 69, 66], [77, 65, 82], [65, 80, 82], [77, 65, 89], [74, 85, 78], [74, 85, 76], [65, 85, 71], [83, 69, 80], [79, 67, 84], [78, 79, 86], [68, 69, 67]]
def dayN : List (List UInt8) := [[48], [83, 85, 78], [77, 79, 78], [84, 85, 69], [87, 69, 68], [84, 72, 85], [70, 82, 73], [83, 65, 84]]
def translateO (names : List (List UInt8)) (l : List UInt8) : Option Int := (names.findIdx? (fun n => n == upperL l)).map fun i => (i : Int)

theorem bytes_extract (s : ByteArray) (a b : Nat) : bytes (s.extract a b) = ((bytes s).take b).drop a := by
  unfold bytes
  rw [ByteArray.data_extract, Array.toList_extract, List.extract_eq_take_drop, List.drop_take]

def strs (l : List (List UInt8)) : List Value := l.map fun x => .string (mk x)
def ints (l : List Int) : List Value := l.map (Value.int .i64)
theorem strs_length (l : List (List UInt8)) : (strs l).length = l.length := by simp [strs]
theorem ints_length (l : List Int) : (ints l).length = l.length := by simp [ints]

/-- a slice of texts, of numbers, that the call made -/
def Strs (w : World) (base : Nat) (v : Value) (l : List (List UInt8)) : Prop := w.ownsRow base 9 1 v l.length (strs l)
def Ints (w : World) (base : Nat) (v : Value) (l : List Int) : Prop := w.ownsRow base 3 1 v l.length (ints l)

theorem own_ext {w w' : World} {base e size n : Nat} {v : Value} {xs : List Value} (h : Ext w w') (ho : w.ownsRow base e size v n xs) : w'.ownsRow base e size v n xs := by
  refine ⟨ho.1, ?_⟩
  rcases ho.2 with hn | ⟨g, cap, cur, hv, hb, hg, rest⟩
  · exact .inl hn
  · refine .inr ⟨g, cap, cur, hv, hb, ?_, rest⟩
    have hl : g < w.heap.size := by
      rcases Nat.lt_or_ge g w.heap.size with hlt | hge
      · exact hlt
      · rw [Array.getElem?_eq_none hge] at hg; cases hg
    rw [Below.block h g hl]; exact hg
theorem Strs.ext {w w' : World} {base : Nat} {v : Value} {l : List (List UInt8)} (hs : Strs w base v l) (h : Ext w w') : Strs w' base v l := own_ext h hs
theorem Ints.ext {w w' : World} {base : Nat} {v : Value} {l : List Int} (hs : Ints w base v l) (h : Ext w w') : Ints w' base v l := own_ext h hs

theorem Strs.form {w : World} {base : Nat} {v : Value} {l : List (List UInt8)} (hs : Strs w base v l) (hn : 0 < l.length) :
    ∃ g cap, v = .slice (some ⟨g, 0, none⟩) l.length cap ∧ base ≤ g ∧ g < w.heap.size ∧ ∀ (j : Nat) (x : List UInt8), l[j]? = some x → w.cell? ⟨g, j, none⟩ = some (.string (mk x)) := by
  obtain ⟨g, cap, rfl, hb, hg⟩ := World.ownsRow.form hs hn
  refine ⟨g, cap, rfl, hb, hg, fun j x hx => ?_⟩
  have hj : j < l.length := (List.getElem?_eq_some_iff.mp hx).1
  have := World.ownsRow.cellAt hs j (by simpa using hj)
  rw [this, strs, List.getElem?_map, hx]; rfl
theorem Ints.form {w : World} {base : Nat} {v : Value} {l : List Int} (hs : Ints w base v l) (hn : 0 < l.length) :
    ∃ g cap, v = .slice (some ⟨g, 0, none⟩) l.length cap ∧ base ≤ g ∧ g < w.heap.size ∧ ∀ (j : Nat) (x : Int), l[j]? = some x → w.cell? ⟨g, j, none⟩ = some (.int .i64 x) := by
  obtain ⟨g, cap, rfl, hb, hg⟩ := World.ownsRow.form hs hn
  refine ⟨g, cap, rfl, hb, hg, fun j x hx => ?_⟩
  have hj : j < l.length := (List.getElem?_eq_some_iff.mp hx).1
  have := World.ownsRow.cellAt hs j (by simpa using hj)
  rw [this, ints, List.getElem?_map, hx]; rfl
/-- whatever the slice holds, how it is spelt -/
theorem own_any {w : World} {base e size n : Nat} {v : Value} {xs : List Value} (h : w.ownsRow base e size v n xs) : ∃ a cap, v = .slice a n cap := by
  rcases h.2 with ⟨rfl, rfl⟩ | ⟨g, cap, cur, rfl, _⟩
  · exact ⟨none, 0, rfl⟩
  · exact ⟨_, cap, rfl⟩

theorem splitGo_ne (c : UInt8) : ∀ (l cur : List UInt8), splitGo c cur l ≠ []
  | [], cur => by simp [splitGo]
  | x :: xs, cur => by
    unfold splitGo
    split
    · simp
    · exact splitGo_ne c xs _
theorem splitGo_len (c : UInt8) : ∀ (l cur : List UInt8), (splitGo c cur l).length ≤ l.length + 1
  | [], cur => by simp [splitGo]
  | x :: xs, cur => by
    unfold splitGo
    split
    · have := splitGo_len c xs []; simp; omega
    · have := splitGo_len c xs (cur ++ [x]); simp; omega
theorem splitL_pos (l : List UInt8) (c : UInt8) : 0 < (splitL l c).length := List.length_pos_iff.mpr (splitGo_ne c l [])
theorem splitL_len (l : List UInt8) (c : UInt8) : (splitL l c).length ≤ l.length + 1 := splitGo_len c l []
theorem splitGo_item (c : UInt8) : ∀ (l cur x : List UInt8), x ∈ splitGo c cur l → x.length ≤ cur.length + l.length
  | [], cur, x, h => by simp [splitGo] at h; subst h; simp
  | y :: ys, cur, x, h => by
    unfold splitGo at h
    split at h
    · rcases List.mem_cons.mp h with rfl | h
      · simp
      · have := splitGo_item c ys [] x h; simp at this ⊢; omega
    · have := splitGo_item c ys (cur ++ [y]) x h; simp at this ⊢; omega
theorem splitL_item (l : List UInt8) (c : UInt8) (x : List UInt8) (h : x ∈ splitL l c) : x.length ≤ l.length := by
  have := splitGo_item c l [] x h; simpa using this
end Go.Proofs.YtmaffdhcmdhjfaaGreatDoor
