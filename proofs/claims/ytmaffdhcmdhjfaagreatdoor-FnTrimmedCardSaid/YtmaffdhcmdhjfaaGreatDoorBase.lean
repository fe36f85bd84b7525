/- What all walks of this seat share: later worlds, the tables' reading, parts of an expression as values. -/
import Derived.Test.YtmaffdhcmdhjfaaGreatDoorProg
import Derived.WalkKit
import Derived.WalkLawsBesides
import Derived.WalkSpells
import Derived.BigQuiet
import Derived.Deep.QuietTactic
import Derived.Deep.RegionWith
import Derived.Lib.Hide
import Derived.Lib.LaidTab
import Derived.Lib.ItoaNum
namespace Go.Proofs.YtmaffdhcmdhjfaaGreatDoor
open Go.RowKit

/-- a later world: what was there is as it was -/
def Ext (w w' : World) : Prop := Below w.heap.size w w'
theorem Ext.refl (w : World) : Ext w w := Below.refl _ _
theorem Ext.trans {a b c : World} (h : Ext a b) (k : Ext b c) : Ext a c := Below.trans h (Below.mono k h.size)
theorem Ext.alloc (w : World) (o : Obj) : Ext w (w.alloc o) := (Below.refl _ _).alloc (Nat.le_refl _) _
theorem Ext.drew (w : World) : Ext w w.drew := (Below.refl _ _).drew
theorem Ext.cell {w w' : World} (h : Ext w w') {a : Addr} {v : Value} (hc : w.cell? a = some v) : w'.cell? a = some v := by
  have hl : a.block < w.heap.size := by
    rcases Nat.lt_or_ge a.block w.heap.size with h' | h'
    · exact h'
    · simp [World.cell?, Array.getElem?_eq_none h'] at hc
  rw [(show Below w.heap.size w w' from h).cell hl]; exact hc

/-- a part of an expression: an item of a list, or one that stands by itself -/
structure Atom where
  k : Int
  a : Int
  b : Int
  s : Int
  n : Int
  it : Value

def Atom.cells (p : Atom) : Array Value := #[.int .i64 p.k, .int .i64 p.a, .int .i64 p.b, .int .i64 p.s, .int .i64 p.n, p.it]
def Atom.val (p : Atom) : Value := .agg #[.int .i64 p.k, .int .i64 p.a, .int .i64 p.b, .int .i64 p.s, .int .i64 p.n, p.it]

theorem told_any (k a b s n : Int) (it : Value) (w : World) :
    Calls Tryz.prog 36 #[.agg #[.int .i64 k, .int .i64 a, .int .i64 b, .int .i64 s, .int .i64 n, it]] w fun e w' => e = .returned (.bool (!(k == 0) && !(k == 1))) ∧ Ext w w' := by
  go_enter Tryz.func36, Tryz.ntmps36
  go_wp2
  all_goals go_ret
  · subst_vars; exact ⟨by simp, Ext.alloc _ _⟩
  · exact ⟨rfl, Ext.alloc _ _⟩
end Go.Proofs.YtmaffdhcmdhjfaaGreatDoor
