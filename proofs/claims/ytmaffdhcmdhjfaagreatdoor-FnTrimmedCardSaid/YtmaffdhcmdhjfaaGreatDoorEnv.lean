/- What the functions read of the laid variables; Atoi, Itoa and the makers of errors by their contracts. -/
import Derived.Test.YtmaffdhcmdhjfaaGreatDoorZzB
import Derived.Sort.Walk7
import Derived.Lib.SmallJoins
namespace Go.Proofs.YtmaffdhcmdhjfaaGreatDoor
open Go.RowKit Go.Lib

theorem gTab : Tryz.prog.globalNamed "internal/strconv.uint64pow10" = some 3 := by kernel_rfl

structure Env (w : World) : Prop where
  tab : Lib.TabIs Tryz.prog w "internal/strconv.uint64pow10" .u64 Lib.pow10Tab
  big : 8 ≤ w.heap.size
  cron : ∃ t p, w.cell? ⟨1, 0, none⟩ = some (.iface t p)
  syn : ∃ t p, w.cell? ⟨6, 0, none⟩ = some (.iface t p)
  rng : ∃ t p, w.cell? ⟨7, 0, none⟩ = some (.iface t p)

theorem Env.ext {w w' : World} (h : Env w) (x : Ext w w') : Env w' where
  tab := var?_below x gTab (by have := h.big; omega) h.tab
  big := by have := h.big; have := Below.size x; omega
  cron := by obtain ⟨t, p, hc⟩ := h.cron; exact ⟨t, p, x.cell hc⟩
  syn := by obtain ⟨t, p, hc⟩ := h.syn; exact ⟨t, p, x.cell hc⟩
  rng := by obtain ⟨t, p, hc⟩ := h.rng; exact ⟨t, p, x.cell hc⟩
theorem Env.drew {w : World} (h : Env w) : Env w.drew := h.ext (Ext.drew w)

theorem Ext.grow {w : World} (os : Array Obj) (k : Nat) : Ext w (Go.Sort.grow (w.drewN k) os) :=
  ⟨rfl, rfl, rfl, by rw [Go.Sort.size_grow]; exact Nat.le_add_right _ _, fun i hi => by
    show (w.heap ++ os)[i]? = _
    rw [Array.getElem?_append_left hi]⟩
theorem Ext.bytes (w : World) (e : TypeId) (s : ByteArray) : Ext w (Lib.bytesWorld w e s) := Go.Joins.below_bytesWorld _ w e s (Nat.le_refl _)

theorem itoa_any (n : Int) (h : Joins.In64 n) (w : World) (hE : Env w) :
    Calls Tryz.prog 56 #[.int .i64 n] w fun e w' => e = .returned (.string (mk (Lib.itoa n))) ∧ Ext w w' := by
  refine (Tryz.strconv_Itoa n h.1 h.2 w hE.tab).mono ?_
  rintro e w' ⟨rfl, k, os, rfl⟩
  exact ⟨rfl, Ext.grow os k⟩

def atoiO (l : List UInt8) : Option Int := match Lib.atoiAll l with
  | .ok v => some v
  | _ => none

theorem atoi_any (s : ByteArray) (w : World) (hs : s.size ≤ 4096) (hE : Env w) :
    Calls Tryz.prog 128 #[.string s] w fun e w' => ((∃ v, atoiO (bytes s) = some v ∧ e = .returned (.tuple #[.int .i64 v, .nilIface])) ∨
      (atoiO (bytes s) = none ∧ ∃ v t p, e = .returned (.tuple #[.int .i64 v, .iface t p]))) ∧ Ext w w' := by
  unfold atoiO
  rcases h : Lib.atoiAll (bytes s) with v | _ | _
  · refine (Tryz.strconv_Atoi_ok s (by omega) v h w).mono ?_
    rintro e w' ⟨rfl, h'⟩
    refine ⟨.inl ⟨v, rfl, rfl⟩, ?_⟩
    rcases h' with rfl | ⟨t, rfl⟩
    · exact Ext.refl _
    · exact Ext.bytes _ _ _
  · obtain ⟨t, p, hc⟩ := hE.syn
    refine (Any.strconv_Atoi_syntax Tryz.laysC172 s (by omega) h _ w hc (.inr ⟨t, p, rfl⟩)).mono ?_
    rintro e w' ⟨N, rfl, _, _, hb⟩
    exact ⟨.inr ⟨rfl, _, _, _, rfl⟩, hb⟩
  · obtain ⟨t, p, hc⟩ := hE.rng
    refine (Any.strconv_Atoi_range Tryz.laysC172 s (by omega) h _ w hc (.inr ⟨t, p, rfl⟩)).mono ?_
    rintro e w' ⟨N, rfl, _, _, hb⟩
    exact ⟨.inr ⟨rfl, _, _, _, rfl⟩, hb⟩

theorem in_scope (v a b : Int) (w : World) :
    Calls Tryz.prog 124 #[.int .i64 v, .int .i64 a, .int .i64 b] w fun e w' => e = .returned (.bool (decide (a ≤ v) && decide (v ≤ b))) ∧ w = w' := by
  go_enter Tryz.func124, Tryz.ntmps124
  go_wp2
  all_goals go_ret
  all_goals (refine ⟨ret_bool ?_, rfl⟩; simp; try omega)

theorem new_field (a : Option Addr) (k c : Nat) (w : World) :
    Calls Tryz.prog 118 #[.slice a k c] w fun e w' => e = .returned (.pointer (some ⟨w.heap.size, 0, none⟩)) ∧ w.alloc (.cells #[.slice a k c, .int .i64 0] 92) = w' := by
  go_enter Tryz.func118, Tryz.ntmps118
  go_wp2
  go_ret
  exact ⟨rfl, rfl⟩

theorem new_fieldN (a : Option Addr) (k c : Nat) (n : Int) (w : World) :
    Calls Tryz.prog 127 #[.slice a k c, .int .i64 n] w fun e w' => e = .returned (.pointer (some ⟨w.heap.size, 0, none⟩)) ∧ w.alloc (.cells #[.slice a k c, .int .i64 n] 92) = w' := by
  go_enter Tryz.func127, Tryz.ntmps127
  go_wp2
  go_ret
  exact ⟨rfl, rfl⟩

theorem new_err (s : ByteArray) (w : World) (hE : Env w) :
    Calls Tryz.prog 77 #[.string s] w fun e w' => ∃ t p, e = .returned (.iface t p) ∧ Ext w w' := by
  obtain ⟨t, p, hc⟩ := hE.cron
  go_enter Tryz.func77, Tryz.ntmps77
  go_wp2
  go_ret
  exact ⟨_, _, rfl, Ext.alloc _ _⟩

theorem new_invalid (s t : ByteArray) (w : World) (hE : Env w) (hs : s.size ≤ 4096) (ht : t.size ≤ 4096) :
    Calls Tryz.prog 125 #[.string t, .string s] w fun e w' => ∃ t p, e = .returned (.iface t p) ∧ Ext w w' := by
  go_enter Tryz.func125, Tryz.ntmps125
  go_wp2_with fail
  go_at_call 77
  refine (new_err _ _ hE).mono ?_
  rintro e w1 ⟨t, p, rfl, x⟩
  go_wp2_with fail
  go_ret
  exact ⟨_, _, rfl, x⟩
end Go.Proofs.YtmaffdhcmdhjfaaGreatDoor
