/- The place of a trigger: impl.isPlace, impl.place, quartz.UTC, quartz.FixedZone, spec.PlaceName. quartz.NewCronTriggerWithLoc, Description. An expression that is parsed has seven fields. impl.areWithin, impl.Taken. -/
import Derived.Test.YtmaffdhcmdhjfaaGreatDoorNG
set_option linter.unusedSimpArgs false
set_option linter.unusedVariables false
namespace Go.Proofs.YtmaffdhcmdhjfaaGreatDoor
open Go.RowKit Go.Lib
def LocAt (w : World) (b : Nat) (nm : ByteArray) (off : Int) (u : Bool) : Prop :=
 w.heap[b]? = some (.cells #[.string nm, .int .i64 off, .bool u] 102 (0, 0))
theorem LocAt.ext {w w' : World} {b : Nat} {nm : ByteArray} {off : Int} {u : Bool} (h : LocAt w b nm off u) (x : Ext w w') : LocAt w' b nm off u := by
 unfold LocAt at h ⊢
 rw [Below.block x b (block_lt h)]; exact h
theorem LocAt.name {w : World} {b : Nat} {nm : ByteArray} {off : Int} {u : Bool} (h : LocAt w b nm off u) : w.cell? ⟨b, 0, none⟩ = some (.string nm) := by
 unfold LocAt at h; simp [World.cell?, h]
theorem LocAt.off {w : World} {b : Nat} {nm : ByteArray} {off : Int} {u : Bool} (h : LocAt w b nm off u) : w.cell? ⟨b, 1, none⟩ = some (.int .i64 off) := by
 unfold LocAt at h; simp [World.cell?, h]
theorem LocAt.utc {w : World} {b : Nat} {nm : ByteArray} {off : Int} {u : Bool} (h : LocAt w b nm off u) : w.cell? ⟨b, 2, none⟩ = some (.bool u) := by
 unfold LocAt at h; simp [World.cell?, h]
def utcB : ByteArray := ⟨#[85, 84, 67]⟩
def fixedB : ByteArray := ⟨#[102, 105, 120, 101, 100]⟩
def placeB (n : Int) : ByteArray := if n = 0 then utcB else fixedB
theorem is_place (n : Int) (w : World) :
 Calls Tryz.prog 64 #[.int .i64 n] w fun e w' => e = .returned (.bool (decide (-1440 ≤ n) && decide (n ≤ 1440))) ∧ w = w' := by
 go_enter Tryz.func64, Tryz.ntmps64
 go_wp2
 all_goals go_ret
 all_goals (refine ⟨ret_bool ?_, rfl⟩; simp; try omega)
theorem place_name (n : Int) (w : World) :
 Calls Tryz.prog 24 #[.int .i64 n] w fun e w' => e = .returned (.string (placeB n)) ∧ w = w' := by
 by_cases h : n = 0
 ·subst h
  go_enter Tryz.func24, Tryz.ntmps24
  go_wp2
  go_ret
  exact ⟨rfl, rfl⟩
 ·have hb : placeB n = fixedB := if_neg h
  go_enter Tryz.func24, Tryz.ntmps24
  go_wp2
  go_ret
  exact ⟨by rw [hb]; rfl, rfl⟩
theorem utc_any (w : World) :
 Calls Tryz.prog 84 #[] w fun e w' => e = .returned (.pointer (some ⟨w.heap.size, 0, none⟩)) ∧ w.alloc (.cells #[.string utcB, .int .i64 0, .bool true] 102) = w' := by
 go_enter Tryz.func84, Tryz.ntmps84
 go_wp2
 go_ret
 exact ⟨rfl, rfl⟩
theorem zone_any (s : ByteArray) (n : Int) (w : World) :
 Calls Tryz.prog 85 #[.string s, .int .i64 n] w fun e w' => e = .returned (.pointer (some ⟨w.heap.size, 0, none⟩)) ∧ w.alloc (.cells #[.string s, .int .i64 n, .bool false] 102) = w' := by
 go_enter Tryz.func85, Tryz.ntmps85
 go_wp2
 go_ret
 exact ⟨rfl, rfl⟩
theorem loc_new (w : World) (s : ByteArray) (n : Int) (u : Bool) : LocAt (w.alloc (.cells #[.string s, .int .i64 n, .bool u] 102)) w.heap.size s n u := by
 unfold LocAt; rw [← World.alloc_eq]; simp
theorem place_any (n : Int) (w : World) (h0 : -1440 ≤ n) (h1 : n ≤ 1440) :
 Calls Tryz.prog 66 #[.int .i64 n] w fun e w' => e = .returned (.pointer (some ⟨w.heap.size, 0, none⟩)) ∧ LocAt w' w.heap.size (placeB n) (n * 60) (decide (n = 0)) ∧ Ext w w' := by
 by_cases h : n = 0
 ·subst h
  go_enter Tryz.func66, Tryz.ntmps66
  go_wp2_with fail
  go_at_call 84
  refine (utc_any _).mono ?_
  rintro e w1 ⟨rfl, rfl⟩
  go_wp2_with fail
  go_ret
  exact ⟨rfl, loc_new _ _ _ _, Ext.alloc _ _⟩
 ·have hb : placeB n = fixedB := if_neg h
  have hd : decide (n = 0) = false := by simp [h]
  rw [hb, hd]
  go_enter Tryz.func66, Tryz.ntmps66
  go_wp2_with fail
  go_at_call 85
  refine (zone_any _ _ _).mono ?_
  rintro e w1 ⟨rfl, rfl⟩
  go_wp2_with fail
  go_ret
  exact ⟨rfl, loc_new _ _ _ _, Ext.alloc _ _⟩
end Go.Proofs.YtmaffdhcmdhjfaaGreatDoor
namespace Go.Proofs.YtmaffdhcmdhjfaaGreatDoor
open Go.RowKit Go.Lib
def lastDef (fs : List (List Int × Int)) : Nat → Int
 | 0 => -1
 | k + 1 => if 0 < ((fs[k]?.map (·.1.length)).getD 0) then (k : Int) else lastDef fs k
def wildF (fs : List (List Int × Int)) : List (List Int × Int) :=
 if lastDef fs 7 = -1 then (match fs with | f :: t => (stepsL 0 59 1, f.2) :: t | [] => []) else fs
def TrigAt (w : World) (base : Nat) (v : Value) (ex : ByteArray) (fs : List (List Int × Int)) (B : Nat) (u : Bool) : Prop :=
 ∃ N fv L P, v = .pointer (some ⟨N, 0, none⟩) ∧ base ≤ N ∧ w.heap[N]? = some (.cells #[.string ex, fv, .pointer (some ⟨B, 0, none⟩), .int .i64 L, .int .i64 P] 100 (0, 0)) ∧
  P = (if u then 1 else 2) ∧ Fields w base fv (wildF fs)
theorem TrigAt.mk {w : World} {base B : Nat} {ex : ByteArray} {fs : List (List Int × Int)} {fv : Value} {L P : Int} {u : Bool} {M : Nat} (hb : base ≤ w.heap.size) (hM : M = w.heap.size) (hP : P = (if u then 1 else 2)) (h : Fields w base fv (wildF fs)) :
 TrigAt (w.alloc (.cells #[.string ex, fv, .pointer (some ⟨B, 0, none⟩), .int .i64 L, .int .i64 P] 100)) base (.pointer (some ⟨M, 0, none⟩)) ex fs B u :=
 ⟨_, fv, L, P, by rw [hM], hb, by rw [← World.alloc_eq]; simp, hP, h.ext (Ext.alloc _ _)⟩
theorem Field.other {N : Nat} {w w' : World} {base : Nat} {v : Value} {zs : List Int} {n : Int} {cs : Array Value} {fr : Nat × Nat} (h : Field w base v zs n) (hne : v ≠ .pointer (some ⟨N, 0, none⟩)) (hN : w.heap[N]? = some (.cells cs 92 fr)) (k : But N w w') : Field w' base v zs n := by
 obtain ⟨M, sl, hv, hb, hM, hI⟩ := h
 refine ⟨M, sl, hv, hb, ?_, hI.1, ?_⟩
 ·rw [k.block M (block_lt hM) (by rintro rfl; exact hne hv)]; exact hM
 ·rcases hI.2 with hn | ⟨g, cap, cur, h1, h2, hg, rest⟩
  ·exact .inl hn
  ·refine .inr ⟨g, cap, cur, h1, h2, ?_, rest⟩
   rw [k.block g (block_lt hg) (by rintro rfl; rw [hg] at hN; injection hN with hN; injection hN with _ hN; cases hN)]; exact hg
theorem Ints.but {N : Nat} {w w' : World} {base : Nat} {v : Value} {zs : List Int} {cs : Array Value} {fr : Nat × Nat} (hI : Ints w base v zs) (hN : w.heap[N]? = some (.cells cs 92 fr)) (k : But N w w') : Ints w' base v zs := by
 refine ⟨hI.1, ?_⟩
 rcases hI.2 with hn | ⟨g, cap, cur, h1, h2, hg, rest⟩
 ·exact .inl hn
 ·refine .inr ⟨g, cap, cur, h1, h2, ?_, rest⟩
  rw [k.block g (block_lt hg) (by rintro rfl; rw [hg] at hN; injection hN with hN; injection hN with _ hN; cases hN)]; exact hg
theorem wild_fields {w : World} {base b R N : Nat} {ps : List Value} {f : List Int × Int} {fs : List (List Int × Int)} {sl sl0 : Value} (hR : w.heap[R]? = some (.cells ps.toArray 90 (0, 0))) (hRb : base ≤ R) (hpl : ps.length = 7)
 (hF : FL w base ps (f :: fs)) (hp : ps[0]? = some (.pointer (some ⟨N, 0, none⟩))) (hN : w.heap[N]? = some (.cells #[sl0, .int .i64 f.2] 92 (0, 0))) (hNb : base ≤ N) {zs : List Int} (hI : Ints w b sl zs) (hb : base ≤ b) :
 Fields (w.setCell ⟨N, 0, none⟩ sl) base (.slice (some ⟨R, 0, none⟩) 7 7) ((zs, f.2) :: fs) := by
 have hB := But.set N w 0 sl
 refine ⟨R, ps, rfl, hRb, ?_, hpl, by rw [hF.1]; rfl, ?_, hF.2.2⟩
 ·rw [hB.block R (block_lt hR) (by rintro rfl; rw [hR] at hN; injection hN with hN; injection hN with _ hN; cases hN)]; exact hR
 ·intro i p g h1 h2
  rcases i with _ | i
  ·have e1 : p = .pointer (some ⟨N, 0, none⟩) := by rw [hp] at h1; injection h1 with h1; exact h1.symm
   have e2 : g = (zs, f.2) := by simp at h2; exact h2.symm
   subst e1 e2
   exact ⟨N, sl, rfl, hNb, heap_setCell_same w N 0 _ 92 sl hN, (hI.but hN hB).mono hb⟩
  ·have h2' : (f :: fs)[i + 1]? = some g := by simpa using h2
   refine (hF.2.1 (i + 1) p g h1 h2').other ?_ hN hB
   intro e
   rw [e] at h1
   have hi := (List.getElem?_eq_some_iff.mp h1).1
   have := (List.getElem?_inj (i := 0) (j := i + 1) (by omega) hF.2.2).mp (by rw [h1, hp])
   omega
set_option maxHeartbeats 3200000 in
set_option maxRecDepth 1000000 in
theorem new_cron (s : ByteArray) (B : Nat) (nm : ByteArray) (off : Int) (u : Bool) (w : World) (hs : s.size ≤ 900) (hL : LocAt w B nm off u) (hE : Env w) :
 Calls Tryz.prog 65 #[.string s, .pointer (some ⟨B, 0, none⟩)] w fun e w' =>
  ((∃ fs v, exprO (bytes s) = some fs ∧ e = .returned (.tuple #[v, .nilIface]) ∧ TrigAt w' w.heap.size v (mk (trimL (bytes s))) fs B u) ∨
    (exprO (bytes s) = none ∧ ∃ t p, e = .returned (.tuple #[.pointer none, .iface t p]))) ∧ Ext w w' := by
 have hl := trimL_len (bytes s)
 rw [bytes_length] at hl
 have Hl := Lib.hid hl
 clear hl
 go_enter Tryz.func65, Tryz.ntmps65
 go_wp2_with fail
 go_at_call 62
 refine (trim_cron s _ (by omega)).mono ?_
 rintro e w1 ⟨rfl, hx1⟩
 go_wp2_with fail
 go_at_call 61
 refine (parse_cron _ _ (by rw [size_mk]; have := Hl.out; omega) (hE.ext hx1)).mono ?_
 rintro e w2 ⟨⟨fs, v, hf, rfl, hF⟩ | ⟨hf, t, p, rfl⟩, hx2⟩
 ·rw [bytes_mk] at hf
  have Hf : Hid (exprO (bytes s) = some fs) := hf
  have hx02 := hx1.trans hx2
  obtain ⟨R, ps, rfl, hRb, hR, hpl, hFL⟩ := hF.mono (Below.size hx1)
  have HFS : Hid (Fields w2 w.heap.size (.slice (some ⟨R, 0, none⟩) 7 7) fs) := ⟨R, ps, rfl, hRb, hR, hpl, hFL⟩
  have hfl : fs.length = 7 := by rw [← hFL.1]; exact hpl
  have HFL := Lib.hid hFL
  have HR := Lib.hid hR
  have Hpl := Lib.hid hpl
  have Hfl := Lib.hid hfl
  have hL2 := (hL.ext hx02).utc
  have HU := Lib.hid hL2
  clear hf hF hFL hpl hfl hR
  obtain ⟨wr, rfl⟩ : ∃ wr : World, wr = w2 := ⟨_, rfl⟩
  go_wp2_with fail
  go_loop [8, 27] (fun l i => ∃ (k : Nat) (L : Int), k ≤ 7 ∧ i = .int .i64 k ∧ l = .int .i64 L ∧ Hid (L = lastDef fs k))
   (fun _ i => 7 - (RowKit.intOf i).toNat)
  case atStart => exact ⟨0, -1, Nat.zero_le _, rfl, rfl, rfl⟩
  case round =>
   obtain ⟨k, L, hk, rfl, rfl, HLd⟩ := hrel
   by_cases hlt : k < 7
   ·obtain ⟨p, hp⟩ : ∃ p, ps[k]? = some p := ⟨_, List.getElem?_eq_getElem (by rw [Hpl.out]; exact hlt)⟩
    obtain ⟨f, hf1⟩ : ∃ f, fs[k]? = some f := ⟨_, List.getElem?_eq_getElem (by rw [Hfl.out]; exact hlt)⟩
    have hFd := HFL.out.2.1 k p f hp hf1
    have hck : wr.cell? ⟨R, k, none⟩ = some p := row_cell HR.out (by simpa using hp)
    obtain ⟨N, sl, rfl, hNb, hN, hI⟩ := hFd
    have hcn : wr.cell? ⟨N, 0, none⟩ = some sl := by simp [World.cell?, hN]
    obtain ⟨a8, c8, h8⟩ := own_any hI
    subst h8
    obtain ⟨m, hm⟩ : ∃ m, m = f.1.length := ⟨_, rfl⟩
    rw [← hm] at hcn
    have hnx : lastDef fs (k + 1) = if 0 < m then (k : Int) else lastDef fs k := by
     show (if 0 < ((fs[k]?.map (·.1.length)).getD 0) then (k : Int) else lastDef fs k) = _
     rw [hf1, hm]; rfl
    have Hnx := Lib.hid hnx
    clear hf1 hp hN hI hm hnx
    by_cases hm0 : 0 < m
    ·have Hn2 : Hid (lastDef fs (k + 1) = (k : Int)) := by show _ = _; rw [Hnx.out, if_pos hm0]
     go_wp2_with fail
     exact ⟨⟨k + 1, k, by omega, rfl, rfl, Hn2.out.symm⟩, by simp only [RowKit.intOf]; omega⟩
    ·have Hn2 : Hid (L = lastDef fs (k + 1)) := by show _ = _; rw [Hnx.out, if_neg hm0]; exact HLd.out
     go_wp2_with fail
     exact ⟨⟨k + 1, L, by omega, rfl, rfl, Hn2.out⟩, by simp only [RowKit.intOf]; omega⟩
   ·obtain rfl : k = 7 := by omega
    by_cases h1 : L = -1
    ·subst h1
     obtain ⟨p, hp⟩ : ∃ p, ps[0]? = some p := ⟨_, List.getElem?_eq_getElem (by rw [Hpl.out]; omega)⟩
     obtain ⟨f, hf1⟩ : ∃ f, fs[0]? = some f := ⟨_, List.getElem?_eq_getElem (by rw [Hfl.out]; omega)⟩
     have hFd := HFL.out.2.1 0 p f hp hf1
     obtain ⟨f0, ft, hft⟩ : ∃ f0 ft, fs = f0 :: ft := by
      cases fs with
      | nil => cases hf1
      | cons a b => exact ⟨a, b, rfl⟩
     have hff : f0 = f := by rw [hft] at hf1; simpa using hf1
     have HW : Hid (wildF fs = (stepsL 0 59 1, f.2) :: ft) := by show _ = _; unfold wildF; rw [if_pos HLd.out.symm, hft, hff]
     have HFX : Hid (FL wr w.heap.size ps (f :: ft)) := by show FL _ _ _ _; rw [← hff, ← hft]; exact HFL.out
     have HP0 := Lib.hid hp
     clear hft hff
     have hck : wr.cell? ⟨R, 0, none⟩ = some p := row_cell HR.out (by simpa using hp)
     obtain ⟨N, sl, rfl, hNb, hN, hI⟩ := hFd
     have hcn : wr.cell? ⟨N, 0, none⟩ = some sl := by simp [World.cell?, hN]
     have hfn : wr.frozen? ⟨N, 0, none⟩ = false := frozen_of_row wr N 0 _ 92 hN
     obtain ⟨a8, c8, h8⟩ := own_any hI
     subst h8
     clear hf1 hp hI
     go_wp2_with fail
     go_region_with (first
      | (go_at_call 83; refine (fill_range 0 59 _ (by omega) (by omega) (by omega)).mono ?_; rintro e w3 ⟨v3, rfl, hI3, hx3⟩; obtain ⟨a9, c9, h9⟩ := own_any hI3; generalize (stepsL 0 59 1).length = n9 at h9; subst h9; have hck3 := Ext.cell hx3 hck; have hN3 := (Below.block hx3 N (block_lt hN)).trans hN; have hcn3 : w3.cell? ⟨N, 0, none⟩ = some (.slice a8 f.1.length c8) := (by simp [World.cell?, hN3]); have hfn3 : w3.frozen? ⟨N, 0, none⟩ = false := frozen_of_row w3 N 0 _ 92 hN3; have HFW : Hid (Fields (w3.setCell ⟨N, 0, none⟩ (.slice a9 n9 c9)) w.heap.size (.slice (some ⟨R, 0, none⟩) 7 7) (wildF fs)) := (by show Fields _ _ _ _; rw [HW.out]; exact wild_fields ((Below.block ((Ext.drew wr).trans hx3) R (block_lt HR.out)).trans HR.out) hRb Hpl.out (HFX.out.ext ((Ext.drew wr).trans hx3)) HP0.out hN3 hNb hI3 (Below.size (hx02.trans (Ext.drew wr)))); clear hI3; have hX := Lib.hid (((hx02.trans (Ext.drew _)).trans hx3).set hNb 0 (.slice a9 n9 c9)); have hU3 := Ext.cell hX.out hL.utc))
     all_goals (
      rcases u
      all_goals (
       go_wp2_with fail
       go_ret2
       refine ⟨.inl ⟨fs, _, Hf.out, rfl, ?_⟩, hX.out.trans (Ext.alloc _ _)⟩
       refine TrigAt.mk (Below.size hX.out) (by simp) ?_ HFW.out
       rfl))
    ·have hF2 : Fields wr w.heap.size (.slice (some ⟨R, 0, none⟩) 7 7) (wildF fs) := by unfold wildF; rw [if_neg (by rw [← HLd.out]; exact h1)]; exact HFS.out
     have HF2 := Lib.hid hF2
     clear hF2
     rcases u
     all_goals (
      go_wp2_with fail
      go_ret2
      exact ⟨.inl ⟨fs, Hf.out, _, rfl, TrigAt.mk (Below.size hx02) rfl rfl HF2.out⟩, hx02.trans (Ext.alloc _ _)⟩)
 ·rw [bytes_mk] at hf
  have Hf : Hid (exprO (bytes s) = none) := hf
  clear hf
  go_wp2_with fail
  go_ret2
  exact ⟨.inr ⟨Hf.out, t, p, rfl⟩, hx1.trans hx2⟩
def descB (ex nm : ByteArray) : ByteArray := ⟨#[67, 114, 111, 110, 84, 114, 105, 103, 103, 101, 114, 58, 58]⟩ ++ ex ++ ⟨#[58, 58]⟩ ++ nm
theorem describe (v : Value) (base B : Nat) (ex nm : ByteArray) (off : Int) (u : Bool) (fs : List (List Int × Int)) (w : World) (hT : TrigAt w base v ex fs B u) (hL : LocAt w B nm off u) (he : ex.size ≤ 4096) (hn : nm.size ≤ 4096) :
 Calls Tryz.prog 46 #[v] w fun e w' => e = .returned (.string (descB ex nm)) ∧ Ext w w' := by
 obtain ⟨N, fv, L, P, rfl, _, hN, _⟩ := hT
 have c0 : w.cell? ⟨N, 0, none⟩ = some (.string ex) := by simp [World.cell?, hN]
 have c2 : w.cell? ⟨N, 2, none⟩ = some (.pointer (some ⟨B, 0, none⟩)) := by simp [World.cell?, hN]
 have cn := hL.name
 clear hN hL
 go_enter Tryz.func46, Tryz.ntmps46
 go_wp2_with fail
 go_region
 go_wp2_with fail
 go_ret
 exact ⟨rfl, Ext.drew _⟩
end Go.Proofs.YtmaffdhcmdhjfaaGreatDoor
namespace Go.Proofs.YtmaffdhcmdhjfaaGreatDoor
open Go.RowKit Go.Lib
theorem buildO_seven {t : List (List UInt8)} {fs : List (List Int × Int)} (h : buildO t = some fs) : fs.length = 7 := by
 unfold buildO at h
 split at h
 ·repeat (split at h; · cases h)
  injection h with h; subst h; rfl
 ·cases h
theorem cronT_some {t : List (List UInt8)} {fs : List (List Int × Int)} (h : cronT t = some fs) : buildO t = some fs := by
 unfold cronT at h
 split at h
 ·split at h
  ·cases h
  ·exact h
 ·cases h
theorem fields_seven {l : List UInt8} {fs : List (List Int × Int)} (h : exprO l = some fs) : fs.length = 7 := buildO_seven (cronT_some h)
end Go.Proofs.YtmaffdhcmdhjfaaGreatDoor
namespace Go.Proofs.YtmaffdhcmdhjfaaGreatDoor
open Go.RowKit Go.Lib
def withinB (a b : Int) (l : List Int) : Bool := l.all fun z => decide (a ≤ z) && decide (z ≤ b)
theorem within_step {a b x : Int} {l : List Int} {k : Nat} (h : l[k]? = some x) (hw : withinB a b (l.take k) = true) : withinB a b (l.take (k + 1)) = (decide (a ≤ x) && decide (x ≤ b)) := by
 obtain ⟨hk, rfl⟩ := List.getElem?_eq_some_iff.mp h
 unfold withinB at hw ⊢
 rw [List.take_succ_eq_append_getElem hk, List.all_append, hw]
 simp
theorem within_bad {a b x : Int} {l : List Int} {k : Nat} (h : l[k]? = some x) (hx : (decide (a ≤ x) && decide (x ≤ b)) = false) : withinB a b l = false := by
 rcases hc : withinB a b l
 ·rfl
 ·unfold withinB at hc
  rw [List.all_eq_true] at hc
  rw [hc x (List.mem_of_getElem? h)] at hx; cases hx
set_option maxHeartbeats 1600000 in
set_option maxRecDepth 1000000 in
theorem within_any (v : Value) (base : Nat) (zs : List Int) (a b : Int) (w : World) (hI : Ints w base v zs) (hl : zs.length ≤ 100000000) :
 Calls Tryz.prog 55 #[v, .int .i64 a, .int .i64 b] w fun e w' => e = .returned (.bool (withinB a b zs)) ∧ w = w' := by
 rcases Nat.eq_zero_or_pos zs.length with h0 | hpos
 ·have hz : zs = [] := List.length_eq_zero_iff.mp h0
  subst hz
  obtain ⟨a1, cap, rfl⟩ := own_any hI
  clear hI h0
  simp only [List.length_nil]
  go_enter Tryz.func55, Tryz.ntmps55
  go_wp2_with fail
  refine wp_loop_rounds 1 ?_
  rw [rounds_succ]
  go_wp2
  go_ret
  exact ⟨rfl, rfl⟩
 ·obtain ⟨g, cap, rfl, hbg, hgl, hcell⟩ := hI.form hpos
  obtain ⟨m, hm⟩ : ∃ m, m = zs.length := ⟨_, rfl⟩
  have HI0 := Lib.hid hI
  have Hm := Lib.hid hm
  rw [← hm]
  have hmb : m ≤ 100000000 := by omega
  clear hI hcell hm hpos
  go_enter Tryz.func55, Tryz.ntmps55
  go_wp2_with fail
  go_loop [11] (fun i => ∃ k : Nat, k ≤ m ∧ i = .int .i64 k ∧ Hid (withinB a b (zs.take k) = true))
   (fun i => m - (RowKit.intOf i).toNat)
  case atStart => exact ⟨0, Nat.zero_le _, rfl, rfl⟩
  case round =>
   obtain ⟨k, hk, rfl, Hk⟩ := hrel
   by_cases hlt : k < m
   ·obtain ⟨x, hxx⟩ : ∃ x, zs[k]? = some x := ⟨_, List.getElem?_eq_getElem (by rw [← Hm.out]; exact hlt)⟩
    have hI := HI0.out
    unfold Ints at hI
    have hck : w.cell? ⟨g, k, none⟩ = some (.int .i64 x) := by
     rw [hI.cellAt k (by rw [← Hm.out]; omega), ints, List.getElem?_map, hxx]; rfl
    by_cases h1 : x < a
    ·have Hr : Hid (withinB a b zs = false) := within_bad hxx (by simp; omega)
     clear hxx hI
     go_wp2_with fail
     go_ret
     exact ⟨ret_bool Hr.out.symm, rfl⟩
    ·by_cases h2 : b < x
     ·have Hr : Hid (withinB a b zs = false) := within_bad hxx (by simp; omega)
      clear hxx hI
      go_wp2_with fail
      go_ret
      exact ⟨ret_bool Hr.out.symm, rfl⟩
     ·have Hr : Hid (withinB a b (zs.take (k + 1)) = true) := by show _ = _; rw [within_step hxx Hk.out]; simp; omega
      clear hxx hI
      go_wp2_with fail
      exact ⟨⟨k + 1, by omega, rfl, Hr.out⟩, by simp only [RowKit.intOf]; omega⟩
   ·obtain rfl : k = m := by omega
    have Hr : Hid (withinB a b zs = true) := by have := Hk.out; rw [Hm.out, List.take_length] at this; exact this
    go_wp2_with fail
    go_ret
    exact ⟨ret_bool Hr.out.symm, rfl⟩
def takenB (l : Nat → List Int) (day week : Int) : Bool :=
 if !(withinB 0 59 (l 0) && withinB 0 59 (l 1) && withinB 0 23 (l 2) && withinB 1 12 (l 4) && withinB 0 6 (l 5) && withinB 1970 2199 (l 6)) then false
 else if decide (day < -27) || !withinB 0 28 (l 3) || (decide (day ≠ 3) && !withinB 1 28 (l 3)) then false
 else if (decide (week = 5) && (decide (0 < (l 4).length) || decide (0 < (l 6).length))) || (decide (1 < (l 5).length) && decide (0 < (l 4).length)) then false
 else decide (0 < (l 2).length) || (!(decide (0 < (l 3).length) || decide (day ≠ 0) || decide (0 < (l 5).length)) && decide ((l 4).length = 0) && decide ((l 6).length = 0))
def rowN (fs : List (List Int × Int)) (i : Nat) : List Int := (fs[i]?.map (·.1)).getD []
def takenF (fs : List (List Int × Int)) : Bool := takenB (rowN fs) ((fs[3]?.map (·.2)).getD 0) ((fs[5]?.map (·.2)).getD 0)
def takenO (l : List UInt8) : Bool := ((implO l).map takenF).getD false
theorem implO_len {l : List UInt8} {fs : List (List Int × Int)} (h : implO l = some fs) : fs.length = 7 ∧ ∀ f ∈ fs, f.1.length ≤ 100000000 := by
 unfold implO at h
 split at h
 ·rename_i ht
  have hl := isText_len ht
  exact ⟨fields_seven h, fields_len h (by omega)⟩
 ·cases h
set_option maxHeartbeats 6400000 in
set_option maxRecDepth 1000000 in
theorem taken_any (s : ByteArray) (w : World) (hs : s.size ≤ 100000000) (hE : Env w) :
 Calls Tryz.prog 30 #[.string s] w fun e w' => e = .returned (.bool (takenO (bytes s))) ∧ Ext w w' := by
 go_enter Tryz.func30, Tryz.ntmps30
 go_wp2_with fail
 go_at_call 15
 refine (impl_fields s _ hs hE).mono ?_
 rintro e w1 ⟨⟨fs, v, d, k, hf, rfl, hd, hk, hR⟩ | ⟨hf, rfl⟩, hx⟩
 ·have ht : takenO (bytes s) = takenB (rowN fs) d k := by
   unfold takenO; rw [hf]; simp only [Option.map_some, Option.getD_some, takenF]; rw [hd, hk]; rfl
  obtain ⟨h7, hlen⟩ := implO_len hf
  obtain ⟨xs, hown, hin⟩ := hR
  have hl7 : (fs.map (·.1)).length = 7 := by simp [h7]
  have hxl : xs.length = 7 := by have := hown.1; omega
  obtain ⟨g, cap, rfl, hgb, hcell⟩ := World.ownsRow.form hown (by omega)
  rw [hl7]
  have hrow : ∀ i, i < 7 → ∃ a c, w1.cell? ⟨g, i, none⟩ = some (.slice a (rowN fs i).length c) ∧ Ints w1 w.heap.size (.slice a (rowN fs i).length c) (rowN fs i) ∧ (rowN fs i).length ≤ 100000000 := by
   intro i hi
   obtain ⟨x, hx1⟩ : ∃ x, xs[i]? = some x := ⟨_, List.getElem?_eq_getElem (by rw [hxl]; exact hi)⟩
   obtain ⟨f, hf1⟩ : ∃ f, fs[i]? = some f := ⟨_, List.getElem?_eq_getElem (by rw [h7]; exact hi)⟩
   have hI := hin i x f.1 hx1 (by rw [List.getElem?_map, hf1]; rfl)
   have hr : rowN fs i = f.1 := by unfold rowN; rw [hf1]; rfl
   obtain ⟨a, c, rfl⟩ := own_any hI
   rw [hr]
   exact ⟨a, c, by rw [hown.cellAt i (by rw [hl7]; exact hi)]; exact hx1, hI, hlen f (List.mem_of_getElem? hf1)⟩
  obtain ⟨a0, c0, h0, I0, L0⟩ := hrow 0 (by omega)
  obtain ⟨a1, c1, h1, I1, L1⟩ := hrow 1 (by omega)
  obtain ⟨a2, c2, h2, I2, L2⟩ := hrow 2 (by omega)
  obtain ⟨a3, c3, h3, I3, L3⟩ := hrow 3 (by omega)
  obtain ⟨a4, c4, h4, I4, L4⟩ := hrow 4 (by omega)
  obtain ⟨a5, c5, h5, I5, L5⟩ := hrow 5 (by omega)
  obtain ⟨a6, c6, h6, I6, L6⟩ := hrow 6 (by omega)
  have HT := Lib.hid ht
  clear hf hd hk ht h7 hlen hown hin hl7 hxl hcell hrow
  unfold takenB at HT
  generalize rowN fs 0 = l0 at *
  generalize rowN fs 1 = l1 at *
  generalize rowN fs 2 = l2 at *
  generalize rowN fs 3 = l3 at *
  generalize rowN fs 4 = l4 at *
  generalize rowN fs 5 = l5 at *
  generalize rowN fs 6 = l6 at *
  obtain ⟨n0, hn0⟩ : ∃ n, n = l0.length := ⟨_, rfl⟩
  rw [← hn0] at h0 I0 L0
  try rw [← hn0] at HT
  have N0 := Lib.hid hn0
  have J0 := Lib.hid I0
  clear hn0 I0
  obtain ⟨n1, hn1⟩ : ∃ n, n = l1.length := ⟨_, rfl⟩
  rw [← hn1] at h1 I1 L1
  try rw [← hn1] at HT
  have N1 := Lib.hid hn1
  have J1 := Lib.hid I1
  clear hn1 I1
  obtain ⟨n2, hn2⟩ : ∃ n, n = l2.length := ⟨_, rfl⟩
  rw [← hn2] at h2 I2 L2
  try rw [← hn2] at HT
  have N2 := Lib.hid hn2
  have J2 := Lib.hid I2
  clear hn2 I2
  obtain ⟨n3, hn3⟩ : ∃ n, n = l3.length := ⟨_, rfl⟩
  rw [← hn3] at h3 I3 L3
  try rw [← hn3] at HT
  have N3 := Lib.hid hn3
  have J3 := Lib.hid I3
  clear hn3 I3
  obtain ⟨n4, hn4⟩ : ∃ n, n = l4.length := ⟨_, rfl⟩
  rw [← hn4] at h4 I4 L4
  try rw [← hn4] at HT
  have N4 := Lib.hid hn4
  have J4 := Lib.hid I4
  clear hn4 I4
  obtain ⟨n5, hn5⟩ : ∃ n, n = l5.length := ⟨_, rfl⟩
  rw [← hn5] at h5 I5 L5
  try rw [← hn5] at HT
  have N5 := Lib.hid hn5
  have J5 := Lib.hid I5
  clear hn5 I5
  obtain ⟨n6, hn6⟩ : ∃ n, n = l6.length := ⟨_, rfl⟩
  rw [← hn6] at h6 I6 L6
  try rw [← hn6] at HT
  have N6 := Lib.hid hn6
  have J6 := Lib.hid I6
  clear hn6 I6
  go_wp2_with fail
  go_at_call 55
  refine (within_any _ _ l0 0 59 _ J0.out (by rw [← N0.out]; exact L0)).mono ?_
  rintro e w2 ⟨rfl, rfl⟩
  rcases q0 : withinB 0 59 l0
  ·have Hr : Hid (takenO (bytes s) = false) := by show _ = _; rw [HT.out, q0]; simp
   clear q0
   go_wp2_with fail
   go_ret
   exact ⟨ret_bool Hr.out.symm, hx⟩
  rw [q0] at HT
  clear q0
  go_wp2_with fail
  go_at_call 55
  refine (within_any _ _ l1 0 59 _ J1.out (by rw [← N1.out]; exact L1)).mono ?_
  rintro e w2 ⟨rfl, rfl⟩
  rcases q1 : withinB 0 59 l1
  ·have Hr : Hid (takenO (bytes s) = false) := by show _ = _; rw [HT.out, q1]; simp
   clear q1
   go_wp2_with fail
   go_ret
   exact ⟨ret_bool Hr.out.symm, hx⟩
  rw [q1] at HT
  clear q1
  go_wp2_with fail
  go_at_call 55
  refine (within_any _ _ l2 0 23 _ J2.out (by rw [← N2.out]; exact L2)).mono ?_
  rintro e w2 ⟨rfl, rfl⟩
  rcases q2 : withinB 0 23 l2
  ·have Hr : Hid (takenO (bytes s) = false) := by show _ = _; rw [HT.out, q2]; simp
   clear q2
   go_wp2_with fail
   go_ret
   exact ⟨ret_bool Hr.out.symm, hx⟩
  rw [q2] at HT
  clear q2
  go_wp2_with fail
  go_at_call 55
  refine (within_any _ _ l4 1 12 _ J4.out (by rw [← N4.out]; exact L4)).mono ?_
  rintro e w2 ⟨rfl, rfl⟩
  rcases q4 : withinB 1 12 l4
  ·have Hr : Hid (takenO (bytes s) = false) := by show _ = _; rw [HT.out, q4]; simp
   clear q4
   go_wp2_with fail
   go_ret
   exact ⟨ret_bool Hr.out.symm, hx⟩
  rw [q4] at HT
  clear q4
  go_wp2_with fail
  go_at_call 55
  refine (within_any _ _ l5 0 6 _ J5.out (by rw [← N5.out]; exact L5)).mono ?_
  rintro e w2 ⟨rfl, rfl⟩
  rcases q5 : withinB 0 6 l5
  ·have Hr : Hid (takenO (bytes s) = false) := by show _ = _; rw [HT.out, q5]; simp
   clear q5
   go_wp2_with fail
   go_ret
   exact ⟨ret_bool Hr.out.symm, hx⟩
  rw [q5] at HT
  clear q5
  go_wp2_with fail
  go_at_call 55
  refine (within_any _ _ l6 1970 2199 _ J6.out (by rw [← N6.out]; exact L6)).mono ?_
  rintro e w2 ⟨rfl, rfl⟩
  rcases q6 : withinB 1970 2199 l6
  ·have Hr : Hid (takenO (bytes s) = false) := by show _ = _; rw [HT.out, q6]; simp
   clear q6
   go_wp2_with fail
   go_ret
   exact ⟨ret_bool Hr.out.symm, hx⟩
  rw [q6] at HT
  clear q6
  by_cases hd : d < -27
  ·have Hr : Hid (takenO (bytes s) = false) := by show _ = _; rw [HT.out]; simp [hd]
   go_wp2_with fail
   go_ret
   exact ⟨ret_bool Hr.out.symm, hx⟩
  go_wp2_with fail
  go_at_call 55
  refine (within_any _ _ l3 0 28 _ J3.out (by rw [← N3.out]; exact L3)).mono ?_
  rintro e w2 ⟨rfl, rfl⟩
  rcases q3 : withinB 0 28 l3
  ·have Hr : Hid (takenO (bytes s) = false) := by show _ = _; rw [HT.out, q3]; simp
   clear q3
   go_wp2_with fail
   go_ret
   exact ⟨ret_bool Hr.out.symm, hx⟩
  rw [q3] at HT
  clear q3
  by_cases h33 : d = 3
  ·go_wp2_with fail
   all_goals (
    go_ret
    exact ⟨ret_bool (by rw [HT.out, Bool.eq_iff_iff]; simp; omega), hx⟩)
  have h34 : decide (d ≠ 3) = true := by simp [h33]
  rw [h34] at HT
  clear h34
  have f3 : (d != 3) = true := by simp [h33]
  go_wp2_with fail
  go_at_call 55
  refine (within_any _ _ l3 1 28 _ J3.out (by rw [← N3.out]; exact L3)).mono ?_
  rintro e w2 ⟨rfl, rfl⟩
  rcases q9 : withinB 1 28 l3
  ·have Hr : Hid (takenO (bytes s) = false) := by show _ = _; rw [HT.out, q9]; simp
   clear q9
   go_wp2_with fail
   go_ret
   exact ⟨ret_bool Hr.out.symm, hx⟩
  rw [q9] at HT
  clear q9
  go_wp2_with fail
  all_goals (
   go_ret
   exact ⟨ret_bool (by rw [HT.out, Bool.eq_iff_iff]; simp; omega), hx⟩)
 ·have Hr : Hid (takenO (bytes s) = false) := by show _ = _; unfold takenO; rw [hf]; rfl
  clear hf
  go_wp2_with fail
  go_ret
  exact ⟨ret_bool Hr.out.symm, hx⟩
end Go.Proofs.YtmaffdhcmdhjfaaGreatDoor
