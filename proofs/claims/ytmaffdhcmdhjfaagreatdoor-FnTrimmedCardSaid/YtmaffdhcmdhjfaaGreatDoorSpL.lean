/- spec.SameNumbers, of rows that are the same; zzFits1. -/
import Derived.Test.YtmaffdhcmdhjfaaGreatDoorSpK
namespace Go.Proofs.YtmaffdhcmdhjfaaGreatDoor
open Go.RowKit Go.Lib

theorem fits_any (c : CronV) (w : World) : Calls Tryz.prog 12 #[.agg c.cells] w fun e w' => e = .returned (.bool true) ∧ Ext w w' := by
  go_enter Tryz.func12, Tryz.ntmps12
  go_wp2
  go_ret
  exact ⟨rfl, Ext.alloc _ _⟩

theorem IntRows.form {w : World} {base : Nat} {v : Value} {ls : List (List Int)} (h : IntRows w base v ls) (hn : 0 < ls.length) :
    ∃ g cap, v = .slice (some ⟨g, 0, none⟩) ls.length cap ∧ ∀ (i : Nat) (l : List Int), ls[i]? = some l → ∃ ax cx, w.cell? ⟨g, i, none⟩ = some (.slice ax l.length cx) ∧
      (0 < l.length → ∃ gx, ax = some ⟨gx, 0, none⟩ ∧ ∀ (j : Nat) (z : Int), l[j]? = some z → w.cell? ⟨gx, j, none⟩ = some (.int .i64 z)) := by
  obtain ⟨xs, ho, hi⟩ := h
  obtain ⟨g, cap, rfl, _, _⟩ := World.ownsRow.form ho hn
  refine ⟨g, cap, rfl, fun i l hl => ?_⟩
  have hil : i < ls.length := (List.getElem?_eq_some_iff.mp hl).1
  have hxl : xs.length = ls.length := by have := ho.1; omega
  obtain ⟨x, hx⟩ : ∃ x, xs[i]? = some x := ⟨_, List.getElem?_eq_getElem (by omega)⟩
  have hc := World.ownsRow.cellAt ho i (by simpa using hil)
  rw [hx] at hc
  have hI := hi i x l hx hl
  obtain ⟨ax, cx, rfl⟩ := own_any hI
  refine ⟨ax, cx, hc, fun hpos => ?_⟩
  obtain ⟨gx, cap', he, _, _, hcell⟩ := hI.form hpos
  injection he with he1
  exact ⟨gx, he1, hcell⟩

/-- the box, and the cells of the two rows -/
structure SameW (w : World) (W : World) : Prop where
  x : Ext w W
theorem SameW.step {w W W' : World} (h : SameW w W) (x : Ext W W') : SameW w W' := ⟨h.x.trans x⟩

set_option maxHeartbeats 6400000 in
set_option maxRecDepth 1000000 in
theorem same_true (c : CronV) (va vb : Value) (ba bb : Nat) (la lb : List (List Int)) (ha7 : la.length = 7) (hb7 : lb.length = 7) (hs : ∀ i, i < 7 → (c.p i).k < 8 → la[i]? = lb[i]?)
    (hlb : ∀ l ∈ lb, l.length ≤ 100000000) (w : World) (hA : IntRows w ba va la) (hB : IntRows w bb vb lb) :
    Calls Tryz.prog 18 #[.agg c.cells, va, vb] w fun e w' => e = .returned (.bool true) ∧ Ext w w' := by
  obtain ⟨ga, capa, hva, hca⟩ := hA.form (by omega)
  obtain ⟨gb, capb, hvb, hcb⟩ := hB.form (by omega)
  rw [ha7] at hva
  rw [hb7] at hvb
  subst hva hvb
  have HCA := Lib.hid hca
  have HCB := Lib.hid hcb
  have HS := Lib.hid hs
  have HLB := Lib.hid hlb
  have H7A := Lib.hid ha7
  have H7B := Lib.hid hb7
  have HC : Hid (CronAt (w.alloc (.cells c.cells 27)) w.heap.size c) := cron_alloc w c
  have HX : Hid (Ext w (w.alloc (.cells c.cells 27))) := Ext.alloc _ _
  clear hA hB hca hcb hs hlb ha7 hb7
  go_enter Tryz.func18, Tryz.ntmps18
  go_wp2_with fail
  go_loopw [7, 8] (fun i _ wr => ∃ (k : Nat), k ≤ 7 ∧ i = .int .i64 k ∧ Hid (Ext (w.alloc (.cells c.cells 27)) wr))
    (fun i _ _ => 7 - (RowKit.intOf i).toNat)
  case atStart => exact ⟨0, Nat.zero_le _, rfl, Ext.refl _⟩
  case round =>
    obtain ⟨k, hk, rfl, Hx⟩ := hrel
    by_cases hlt : k < 7
    · have CA := HC.out.ext Hx.out
      have d0 := CA.k k hlt
      have d1 := CA.a k hlt
      have d2 := CA.b k hlt
      have d3 := CA.s k hlt
      have d4 := CA.n k hlt
      have d5 := CA.it k hlt
      have HXX := Lib.hid (HX.out.trans Hx.out)
      obtain ⟨l, hl⟩ : ∃ l, lb[k]? = some l := ⟨_, List.getElem?_eq_getElem (by have := H7B.out; omega)⟩
      have hll : l.length ≤ 100000000 := HLB.out l (List.mem_of_getElem? hl)
      have HSK : Hid ((c.p k).k < 8 → la[k]? = some l) := fun h => (HS.out k hlt h).trans hl
      have HPL : Hid (∀ W, Calls Tryz.prog 41 #[.agg #[.int .i64 (c.p k).k, .int .i64 (c.p k).a, .int .i64 (c.p k).b, .int .i64 (c.p k).s, .int .i64 (c.p k).n, .slice (c.p k).ia (c.p k).items.length (c.p k).cap]] W fun e w' => e = .returned (.bool (decide ((c.p k).k < 8))) ∧ Ext W w') := fun W => plain_any _ _ _ _ _ _ W
      obtain ⟨axb, cxb, hcb, hcb2⟩ := HCB.out k l hl
      generalize c.p k = pk at d0 d1 d2 d3 d4 d5 HSK HPL
      clear CA hl
      obtain ⟨q0, q1, q2, q3, q4, q5, q6, q7⟩ := pk
      obtain ⟨L8, hL8⟩ : ∃ L8, L8 = q7.length := ⟨_, rfl⟩
      simp only at d0 d1 d2 d3 d4 d5 HPL HSK
      rw [← hL8] at d5 HPL
      clear hL8
      go_wp2_with fail
      go_at_call 41
      refine (HPL.out _).mono ?_
      rintro e w4 ⟨rfl, x4⟩
      have X4 := Lib.hid (Hx.out.trans x4)
      have XX4 := Lib.hid (HXX.out.trans x4)
      clear x4 d0 d1 d2 d3 d4 d5
      rcases hq : decide (q0 < 8)
      · clear hq
        go_wp2_with fail
        go_roundw
        case rel => exact ⟨k + 1, by omega, by go_num, X4⟩
        case measure => simp [RowKit.intOf] <;> omega
      · have hla := HSK.out (by simpa using hq)
        obtain ⟨axa, cxa, hca, hca2⟩ := HCA.out k l hla
        have ca := XX4.out.cell hca
        have cb := XX4.out.cell hcb
        obtain ⟨n, hn⟩ : ∃ n, n = l.length := ⟨_, rfl⟩
        rw [← hn] at ca cb hll hca2 hcb2
        have HA2 := Lib.hid hca2
        have HB2 := Lib.hid hcb2
        have CAh := Lib.hid ca
        have CBh := Lib.hid cb
        have HN := Lib.hid hn
        clear hq hla hca hcb hca2 hcb2 ca cb hn HSK
        have hk0 : (0 : Int) ≤ (k : Int) := by omega
        have hk7 : (k : Int) < 7 := by omega
        go_wp2_with fail
        obtain ⟨T, g, hT, h0, hS, hI⟩ := cls_intro (SameW w4) _ (SameW.step ⟨Ext.refl _⟩ (Ext.drew _))
        have ca := fun t => (hS t).x.cell CAh.out
        have cb := fun t => (hS t).x.cell CBh.out
        have HS1 := Lib.hid hS
        clear hS hI
        refine wp_region_cls g (by kernel_rfl) (by kernel_rfl) h0 ?_
        clear h0
        repeat (go_big_quiet_step (fail))
        refine wpQuiet_nil ?_
        rintro _ ⟨t, rfl⟩
        have X5 := Lib.hid (HS1.out t)
        clear ca cb HS1
        generalize g t = w5 at X5
        clear hT t g T
        go_wp2_with fail
        obtain ⟨wo, rfl⟩ : ∃ wo : World, wo = wr := ⟨_, rfl⟩
        go_loopw [8] (fun i wr => ∃ j : Nat, j ≤ n ∧ i = .int .i64 j ∧ Hid (Ext w4 wr))
          (fun i _ => n - (RowKit.intOf i).toNat)
        case atStart => exact ⟨0, Nat.zero_le _, rfl, X5.out.x⟩
        case round =>
          obtain ⟨j, hj, rfl, Hj⟩ := hrel
          have ca := Hj.out.cell CAh.out
          have cb := Hj.out.cell CBh.out
          by_cases hjl : j < n
          · obtain ⟨gxa, rfl, hza⟩ := HA2.out (by omega)
            obtain ⟨gxb, rfl, hzb⟩ := HB2.out (by omega)
            obtain ⟨z, hz⟩ : ∃ z, l[j]? = some z := ⟨_, List.getElem?_eq_getElem (by rw [← HN.out]; exact hjl)⟩
            have cza := Lib.hid (XX4.out.cell (hza j z hz))
            have czb := Lib.hid (XX4.out.cell (hzb j z hz))
            have hj0 : (0 : Int) ≤ (j : Int) := by omega
            have hjn : (j : Int) < (n : Int) := by omega
            clear hza hzb hz
            go_wp2_with fail
            obtain ⟨T, g, hT, h0, hS, hI⟩ := cls_intro (SameW w4) _ (SameW.step ⟨Hj.out⟩ (Ext.drew _))
            clear ca cb
            have ca := fun t => (hS t).x.cell CAh.out
            have cb := fun t => (hS t).x.cell CBh.out
            have za := fun t => (hS t).x.cell cza.out
            have zb := fun t => (hS t).x.cell czb.out
            have HS1 := Lib.hid hS
            clear hS hI
            refine wp_region_cls g (by kernel_rfl) (by kernel_rfl) h0 ?_
            clear h0
            repeat (go_big_quiet_step (fail))
            refine wpQuiet_nil ?_
            rintro _ ⟨t, rfl⟩
            have X6 := Lib.hid (HS1.out t)
            clear ca cb za zb HS1
            generalize g t = w6 at X6
            clear hT t g T
            go_wp2_with fail
            go_roundw
            case rel => exact ⟨j + 1, by omega, by go_num, X6.out.x⟩
            case measure => simp [RowKit.intOf] <;> omega
          · go_wp2_with fail
            go_roundw
            case rel => exact ⟨k + 1, by omega, by go_num, X4.out.trans Hj.out⟩
            case measure => simp [RowKit.intOf] <;> omega
    · go_wp2_with fail
      go_ret
      exact ⟨rfl, HX.out.trans Hx.out⟩
end Go.Proofs.YtmaffdhcmdhjfaaGreatDoor
