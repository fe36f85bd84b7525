/- laws.FnFields returns true. -/
import Derived.Test.YtmaffdhcmdhjfaaGreatDoorLawE
import Derived.Deep.RegionHeld3
namespace Go.Proofs.YtmaffdhcmdhjfaaGreatDoor
open Go.RowKit Go.Lib

def CronV.list (c : CronV) : List Value := c.cells.toList
theorem list_eq (c : CronV) : c.list.toArray = c.cells := by unfold CronV.list; simp
theorem CronAt.range {W : World} {B : Nat} {c : CronV} (h : CronAt W B c) : W.rangeAt B 0 c.list := by
  intro j v hv
  rw [Nat.zero_add]
  simp only [World.cell?, h.blk]
  simpa [CronV.list] using hv

theorem intRows_len {w : World} {base : Nat} {v : Value} {ls : List (List Int)} (h : IntRows w base v ls) : ∃ a cap, v = .slice a ls.length cap := by
  obtain ⟨xs, h1, _⟩ := h
  exact own_any h1

theorem numsAt_len {c : CronV} (h : c.allB 7 = true) (i : Nat) (hi : i < 7) : (c.numsAt i).length ≤ 100000000 := by
  have key : ∀ j, j < 7 → ((c.p j).nums j).length ≤ 30000 := fun j hj => nums_len (all_right h j hj)
  unfold CronV.numsAt
  split
  · have := key 5 (by omega); simp; omega
  · split
    · simp
    · have := key i hi; omega

/-- a load of a whole expression, as one word -/
def loadCron (v : Value) : Sem Next := do pure (.value (← Instr.loadAt 27 v))
theorem execOp_loadCron (ρ : Operand → Value) (dst : Option Tmp) (x : Operand) (ty : TypeId) (pos : String) (after : Array Edge) (guard : Option (Nat × Bool)) :
    execOp ρ { dst, op := .load 27 x, type := ty, pos, after, guard } = loadCron (ρ x) := rfl
attribute [local go_sem ↓] execOp_loadCron
theorem CronAt.whole {W : World} {B : Nat} {c : CronV} (h : CronAt W B c) : (loadCron (.pointer (some ⟨B, 0, none⟩))).run Tryz.prog W = .ok (.value (.agg c.cells)) W := by
  unfold loadCron
  simp only [Instr.loadAt, Instr.sureAddr, Sem.run_bind, Sem.run_pure, Result.andThen_ok, h.load]

set_option maxHeartbeats 6400000 in
set_option maxRecDepth 1000000 in
theorem law_fields (c : CronV) (hO : CronIn c) (w : World) (hI : CronItems w c) (hE : Env w) :
    Calls Tryz.prog 3 #[.agg c.cells] w fun e w' => e = .returned (.bool true) ∧ Ext w w' := by
  have HC : Hid (CronAt (w.alloc (.cells c.cells 27)) w.heap.size c) := cron_alloc w c
  have HX : Hid (Ext w (w.alloc (.cells c.cells 27))) := Ext.alloc _ _
  have HI := Lib.hid hI
  have HO := Lib.hid hO
  clear hI hO
  have Hb0 := Lib.hid HC.out.blk
  go_enter Tryz.func3, Tryz.ntmps3
  go_wp2_with (refine wpList_load_cron rfl _ rfl w.heap.size rfl c Hb0.out ?_)
  go_at_call 12
  refine (fits_any c _).mono ?_
  rintro e w1 ⟨rfl, x1⟩
  have C1 := Lib.hid (HC.out.ext x1)
  have X1 := Lib.hid (HX.out.trans x1)
  have Hb1 := Lib.hid C1.out.blk
  clear x1 Hb0
  go_wp2_with (refine wpList_load_cron rfl _ rfl w.heap.size rfl c Hb1.out ?_)
  go_at_call 13
  refine (right_cron c HO.out _ (HI.out.ext X1.out) (hE.ext X1.out)).mono ?_
  rintro e w2 ⟨rfl, x2⟩
  have C2 := Lib.hid (C1.out.ext x2)
  have X2 := Lib.hid (X1.out.trans x2)
  have Hb2 := Lib.hid C2.out.blk
  clear x2 Hb1
  rcases hR : c.rightB
  · clear hR
    go_wp2_with fail
    go_ret
    exact ⟨rfl, X2.out⟩
  · have HR := Lib.hid (right_is hR)
    clear hR
    have HOK := Lib.hid (cron_ok HO.out HR.out.all)
    go_wp2_with (refine wpList_load_cron rfl _ rfl w.heap.size rfl c Hb2.out ?_)
    go_at_call 14
    refine (text_cron c HOK.out _ (HI.out.ext X2.out) (hE.ext X2.out)).mono ?_
    rintro e w3 ⟨rfl, x3⟩
    have C3 := Lib.hid (C2.out.ext x3)
    have X3 := Lib.hid (X2.out.trans x3)
    clear x3 Hb2
    obtain ⟨tx, htx⟩ : ∃ tx, tx = mk c.text := ⟨_, rfl⟩
    have htl : tx.size ≤ 120 := by rw [htx, size_mk]; exact HR.out.len
    have HTX := Lib.hid htx
    rw [← htx]
    clear htx
    have hbt : bytes tx = c.text := by rw [HTX.out, bytes_mk]
    obtain ⟨fs, hf1, hf2, hf3, hf4, hf5, hf6, hf7⟩ := fields_right HR.out
    have HF : Hid (∀ W, Env W → Calls Tryz.prog 15 #[.string tx] W fun e W' => (∃ v, e = .returned (.tuple #[v, .int .i64 (c.p 3).dayN, .int .i64 (c.p 5).weekN, .bool true]) ∧ IntRows W' W.heap.size v (fs.map (·.1))) ∧ Ext W W') := fun W hW => by
      refine (impl_fields tx W (by omega) hW).mono ?_
      rw [hbt, hf1]
      rintro e W' ⟨⟨fs', v, a, b, he, rfl, h3, h5, hR⟩ | ⟨he, _⟩, x⟩
      · injection he with he
        subst he
        rw [hf5] at h3
        rw [hf6] at h5
        injection h3 with h3
        injection h5 with h5
        subst h3 h5
        exact ⟨⟨v, rfl, hR⟩, x⟩
      · cases he
    have HV : Hid (∀ W, Env W → Calls Tryz.prog 17 #[.string tx] W fun e W' => e = .returned (.bool true) ∧ Ext W W') := fun W hW => by
      refine (impl_valid tx W (by omega) hW).mono ?_
      rw [hbt, hf2, hf3]
      rintro e W' ⟨rfl, x⟩
      exact ⟨rfl, x⟩
    have HSAME : Hid (∀ i, i < 7 → (c.p i).k < 8 → (fs.map (·.1))[i]? = (c.nums 7)[i]?) := by
      intro i hi hk
      have h1 := hf7 i hi hk
      rw [List.getElem?_map, h1]
      unfold CronV.nums
      rw [List.getElem?_map, List.getElem?_range hi]
      rfl
    have H7 : Hid ((fs.map (·.1)).length = 7) := by show _ = _; simpa using hf4
    have hds := special_cron c (fun h9 => by
      have := right_case (all_right HR.out.all 3 (by decide))
      cases this with
      | common h _ _ => omega
      | last h _ => omega
      | lastWork h _ => omega
      | before _ _ a b => exact ⟨a, b⟩
      | closest h _ => omega
      | lastOf h _ => omega
      | nth h _ => omega)
    have HDS := Lib.hid hds
    obtain ⟨dn, hdn⟩ : ∃ dn, dn = (c.p 3).dayN := ⟨_, rfl⟩
    obtain ⟨wn, hwn⟩ : ∃ wn, wn = (c.p 5).weekN := ⟨_, rfl⟩
    rw [← hdn, ← hwn] at HF HDS
    clear hbt hf1 hf2 hf3 hf4 hf5 hf6 hf7 hds hdn hwn
    go_wp2_with fail
    go_at_call 15
    refine (HF.out _ (hE.ext X3.out)).mono ?_
    rintro e w4 ⟨⟨v4, rfl, hR4⟩, x4⟩
    have C4 := Lib.hid (C3.out.ext x4)
    have X4 := Lib.hid (X3.out.trans x4)
    have Hb4 := Lib.hid C4.out.blk
    obtain ⟨a4, c4, h4⟩ := intRows_len hR4
    rw [H7.out] at h4
    subst h4
    have HR4 := Lib.hid hR4
    clear x4 hR4
    go_wp2_with (refine wpList_load_cron rfl _ rfl w.heap.size rfl c Hb4.out ?_)
    go_at_call 16
    refine (HDS.out _).mono ?_
    rintro e w5 ⟨rfl, x5⟩
    have C5 := Lib.hid (C4.out.ext x5)
    have X5 := Lib.hid (X4.out.trans x5)
    have HR5 := Lib.hid (HR4.out.ext x5)
    clear x5 Hb4
    go_wp2_with fail
    have hS0 : ((loadCron (.pointer (some ⟨w.heap.size, 0, none⟩))).run Tryz.prog w5.drew = .ok (.value (.agg c.cells)) w5.drew ∧ Ext w5 w5.drew) := ⟨(C5.out.ext (Ext.drew _)).whole, Ext.drew _⟩
    have HVs : Hid (∀ W, ((loadCron (.pointer (some ⟨w.heap.size, 0, none⟩))).run Tryz.prog W = .ok (.value (.agg c.cells)) W ∧ Ext w5 W) → Calls Tryz.prog 17 #[.string tx] W fun e W' => e = .returned (.bool true) ∧ ((loadCron (.pointer (some ⟨w.heap.size, 0, none⟩))).run Tryz.prog W' = .ok (.value (.agg c.cells)) W' ∧ Ext w5 W')) := by
      intro W h
      refine (HV.out W (hE.ext (X5.out.trans h.2))).mono ?_
      rintro e W' ⟨rfl, x⟩
      exact ⟨rfl, (C5.out.ext (h.2.trans x)).whole, h.2.trans x⟩
    have HNs : Hid (∀ W, ((loadCron (.pointer (some ⟨w.heap.size, 0, none⟩))).run Tryz.prog W = .ok (.value (.agg c.cells)) W ∧ Ext w5 W) → Calls Tryz.prog 19 #[.agg c.cells] W fun e W' => ∃ v, e = .returned v ∧ IntRows W' 0 v (c.nums 7) ∧ ((loadCron (.pointer (some ⟨w.heap.size, 0, none⟩))).run Tryz.prog W' = .ok (.value (.agg c.cells)) W' ∧ Ext w5 W')) := by
      intro W h
      refine (numbers_cron c ⟨fun j hj => all_right HR.out.all j hj⟩ W (HI.out.ext (X5.out.trans h.2))).mono ?_
      rintro e W' ⟨v, rfl, hr, x⟩
      exact ⟨v, rfl, hr.mono (Nat.zero_le _), (C5.out.ext (h.2.trans x)).whole, h.2.trans x⟩
    have HSs : Hid (∀ W v, IntRows W 0 v (c.nums 7) → ((loadCron (.pointer (some ⟨w.heap.size, 0, none⟩))).run Tryz.prog W = .ok (.value (.agg c.cells)) W ∧ Ext w5 W) → Calls Tryz.prog 18 #[.agg c.cells, .slice a4 7 c4, v] W fun e W' => e = .returned (.bool true) ∧ ((loadCron (.pointer (some ⟨w.heap.size, 0, none⟩))).run Tryz.prog W' = .ok (.value (.agg c.cells)) W' ∧ Ext w5 W')) := by
      intro W v hv h
      refine (same_true c _ v _ _ (fs.map (·.1)) (c.nums 7) H7.out (by simp [CronV.nums]) HSAME.out ?_ W (HR5.out.ext h.2) hv).mono ?_
      · intro l hl
        simp only [CronV.nums, List.mem_map, List.mem_range] at hl
        obtain ⟨i, hi, rfl⟩ := hl
        exact numsAt_len HR.out.all i hi
      · rintro e W' ⟨rfl, x⟩
        exact ⟨rfl, (C5.out.ext (h.2.trans x)).whole, h.2.trans x⟩
    go_region_held3 (fun W => ((loadCron (.pointer (some ⟨w.heap.size, 0, none⟩))).run Tryz.prog W = .ok (.value (.agg c.cells)) W ∧ Ext w5 W)) (first | assumption)
      (first
      | (go_at_call 17
         refine (HVs.out _ (by assumption)).mono ?_
         rintro e w6 ⟨rfl, hS1⟩)
      | (go_at_call 19
         refine (HNs.out _ (by assumption)).mono ?_
         rintro e w6 ⟨v6, rfl, hR6, hS1⟩)
      | (go_at_call 18
         refine (HSs.out _ _ (by assumption) (by assumption)).mono ?_
         rintro e w6 ⟨rfl, hS1⟩))
    have HSE := Lib.hid hS1.2
    clear hS1
    go_wp2_with fail
    go_ret
    exact ⟨rfl, X5.out.trans HSE.out⟩
end Go.Proofs.YtmaffdhcmdhjfaaGreatDoor
