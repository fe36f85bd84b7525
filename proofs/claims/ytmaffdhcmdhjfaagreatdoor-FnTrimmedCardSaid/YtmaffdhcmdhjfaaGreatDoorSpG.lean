/- spec.Right. -/
import Derived.Test.YtmaffdhcmdhjfaaGreatDoorSpF
namespace Go.Proofs.YtmaffdhcmdhjfaaGreatDoor
open Go.RowKit Go.Lib

structure PartIn (p : PartV) : Prop where
  a : Joins.In64 p.a
  b : Joins.In64 p.b
  s : Joins.In64 p.s
  len : p.items.length ≤ 9223372036854775807
  item : ∀ x ∈ p.items, Joins.In64 x.a ∧ Joins.In64 x.b ∧ Joins.In64 x.s
structure CronIn (c : CronV) : Prop where
  part : ∀ j, j < 7 → PartIn (c.p j)

def PartV.rightB (f : Nat) (p : PartV) : Bool := YtmaffdhcmdhjfaaGreatDoor.rightB f p.k p.a p.b p.s p.n p.items
def toldK (k : Int) : Bool := !(k == 0) && !(k == 1)
def CronV.allB (c : CronV) (k : Nat) : Bool := (List.range k).all fun j => (c.p j).rightB j
def CronV.rightB (c : CronV) : Bool := c.allB 7 && (!(toldK (c.p 3).k && toldK (c.p 5).k) && decide (c.text.length ≤ 120))

theorem item_kind {f : Nat} {x : Atom} (h : itemB f x = true) : x.ok f := by
  unfold itemB at h
  simp only [Bool.and_eq_true, decide_eq_true_eq] at h
  exact ⟨h.2, by omega⟩

theorem right_items {f : Nat} {p : PartV} (h : p.rightB f = true) (h7 : p.k = 7) : ListOk f p.items ∧ p.items.length ≤ 6 := by
  unfold PartV.rightB YtmaffdhcmdhjfaaGreatDoor.rightB at h
  rw [h7] at h
  by_cases hn0 : p.n < 0
  · rw [if_pos hn0] at h; cases h
  · by_cases hn2 : 2 < p.n
    · rw [if_neg hn0, if_pos hn2] at h; cases h
    · rw [if_neg hn0, if_neg hn2, if_neg (by decide), if_neg (by decide), if_pos rfl] at h
      simp only [Bool.and_eq_true, decide_eq_true_eq, List.all_eq_true] at h
      exact ⟨⟨h.1.1, fun x hx => item_kind (h.2 x hx)⟩, h.1.2⟩

theorem part_ok {f : Nat} {p : PartV} (hi : PartIn p) (h : p.rightB f = true) : PartOk p where
  a := hi.a
  b := hi.b
  s := hi.s
  items := fun h7 => by
    obtain ⟨h1, h2⟩ := right_items h h7
    refine ⟨h2, fun x hx => ⟨?_, hi.item x hx⟩⟩
    have := (h1.ok x hx).kind
    omega

theorem all_right {c : CronV} {k : Nat} (h : c.allB k = true) (j : Nat) (hj : j < k) : (c.p j).rightB j = true := by
  unfold CronV.allB at h
  rw [List.all_eq_true] at h
  exact h j (by simpa using hj)
theorem all_succ (c : CronV) (k : Nat) : c.allB (k + 1) = (c.allB k && (c.p k).rightB k) := by simp [CronV.allB, List.range_succ]
theorem cron_ok {c : CronV} (hi : CronIn c) (h : c.allB 7 = true) : CronOk c := ⟨fun j hj => part_ok (hi.part j hj) (all_right h j hj)⟩

theorem right_part (f : Nat) (hf : f < 7) (p : PartV) (hp : p.items.length ≤ 9223372036854775807) (w : World) (hI : ItemsAt w p.ia p.items) :
    Calls Tryz.prog 35 #[.int .i64 f, .agg #[.int .i64 p.k, .int .i64 p.a, .int .i64 p.b, .int .i64 p.s, .int .i64 p.n, .slice p.ia p.items.length p.cap]] w fun e w' => e = .returned (.bool (p.rightB f)) ∧ Ext w w' := by
  obtain ⟨k, a, b, s, n, ia, cap, items⟩ := p
  simp only at hp hI
  unfold PartV.rightB
  simp only
  by_cases h7 : k = 7
  · subst h7
    by_cases hn0 : n < 0
    · have e : rightB f 7 a b s n items = false := by unfold rightB; rw [if_pos hn0]
      rw [e]
      have HX : Hid (Ext w (w.alloc (.cells #[.int .i64 7, .int .i64 a, .int .i64 b, .int .i64 s, .int .i64 n, .slice ia items.length cap] 24))) := Ext.alloc _ _
      obtain ⟨L, hL⟩ : ∃ L, L = items.length := ⟨_, rfl⟩
      rw [← hL] at HX ⊢
      clear hL e hI
      go_enter Tryz.func35, Tryz.ntmps35
      go_wp2_with fail
      go_ret
      exact ⟨rfl, HX.out⟩
    · by_cases hn2 : 2 < n
      · have e : rightB f 7 a b s n items = false := by unfold rightB; rw [if_neg hn0, if_pos hn2]
        rw [e]
        have HX : Hid (Ext w (w.alloc (.cells #[.int .i64 7, .int .i64 a, .int .i64 b, .int .i64 s, .int .i64 n, .slice ia items.length cap] 24))) := Ext.alloc _ _
        obtain ⟨L, hL⟩ : ∃ L, L = items.length := ⟨_, rfl⟩
        rw [← hL] at HX ⊢
        clear hL e hI
        go_enter Tryz.func35, Tryz.ntmps35
        go_wp2_with fail
        go_ret
        exact ⟨rfl, HX.out⟩
      · exact right_list f hf a b s n (by omega) (by omega) ia cap items hp w hI
  · exact right_atom f hf k a b s n h7 _ items w

theorem told_part (p : PartV) (w : World) :
    Calls Tryz.prog 36 #[.agg #[.int .i64 p.k, .int .i64 p.a, .int .i64 p.b, .int .i64 p.s, .int .i64 p.n, .slice p.ia p.items.length p.cap]] w fun e w' => e = .returned (.bool (toldK p.k)) ∧ Ext w w' :=
  told_any p.k p.a p.b p.s p.n _ w

set_option maxHeartbeats 3200000 in
set_option maxRecDepth 1000000 in
theorem right_cron (c : CronV) (hO : CronIn c) (w : World) (hI : CronItems w c) (hE : Env w) :
    Calls Tryz.prog 13 #[.agg c.cells] w fun e w' => e = .returned (.bool c.rightB) ∧ Ext w w' := by
  have HC : Hid (CronAt (w.alloc (.cells c.cells 27)) w.heap.size c) := cron_alloc w c
  have HX : Hid (Ext w (w.alloc (.cells c.cells 27))) := Ext.alloc _ _
  have HI := Lib.hid hI
  have HO := Lib.hid hO
  clear hI hO
  obtain ⟨R, hR⟩ : ∃ R, R = c.rightB := ⟨_, rfl⟩
  rw [← hR]
  have HR : Hid (R = (c.allB 7 && (!(toldK (c.p 3).k && toldK (c.p 5).k) && decide (c.text.length ≤ 120)))) := hR
  clear hR
  go_enter Tryz.func13, Tryz.ntmps13
  go_wp2_with fail
  go_loopw [3] (fun i wr => ∃ (k : Nat), k ≤ 7 ∧ i = .int .i64 k ∧ Hid (c.allB k = true) ∧ Hid (Ext (w.alloc (.cells c.cells 27)) wr))
    (fun i _ => 7 - (RowKit.intOf i).toNat)
  case atStart => exact ⟨0, Nat.zero_le _, rfl, rfl, Ext.refl _⟩
  case round =>
    obtain ⟨k, hk, rfl, HA, Hx⟩ := hrel
    by_cases hlt : k < 7
    · have CA := HC.out.ext Hx.out
      have d0 := CA.k k hlt
      have d1 := CA.a k hlt
      have d2 := CA.b k hlt
      have d3 := CA.s k hlt
      have d4 := CA.n k hlt
      have d5 := CA.it k hlt
      have XX := HX.out.trans Hx.out
      have hp := HO.out.part k hlt
      have HCX : Hid (∀ W, Ext w W → Calls Tryz.prog 35 #[.int .i64 k, .agg #[.int .i64 (c.p k).k, .int .i64 (c.p k).a, .int .i64 (c.p k).b, .int .i64 (c.p k).s, .int .i64 (c.p k).n, .slice (c.p k).ia (c.p k).items.length (c.p k).cap]] W fun e w' => e = .returned (.bool ((c.p k).rightB k)) ∧ Ext W w') := fun W hW =>
        right_part k hlt (c.p k) hp.len W ((HI.out k hlt).ext hW)
      have HAS : Hid (c.allB (k + 1) = (c.allB k && (c.p k).rightB k)) := all_succ c k
      have HRF : Hid ((c.p k).rightB k = false → R = false) := by
        intro hf
        have : c.allB 7 = false := by
          rcases hb : c.allB 7
          · rfl
          · rw [all_right hb k hlt] at hf; cases hf
        rw [HR.out, this]; rfl
      have HXX := Lib.hid XX
      generalize c.p k = pk at d0 d1 d2 d3 d4 d5 HCX HAS HRF
      clear XX hp CA
      obtain ⟨b, hb⟩ : ∃ b, b = pk.rightB k := ⟨_, rfl⟩
      rw [← hb] at HCX HAS HRF
      clear hb
      obtain ⟨q0, q1, q2, q3, q4, q5, q6, q7⟩ := pk
      obtain ⟨L8, hL8⟩ : ∃ L8, L8 = q7.length := ⟨_, rfl⟩
      simp only at d0 d1 d2 d3 d4 d5 HCX
      rw [← hL8] at d5 HCX
      clear hL8
      go_wp2_with fail
      go_at_call 35
      refine (HCX.out _ HXX.out).mono ?_
      rintro e w4 ⟨rfl, x4⟩
      have X4 := Lib.hid (Hx.out.trans x4)
      have XX4 := Lib.hid (HXX.out.trans x4)
      clear x4
      rcases b
      · go_wp2_with fail
        go_ret
        exact ⟨ret_bool (HRF.out (by first | rfl | trivial)).symm, XX4.out⟩
      · go_wp2_with fail
        go_roundw
        case rel => exact ⟨k + 1, by omega, by go_num, by show _ = _; rw [HAS.out, HA.out]; rfl, X4⟩
        case measure => simp [RowKit.intOf]; omega
    · obtain rfl : k = 7 := by omega
      have CA := HC.out.ext Hx.out
      have d0 : wr.cell? ⟨w.heap.size, 18, none⟩ = some (.int .i64 (c.p 3).k) := CA.k 3 (by omega)
      have d1 : wr.cell? ⟨w.heap.size, 19, none⟩ = some (.int .i64 (c.p 3).a) := CA.a 3 (by omega)
      have d2 : wr.cell? ⟨w.heap.size, 20, none⟩ = some (.int .i64 (c.p 3).b) := CA.b 3 (by omega)
      have d3 : wr.cell? ⟨w.heap.size, 21, none⟩ = some (.int .i64 (c.p 3).s) := CA.s 3 (by omega)
      have d4 : wr.cell? ⟨w.heap.size, 22, none⟩ = some (.int .i64 (c.p 3).n) := CA.n 3 (by omega)
      have d5 : wr.cell? ⟨w.heap.size, 23, none⟩ = some (.slice (c.p 3).ia (c.p 3).items.length (c.p 3).cap) := CA.it 3 (by omega)
      have HXX := Lib.hid (HX.out.trans Hx.out)
      have HCA := Lib.hid CA
      have HT3 : Hid (∀ W, Calls Tryz.prog 36 #[.agg #[.int .i64 (c.p 3).k, .int .i64 (c.p 3).a, .int .i64 (c.p 3).b, .int .i64 (c.p 3).s, .int .i64 (c.p 3).n, .slice (c.p 3).ia (c.p 3).items.length (c.p 3).cap]] W fun e w' => e = .returned (.bool (toldK (c.p 3).k)) ∧ Ext W w') := told_part (c.p 3)
      have HT5 : Hid (∀ W, Calls Tryz.prog 36 #[.agg #[.int .i64 (c.p 5).k, .int .i64 (c.p 5).a, .int .i64 (c.p 5).b, .int .i64 (c.p 5).s, .int .i64 (c.p 5).n, .slice (c.p 5).ia (c.p 5).items.length (c.p 5).cap]] W fun e w' => e = .returned (.bool (toldK (c.p 5).k)) ∧ Ext W w') := told_part (c.p 5)
      clear CA
      have e0 : wr.cell? ⟨w.heap.size, 30, none⟩ = some (.int .i64 (c.p 5).k) := HCA.out.k 5 (by omega)
      have e1 : wr.cell? ⟨w.heap.size, 31, none⟩ = some (.int .i64 (c.p 5).a) := HCA.out.a 5 (by omega)
      have e2 : wr.cell? ⟨w.heap.size, 32, none⟩ = some (.int .i64 (c.p 5).b) := HCA.out.b 5 (by omega)
      have e3 : wr.cell? ⟨w.heap.size, 33, none⟩ = some (.int .i64 (c.p 5).s) := HCA.out.s 5 (by omega)
      have e4 : wr.cell? ⟨w.heap.size, 34, none⟩ = some (.int .i64 (c.p 5).n) := HCA.out.n 5 (by omega)
      have e5 : wr.cell? ⟨w.heap.size, 35, none⟩ = some (.slice (c.p 5).ia (c.p 5).items.length (c.p 5).cap) := HCA.out.it 5 (by omega)
      have E := Lib.hid (And.intro e0 (And.intro e1 (And.intro e2 (And.intro e3 (And.intro e4 e5)))))
      clear e0 e1 e2 e3 e4 e5
      have HTX : Hid (∀ W, Ext w W → Calls Tryz.prog 14 #[.agg c.cells] W fun e w' => e = .returned (.string (mk c.text)) ∧ Ext W w') := fun W hW =>
        text_cron c (cron_ok HO.out HA.out) W (HI.out.ext hW) (hE.ext hW)
      have htl : (mk c.text).size ≤ 3017 := by
        have h0 : ∀ (L : List (List UInt8)) (m : Nat), (∀ x ∈ L, x.length ≤ m) → (joinL 32 L).length ≤ (m + 1) * L.length := by
          intro L
          induction L with
          | nil => intro m _; simp [joinL]
          | cons x r ih =>
            intro m h
            cases r with
            | nil => have := h x (by simp); show x.length ≤ _; simp; omega
            | cons y r =>
              have h1 := h x (by simp)
              have h2 := ih m (fun z hz => h z (by simp only [List.mem_cons] at hz ⊢; exact .inr hz))
              show (x ++ 32 :: joinL 32 (y :: r)).length ≤ _
              simp only [List.length_append, List.length_cons] at h2 ⊢
              rw [Nat.mul_add, Nat.mul_one]
              omega
        rw [size_mk]
        have := h0 (c.parts (if c.six then 6 else 7)) 430 (by
          intro x hx
          simp only [CronV.parts, List.mem_map, List.mem_range] at hx
          obtain ⟨j, hj, rfl⟩ := hx
          exact part_len ((cron_ok HO.out HA.out).part j (by split at hj <;> omega)))
        have hl : (c.parts (if c.six then 6 else 7)).length ≤ 7 := by simp [CronV.parts]; split <;> omega
        unfold CronV.text
        omega
      obtain ⟨tx, htx⟩ : ∃ tx, tx = mk c.text := ⟨_, rfl⟩
      have HTL : Hid (tx.size = c.text.length) := by show _ = _; rw [htx]; rfl
      rw [← htx] at htl HTX
      clear htx
      obtain ⟨t3, ht3⟩ : ∃ t3, t3 = toldK (c.p 3).k := ⟨_, rfl⟩
      obtain ⟨t5, ht5⟩ : ∃ t5, t5 = toldK (c.p 5).k := ⟨_, rfl⟩
      rw [← ht3] at HR HT3
      rw [← ht5] at HR HT5
      clear ht3 ht5
      have HR2 : Hid (R = (!(t3 && t5) && decide (tx.size ≤ 120))) := by show _ = _; rw [HR.out, HA.out, HTL.out]; rfl
      go_wp2_with fail
      go_at_call 36
      refine (HT3.out _).mono ?_
      rintro e w4 ⟨rfl, x4⟩
      have X4 := Lib.hid x4
      clear x4 d0 d1 d2 d3 d4 d5
      rcases t3
      · have hblk := (HCA.out.ext X4.out).blk
        have Hblk := Lib.hid hblk
        clear hblk
        go_wp2_with (refine wpList_load_cron rfl _ rfl w.heap.size rfl c Hblk.out ?_)
        go_at_call 14
        refine (HTX.out _ (HXX.out.trans X4.out)).mono ?_
        rintro e w5 ⟨rfl, x5⟩
        have X5 := Lib.hid x5
        clear x5
        go_wp2_with fail
        go_ret
        exact ⟨ret_bool (by rw [HR2.out]; simp <;> omega), (HXX.out.trans X4.out).trans X5.out⟩
      · have e0 := X4.out.cell E.out.1
        have e1 := X4.out.cell E.out.2.1
        have e2 := X4.out.cell E.out.2.2.1
        have e3 := X4.out.cell E.out.2.2.2.1
        have e4 := X4.out.cell E.out.2.2.2.2.1
        have e5 := X4.out.cell E.out.2.2.2.2.2
        go_wp2_with fail
        go_at_call 36
        refine (HT5.out _).mono ?_
        rintro e w5 ⟨rfl, x5⟩
        have X5 := Lib.hid (X4.out.trans x5)
        clear x5 e0 e1 e2 e3 e4 e5
        rcases t5
        · have hblk := (HCA.out.ext X5.out).blk
          have Hblk := Lib.hid hblk
          clear hblk
          go_wp2_with (refine wpList_load_cron rfl _ rfl w.heap.size rfl c Hblk.out ?_)
          go_at_call 14
          refine (HTX.out _ (HXX.out.trans X5.out)).mono ?_
          rintro e w6 ⟨rfl, x6⟩
          have X6 := Lib.hid x6
          clear x6
          go_wp2_with fail
          go_ret
          exact ⟨ret_bool (by rw [HR2.out]; simp <;> omega), (HXX.out.trans X5.out).trans X6.out⟩
        · go_wp2_with fail
          go_ret
          exact ⟨ret_bool (by rw [HR2.out]; simp <;> omega), HXX.out.trans X5.out⟩
end Go.Proofs.YtmaffdhcmdhjfaaGreatDoor
