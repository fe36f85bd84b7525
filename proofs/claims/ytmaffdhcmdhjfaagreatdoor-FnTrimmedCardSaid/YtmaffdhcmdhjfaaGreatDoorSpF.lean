/- spec.Text, Right, Special, Plain: an expression as a whole. -/
import Derived.Test.YtmaffdhcmdhjfaaGreatDoorSpE
namespace Go.Proofs.YtmaffdhcmdhjfaaGreatDoor
open Go.RowKit Go.Lib

/-- a part of an expression, with the slice of its items -/
structure PartV where
  k : Int
  a : Int
  b : Int
  s : Int
  n : Int
  ia : Option Addr
  cap : Nat
  items : List Atom
structure CronV where
  p : Nat → PartV
  six : Bool
def PartV.cells (p : PartV) : List Value := [.int .i64 p.k, .int .i64 p.a, .int .i64 p.b, .int .i64 p.s, .int .i64 p.n, .slice p.ia p.items.length p.cap]
def CronV.cells (c : CronV) : Array Value := List.toArray ((c.p 0).cells ++ ((c.p 1).cells ++ ((c.p 2).cells ++ ((c.p 3).cells ++ ((c.p 4).cells ++ ((c.p 5).cells ++ ((c.p 6).cells ++ [Value.bool c.six])))))))

/-- the cells of an expression in memory -/
structure CronAt (W : World) (B : Nat) (c : CronV) : Prop where
  k : ∀ j, j < 7 → W.cell? ⟨B, j * 6, none⟩ = some (.int .i64 (c.p j).k)
  a : ∀ j, j < 7 → W.cell? ⟨B, j * 6 + 1, none⟩ = some (.int .i64 (c.p j).a)
  b : ∀ j, j < 7 → W.cell? ⟨B, j * 6 + 2, none⟩ = some (.int .i64 (c.p j).b)
  s : ∀ j, j < 7 → W.cell? ⟨B, j * 6 + 3, none⟩ = some (.int .i64 (c.p j).s)
  n : ∀ j, j < 7 → W.cell? ⟨B, j * 6 + 4, none⟩ = some (.int .i64 (c.p j).n)
  it : ∀ j, j < 7 → W.cell? ⟨B, j * 6 + 5, none⟩ = some (.slice (c.p j).ia (c.p j).items.length (c.p j).cap)
  six : W.cell? ⟨B, 42, none⟩ = some (.bool c.six)
  blk : W.heap[B]? = some (.cells c.cells 27 (0, 0))
theorem CronAt.ext {W W' : World} {B : Nat} {c : CronV} (h : CronAt W B c) (x : Ext W W') : CronAt W' B c :=
  ⟨fun j hj => x.cell (h.k j hj), fun j hj => x.cell (h.a j hj), fun j hj => x.cell (h.b j hj), fun j hj => x.cell (h.s j hj), fun j hj => x.cell (h.n j hj), fun j hj => x.cell (h.it j hj), x.cell h.six, by
    have hl : B < W.heap.size := by
      rcases Nat.lt_or_ge B W.heap.size with hlt | hge
      · exact hlt
      · have := h.blk; rw [Array.getElem?_eq_none hge] at this; cases this
    rw [Below.block x B hl]; exact h.blk⟩
theorem u27 : (Tryz.prog.info? 27).map (·.size) = some 43 := by kernel_rfl
theorem CronV.size (c : CronV) : c.cells.size = 43 := rfl
theorem CronAt.load {W : World} {B : Nat} {c : CronV} (h : CronAt W B c) : (loadVar 27 ⟨B, 0, none⟩).run Tryz.prog W = .ok (.agg c.cells) W :=
  run_loadVar_row W B 27 27 c.cells (0, 0) _ h.blk Tryz.underlying27 rfl (by rw [c.size]; exact u27)
theorem wpList_load_cron {ops : Array Oper} {rest : List Oper} {o : Oper} {a : Act} {w : World} {Q : Exit → Act → World → Prop} (hw : Region.wanted o (yielded ops a.tmps) = true) (x : Operand) (ho : o.op = .load 27 x)
    (g : Nat) (hx : a.eval x = .pointer (some ⟨g, 0, none⟩)) (c : CronV) (hg : w.heap[g]? = some (.cells c.cells 27 (0, 0)))
    (h : wpList Tryz.prog ops Q rest (a.put o.dst (.agg c.cells)) w) : wpList Tryz.prog ops Q (o :: rest) a w :=
  BigFrame.wpList_want hw fun _ hK => wp_load_row 27 x ho g hx 27 c.cells (0, 0) _ hg Tryz.underlying27 rfl (by rw [c.size]; exact u27) (hK _ _ h)
theorem lt7 {j : Nat} (h : j < 7) : j = 0 ∨ j = 1 ∨ j = 2 ∨ j = 3 ∨ j = 4 ∨ j = 5 ∨ j = 6 := by omega
theorem cron_alloc (w : World) (c : CronV) : CronAt (w.alloc (.cells c.cells 27)) w.heap.size c := by
  have hc : ∀ i, (w.alloc (.cells c.cells 27)).cell? ⟨w.heap.size, i, none⟩ = c.cells[i]? := fun i => by simp
  refine ⟨?_, ?_, ?_, ?_, ?_, ?_, by rw [hc]; rfl, heap_alloc_new _ _⟩
  all_goals
    intro j hj
    rw [hc]
    rcases lt7 hj with rfl | rfl | rfl | rfl | rfl | rfl | rfl <;> rfl

structure PartOk (p : PartV) : Prop where
  a : Joins.In64 p.a
  b : Joins.In64 p.b
  s : Joins.In64 p.s
  items : p.k = 7 → ItemsOk p.items
def PartV.text (f : Nat) (p : PartV) : List UInt8 := textP f p.k p.a p.b p.s p.n p.items
def PartV.it (p : PartV) : Value := .slice p.ia p.items.length p.cap

theorem text_part (f : Nat) (hf : f < 7) (p : PartV) (hp : PartOk p) (w : World) (hI : ItemsAt w p.ia p.items) (hE : Env w) :
    Calls Tryz.prog 37 #[.int .i64 f, .agg #[.int .i64 p.k, .int .i64 p.a, .int .i64 p.b, .int .i64 p.s, .int .i64 p.n, .slice p.ia p.items.length p.cap]] w fun e w' => e = .returned (.string (mk (p.text f))) ∧ Ext w w' := by
  obtain ⟨k, a, b, s, n, ia, cap, items⟩ := p
  obtain ⟨ha, hb, hs, hit⟩ := hp
  simp only at ha hb hs hit hI
  unfold PartV.text textP
  simp only
  by_cases h7 : k = 7
  · subst h7
    rw [if_pos rfl]
    exact text_list f hf a b s n ha hb hs ia cap items (hit rfl) w hI hE
  · rw [if_neg h7]
    exact text_atom f hf k a b s n ha hb hs h7 _ w hE

theorem joinL_len (c : UInt8) : ∀ L : List (List UInt8), (∀ x ∈ L, x.length ≤ 70) → (joinL c L).length ≤ 71 * L.length
  | [], _ => by simp [joinL]
  | [x], h => by have := h x (by simp); show x.length ≤ _; simp; omega
  | x :: y :: r, h => by
    have h1 := h x (by simp)
    have h2 := joinL_len c (y :: r) (fun z hz => h z (by simp only [List.mem_cons] at hz ⊢; exact .inr hz))
    show (x ++ c :: joinL c (y :: r)).length ≤ _
    simp only [List.length_append, List.length_cons] at h2 ⊢
    omega
theorem part_len {f : Nat} {p : PartV} (hp : PartOk p) : (p.text f).length ≤ 430 := by
  unfold PartV.text textP
  split
  · rename_i h7
    have hi := hp.items h7
    have := joinL_len 44 (p.items.map (Atom.text f)) (by
      intro x hx
      simp only [List.mem_map] at hx
      obtain ⟨y, hy, rfl⟩ := hx
      obtain ⟨_, h1, h2, h3⟩ := hi.num y hy
      exact textA_len f _ _ _ _ _ h1 h2 h3)
    have h6 := hi.six
    rw [List.length_map] at this
    omega
  · have := textA_len f p.k p.a p.b p.s p.n hp.a hp.b hp.s
    omega

def CronV.parts (c : CronV) (k : Nat) : List (List UInt8) := (List.range k).map fun j => (c.p j).text j
/-- an expression as text -/
def CronV.text (c : CronV) : List UInt8 := joinL 32 (c.parts (if c.six then 6 else 7))
theorem parts_succ (c : CronV) (k : Nat) : c.parts (k + 1) = c.parts k ++ [(c.p k).text k] := by simp [CronV.parts, List.range_succ]
theorem parts_join (c : CronV) (k : Nat) : joinL 32 (c.parts (k + 1)) = if 0 < k then joinL 32 (c.parts k) ++ 32 :: (c.p k).text k else (c.p k).text k := by
  rw [parts_succ]
  by_cases h : 0 < k
  · rw [if_pos h]
    exact joinL_snoc 32 _ _ (by intro e; have := congrArg List.length e; simp [CronV.parts] at this; omega)
  · have : k = 0 := by omega
    subst this
    rfl

structure CronOk (c : CronV) : Prop where
  part : ∀ j, j < 7 → PartOk (c.p j)
def CronItems (W : World) (c : CronV) : Prop := ∀ j, j < 7 → ItemsAt W (c.p j).ia (c.p j).items
theorem CronItems.ext {W W' : World} {c : CronV} (h : CronItems W c) (x : Ext W W') : CronItems W' c := fun j hj => (h j hj).ext x

set_option maxHeartbeats 3200000 in
set_option maxRecDepth 1000000 in
theorem text_cron (c : CronV) (hO : CronOk c) (w : World) (hI : CronItems w c) (hE : Env w) :
    Calls Tryz.prog 14 #[.agg c.cells] w fun e w' => e = .returned (.string (mk c.text)) ∧ Ext w w' := by
  obtain ⟨six, hsix⟩ : ∃ six, six = c.six := ⟨_, rfl⟩
  have HS : Hid (c.text = joinL 32 (c.parts (if six then 6 else 7))) := by rw [hsix]; rfl
  have HC : Hid (CronAt (w.alloc (.cells c.cells 27)) w.heap.size c) := cron_alloc w c
  have HX : Hid (Ext w (w.alloc (.cells c.cells 27))) := Ext.alloc _ _
  have H42 : Hid ((w.alloc (.cells c.cells 27)).cell? ⟨w.heap.size, 42, none⟩ = some (.bool six)) := by rw [hsix]; exact HC.out.six
  have HI := Lib.hid hI
  have HO := Lib.hid hO
  clear hsix hI hO
  go_enter Tryz.func14, Tryz.ntmps14
  go_wp2_with fail
  go_loopw [3, 4] (fun o i wr => ∃ (k : Nat) (O : ByteArray), k ≤ (if six then 6 else 7) ∧ i = .int .i64 k ∧ o = .string O ∧ Hid (O = mk (joinL 32 (c.parts k))) ∧ O.size ≤ k * 431 ∧ Hid (Ext (w.alloc (.cells c.cells 27)) wr))
    (fun _ i _ => 7 - (RowKit.intOf i).toNat)
  case atStart => exact ⟨0, ⟨#[]⟩, Nat.zero_le _, rfl, rfl, rfl, Nat.zero_le _, Ext.refl _⟩
  case round =>
    obtain ⟨k, O, hk, rfl, rfl, HO2, hsz, Hx⟩ := hrel
    have c42 : wr.cell? ⟨w.heap.size, 42, none⟩ = some (.bool six) := Hx.out.cell H42.out
    have hk7 : k ≤ 7 := by cases six <;> simp at hk <;> omega
    by_cases hlt : k < (if six then 6 else 7)
    · have h7 : k < 7 := by cases six <;> simp at hlt <;> omega
      have h6 : k = 6 → six = false := by intro e; subst e; cases six <;> simp at hlt ⊢
      have CA := HC.out.ext Hx.out
      have d0 := CA.k k h7
      have d1 := CA.a k h7
      have d2 := CA.b k h7
      have d3 := CA.s k h7
      have d4 := CA.n k h7
      have d5 := CA.it k h7
      have XX := HX.out.trans Hx.out
      have hp := HO.out.part k h7
      have HT : Hid (joinL 32 (c.parts (k + 1)) = if 0 < k then joinL 32 (c.parts k) ++ 32 :: (c.p k).text k else (c.p k).text k) := parts_join c k
      obtain ⟨tx, htx⟩ : ∃ tx, tx = mk ((c.p k).text k) := ⟨_, rfl⟩
      have sx : tx.size ≤ 430 := by rw [htx, size_mk]; exact part_len hp
      have HCX : Hid (∀ W, Ext w W → Calls Tryz.prog 37 #[.int .i64 k, .agg #[.int .i64 (c.p k).k, .int .i64 (c.p k).a, .int .i64 (c.p k).b, .int .i64 (c.p k).s, .int .i64 (c.p k).n, .slice (c.p k).ia (c.p k).items.length (c.p k).cap]] W fun e w' => e = .returned (.string tx) ∧ Ext W w') := fun W hW => by
        rw [htx]; exact text_part k h7 (c.p k) hp W ((HI.out k h7).ext hW) (hE.ext hW)
      have HTX := Lib.hid htx
      have HXX := Lib.hid XX
      generalize c.p k = pk at d0 d1 d2 d3 d4 d5 HCX HTX HT
      clear XX hp htx CA hlt hk
      obtain ⟨q0, q1, q2, q3, q4, q5, q6, q7⟩ := pk
      obtain ⟨L8, hL8⟩ : ∃ L8, L8 = q7.length := ⟨_, rfl⟩
      simp only at d0 d1 d2 d3 d4 d5 HCX
      rw [← hL8] at d5 HCX
      clear hL8
      by_cases h0 : 0 < k
      · rcases six
        all_goals
          by_cases hk6 : k = 6
          · first
              | (exact absurd (h6 hk6) (by decide))
              | (subst hk6
                 clear h6
                 go_wp2_with fail
                 go_at_call 37
                 refine (HCX.out _ HXX.out).mono ?_
                 rintro e w4 ⟨rfl, x4⟩
                 have X4 := Lib.hid (Hx.out.trans x4)
                 clear x4
                 have Hn : Hid (O ++ mk [32] ++ tx = mk (joinL 32 (c.parts 7))) := by
                   show _ = _
                   rw [HT.out, if_pos h0, HO2.out, HTX.out, mk_append, mk_append]
                   simp
                 have hsn : (O ++ mk [32] ++ tx).size ≤ 7 * 431 := by
                   have e : (O ++ mk [32] ++ tx).size = O.size + 1 + tx.size := by rw [ByteArray.size_append, ByteArray.size_append]; rfl
                   rw [e]; omega
                 go_wp2_with fail
                 go_roundw
                 case rel => exact ⟨7, _, by simp, by go_num, rfl, Hn, hsn, X4⟩
                 case measure => simp [RowKit.intOf])
          · have hb6 : ((k : Int) == 6) = false := by rw [beq_eq_false_iff_ne]; omega
            clear h6
            go_wp2_with fail
            go_at_call 37
            refine (HCX.out _ HXX.out).mono ?_
            rintro e w4 ⟨rfl, x4⟩
            have X4 := Lib.hid (Hx.out.trans x4)
            clear x4
            have Hn : Hid (O ++ mk [32] ++ tx = mk (joinL 32 (c.parts (k + 1)))) := by
              show _ = _
              rw [HT.out, if_pos h0, HO2.out, HTX.out, mk_append, mk_append]
              simp
            have hsn : (O ++ mk [32] ++ tx).size ≤ (k + 1) * 431 := by
              have e : (O ++ mk [32] ++ tx).size = O.size + 1 + tx.size := by rw [ByteArray.size_append, ByteArray.size_append]; rfl
              rw [e]; omega
            go_wp2_with fail
            go_roundw
            case rel => exact ⟨k + 1, _, by simp; omega, by go_num, rfl, Hn, hsn, X4⟩
            case measure => simp [RowKit.intOf]; omega
      · have hk0 : k = 0 := by omega
        subst hk0
        clear h6
        go_wp2_with fail
        go_at_call 37
        refine (HCX.out _ HXX.out).mono ?_
        rintro e w4 ⟨rfl, x4⟩
        have X4 := Lib.hid (Hx.out.trans x4)
        clear x4
        have Hn : Hid (O ++ tx = mk (joinL 32 (c.parts 1))) := by
          show _ = _
          rw [HT.out, if_neg h0, HO2.out, HTX.out, mk_append]
          rfl
        have hsn : (O ++ tx).size ≤ 1 * 431 := by
          rw [ByteArray.size_append]; omega
        go_wp2_with fail
        go_roundw
        case rel => exact ⟨1, _, by cases six <;> simp, by go_num, rfl, Hn, hsn, X4⟩
        case measure => simp [RowKit.intOf]
    · have Hk : Hid (k = if six then 6 else 7) := by show _ = _; omega
      rcases six
      · have hk' : k = 7 := Hk.out
        subst hk'
        go_wp2_with fail
        go_ret
        exact ⟨ret_str (by rw [HS.out]; exact HO2.out), HX.out.trans Hx.out⟩
      · have hk' : k = 6 := Hk.out
        subst hk'
        go_wp2_with fail
        go_ret
        exact ⟨ret_str (by rw [HS.out]; exact HO2.out), HX.out.trans Hx.out⟩
end Go.Proofs.YtmaffdhcmdhjfaaGreatDoor
