/- zzSplit. -/
import Derived.Test.YtmaffdhcmdhjfaaGreatDoorZzA
import Derived.Laws.OwnMore
import Derived.Laws.AppendOwn
import Derived.Maps.AppendAt
namespace Go.Proofs.YtmaffdhcmdhjfaaGreatDoor
open Go.RowKit Go.Lib

theorem Tryz.info9 : (Tryz.prog.info? 9).map (fun i => (i.zero, i.size, i.bytes)) = some (some (.string ⟨#[]⟩), 1, 16) := by kernel_rfl
theorem Tryz.info3 : (Tryz.prog.info? 3).map (fun i => (i.zero, i.size, i.bytes)) = some (some (.int .i64 0), 1, 8) := by kernel_rfl

theorem Ext.own_grown {w wr w1 : World} {o : Obj} {e size n : Nat} {v : Value} {xs : List Value} (h : Ext w wr) (hown : wr.ownsRow w.heap.size e size v n xs) (hg : (wr.alloc o).grownBy w1 v.ownBlock) : Ext w w1 :=
  Below.grown (Below.alloc h h.size o) hg (by have := h.size; simp; omega) (fun k hk => (hown.lt k hk).1)
theorem strs_snoc (ps : List (List UInt8)) (x : List UInt8) : strs (ps ++ [x]) = strs ps ++ [.string (mk x)] := by simp [strs]
theorem ints_snoc (ps : List Int) (x : Int) : ints (ps ++ [x]) = ints ps ++ [.int .i64 x] := by simp [ints]

theorem split_step (s : ByteArray) (c : UInt8) (k f : Nat) (hk : k < s.size) (hf : f ≤ k) :
    splitGo c (((bytes s).take k).drop f) ((bytes s).drop k) =
      if s[k] = c then ((bytes s).take k).drop f :: splitGo c [] ((bytes s).drop (k + 1)) else splitGo c (((bytes s).take (k + 1)).drop f) ((bytes s).drop (k + 1)) := by
  have h : (bytes s).drop k = s[k] :: (bytes s).drop (k + 1) := by
    have : (bytes s)[k]'(by unfold bytes; simpa using hk) = s[k] := rfl
    rw [← this, List.getElem_cons_drop]
  rw [h, splitGo, take_snoc s k hk, List.drop_append_of_le_length (by simp; rw [bytes_length]; omega)]

set_option maxHeartbeats 1600000 in
set_option maxRecDepth 1000000 in
theorem zz_split (s : ByteArray) (c : UInt8) (w : World) (hs : s.size ≤ 4096) :
    Calls Tryz.prog 76 #[.string s, .int .u8 c.toNat] w fun e w' => ∃ v, e = .returned v ∧ Strs w' w.heap.size v (splitL (bytes s) c) ∧ Ext w w' := by
  obtain ⟨i0, hi, hz0, hz1, hz2⟩ := info_parts Tryz.info9
  go_enter Tryz.func76, Tryz.ntmps76
  go_wp2
  go_loopw [5, 6, 7] (fun v f i wr => ∃ (k j : Nat) (ps : List (List UInt8)), k ≤ s.size ∧ j ≤ k ∧ i = .int .i64 k ∧ f = .int .i64 j ∧ ps.length ≤ k ∧ wr.ownsRow w.heap.size 9 1 v ps.length (strs ps) ∧ Ext w wr ∧
      ps ++ splitGo c (((bytes s).take k).drop j) ((bytes s).drop k) = splitL (bytes s) c)
    (fun _ _ i _ => s.size - (RowKit.intOf i).toNat)
  case atStart => exact ⟨0, 0, [], Nat.zero_le _, Nat.le_refl _, rfl, rfl, by simp, World.ownsRow_nil _ _ _ _, Ext.refl _, by simp [splitL]⟩
  case round =>
    obtain ⟨k, j, ps, hk, hj, rfl, rfl, hpl, hown, hext, hsp⟩ := hrel
    have Hsp := Lib.hid hsp
    clear hsp
    by_cases hlt : k < s.size
    · have Hst := Lib.hid (split_step s c k j hlt hj)
      by_cases he : s[k] = c
      · have h1 : ((s[k].toNat : Int) == (c.toNat : Int)) = true := by rw [he]; simp
        go_wp2_with (first
          | (at_builtin; refine wpList_append_own _ rfl _ _ 85 rfl w.heap.size 9 i0 (.string ⟨#[]⟩) 1 16 Tryz.underlying85 hi hz0 hz1 hz2 rfl (by decide) _ _ _ rfl (hown.alloc _) ⟨wr.heap.size, 0, none⟩ 1 1 [.string (s.extract j k)] rfl rfl ?c1 ?c2 ?c3 ?c4 ?c5 ?_)
          | go_in)
        case c1 => exact cell_one_new _ _ _
        case c2 => intro u hu; simp at hu; subst hu; rfl
        case c3 => unfold maxLen; omega
        case c4 => omega
        case c5 => have := hext.size; simp; omega
        · intro v' w1 hown' hgrow _
          have hext1 := Ext.own_grown hext hown hgrow
          have hown1 : w1.ownsRow w.heap.size 9 1 v' (ps ++ [((bytes s).take k).drop j]).length (strs (ps ++ [((bytes s).take k).drop j])) := by
            rw [strs_snoc, ← bytes_extract, mk_bytes]; simpa using hown'
          clear hown' hgrow hown
          go_wp2
          go_roundw
          case rel => exact ⟨k + 1, k + 1, _, by omega, Nat.le_refl _, by go_num, by go_num, by simp; omega, hown1, hext1, by rw [← Hsp.out, Hst.out, if_pos he, List.drop_of_length_le (List.length_take_le _ _)]; simp⟩
          case measure => simp [RowKit.intOf]; omega
      · have h1 : ((s[k].toNat : Int) == (c.toNat : Int)) = false := by
          rw [beq_eq_false_iff_ne]; intro h; exact he (UInt8.toNat.inj (by omega))
        go_wp2
        go_roundw
        case rel => exact ⟨k + 1, j, ps, by omega, by omega, by go_num, rfl, by omega, hown, hext, by rw [← Hsp.out, Hst.out, if_neg he]⟩
        case measure => simp [RowKit.intOf]; omega
    · go_wp2_with (first
          | (at_builtin; refine wpList_append_own _ rfl _ _ 85 rfl w.heap.size 9 i0 (.string ⟨#[]⟩) 1 16 Tryz.underlying85 hi hz0 hz1 hz2 rfl (by decide) _ _ _ rfl (hown.alloc _) ⟨wr.heap.size, 0, none⟩ 1 1 [.string (s.extract j s.size)] rfl rfl ?c1 ?c2 ?c3 ?c4 ?c5 ?_)
          | go_in)
      case c1 => exact cell_one_new _ _ _
      case c2 => intro u hu; simp at hu; subst hu; rfl
      case c3 => unfold maxLen; omega
      case c4 => omega
      case c5 => have := hext.size; simp; omega
      · intro v' w1 hown' hgrow _
        have hext1 := Ext.own_grown hext hown hgrow
        have hown1 : Strs w1 w.heap.size v' (splitL (bytes s) c) := by
          have e : splitL (bytes s) c = ps ++ [(bytes s).drop j] := by
            rw [← Hsp.out, take_all s k (by omega), List.drop_of_length_le (show (bytes s).length ≤ k by rw [bytes_length]; omega)]; rfl
          unfold Strs
          rw [e, strs_snoc, ← take_all s s.size (Nat.le_refl _), ← bytes_extract, mk_bytes]; simpa using hown'
        clear hown' hgrow hown
        go_wp2
        go_ret
        exact ⟨v', rfl, hown1, hext1⟩
end Go.Proofs.YtmaffdhcmdhjfaaGreatDoor
