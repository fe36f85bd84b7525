/- isText, special, zzTrimmed. -/
import Derived.Test.YtmaffdhcmdhjfaaGreatDoorBuild
namespace Go.Proofs.YtmaffdhcmdhjfaaGreatDoor
open Go.RowKit Go.Lib

def asciiB (l : List UInt8) : Bool := l.all fun c => decide (c.toNat ≤ 127)
def isTextB (l : List UInt8) : Bool := asciiB l && decide (l.length ≤ 120)

set_option maxHeartbeats 800000 in
theorem is_text (s : ByteArray) (w : World) (hs : s.size ≤ 100000000) :
    Calls Tryz.prog 38 #[.string s] w fun e w' => e = .returned (.bool (isTextB (bytes s))) ∧ w = w' := by
  go_enter Tryz.func38, Tryz.ntmps38
  go_wp2
  go_loop [3] (fun i => ∃ k : Nat, k ≤ s.size ∧ i = .int .i64 k ∧ Hid (asciiB ((bytes s).take k) = true)) (fun i => s.size - (RowKit.intOf i).toNat)
  case atStart => exact ⟨0, Nat.zero_le _, rfl, by show _ = _; simp [asciiB]⟩
  case round =>
    obtain ⟨k, hk, rfl, Hn⟩ := hrel
    by_cases hlt : k < s.size
    · by_cases he : s[k].toNat ≤ 127
      · have h1 : decide (127 < (s[k].toNat : Int)) = false := by simp; omega
        have hd : asciiB ((bytes s).take (k + 1)) = true := by
          have := Hn.out
          unfold asciiB at this ⊢
          rw [take_snoc s k hlt, List.all_append, this]; simpa using he
        have Hd := Lib.hid hd
        clear hd
        go_wp2
        go_round
        case rel => exact ⟨k + 1, by omega, by go_num, Hd⟩
        case measure => simp [RowKit.intOf]; omega
      · have h1 : decide (127 < (s[k].toNat : Int)) = true := by simp; omega
        have hb : isTextB (bytes s) = false := by
          rw [bytes_split s k hlt]
          simp [isTextB, asciiB, he]
        have Hb := Lib.hid hb
        clear hb
        go_wp2
        go_ret
        exact ⟨ret_bool Hb.out.symm, rfl⟩
    · have hb : isTextB (bytes s) = decide ((s.size : Int) ≤ 120) := by
        have := Hn.out
        rw [take_all s k (by omega)] at this
        rw [isTextB, this, bytes_length, Bool.true_and]
        exact decide_eq_decide.mpr (by omega)
      have Hb := Lib.hid hb
      clear hb
      go_wp2
      all_goals go_ret
      all_goals (refine ⟨ret_bool ?_, rfl⟩; rw [Hb.out]; try simp; try omega)

def isWs (c : UInt8) : Bool := c == 32 || (c == 9 || (c == 10 || (c == 12 || c == 13)))
def sp (c : UInt8) : Bool := c == 32 || c == 11
def colStep (out : List UInt8) (c : UInt8) : List UInt8 :=
  if isWs c then (if out.getLast? = some 32 then out else out ++ [32]) else out ++ [c]
def collapse (l : List UInt8) : List UInt8 := l.foldl colStep []
def stripF (l : List UInt8) : List UInt8 := l.dropWhile sp
def stripB (l : List UInt8) : List UInt8 := (l.reverse.dropWhile sp).reverse
def trimL (l : List UInt8) : List UInt8 := stripB (stripF (collapse l))

def bytesV (l : List UInt8) : List Value := l.map fun c => .int .u8 c.toNat
theorem bytesV_snoc (l : List UInt8) (c : UInt8) : bytesV (l ++ [c]) = bytesV l ++ [.int .u8 c.toNat] := by simp [bytesV]
theorem Tryz.info5 : (Tryz.prog.info? 5).map (fun i => (i.zero, i.size, i.bytes)) = some (some (.int .u8 0), 1, 1) := by kernel_rfl
theorem col_take (s : ByteArray) (k : Nat) (h : k < s.size) : collapse ((bytes s).take (k + 1)) = colStep (collapse ((bytes s).take k)) s[k] := by
  unfold collapse; rw [take_snoc s k h, List.foldl_append]; rfl
theorem colStep_len (l : List UInt8) (c : UInt8) : (colStep l c).length ≤ l.length + 1 := by
  unfold colStep; split
  · split <;> simp
  · simp
theorem isWs_ne {c : UInt8} {n : Nat} (h : c.toNat ≠ n) (hn : n < 256) : (c == UInt8.ofNat n) = false := by
  rw [beq_eq_false_iff_ne]; rintro rfl; simp at h; omega

theorem own_last {w : World} {base n : Nat} {v : Value} {out : List UInt8} (h : w.ownsRow base 5 1 v n (bytesV out)) (hn : n = out.length) (hp : 0 < n) :
    ∃ g cap x, v = .slice (some ⟨g, 0, none⟩) n cap ∧ out.getLast? = some x ∧ w.cell? ⟨g, n - 1, none⟩ = some (.int .u8 (x.toNat : Int)) := by
  obtain ⟨g, cap, rfl, _, _⟩ := h.form hp
  have hl : n - 1 < out.length := by omega
  refine ⟨g, cap, out[n - 1], rfl, ?_, ?_⟩
  · rw [List.getLast?_eq_getElem?, ← hn, List.getElem?_eq_getElem hl]
  · rw [h.cellAt (n - 1) (by omega), bytesV, List.getElem?_map, List.getElem?_eq_getElem hl]; rfl
theorem own_bytes {w : World} {base n : Nat} {v : Value} {out : List UInt8} (h : w.ownsRow base 5 1 v n (bytesV out)) (hn : n = out.length) :
    ∃ g cap a, v = .slice a n cap ∧ n ≤ cap ∧ (0 < n → a = some ⟨g, 0, none⟩) ∧ ∀ (j : Nat) (x : UInt8), out[j]? = some x → w.cell? ⟨g, j, none⟩ = some (.int .u8 (x.toNat : Int)) := by
  rcases h.2 with ⟨rfl, h0⟩ | ⟨g, cap, cur, rfl, _, _, h1, _⟩
  · refine ⟨0, 0, none, by rw [h0], by omega, fun h => by omega, fun j x hx => ?_⟩
    have := (List.getElem?_eq_some_iff.mp hx).1
    omega
  · refine ⟨g, cap, _, rfl, h1, fun _ => rfl, fun j x hx => ?_⟩
    have hj := (List.getElem?_eq_some_iff.mp hx).1
    rw [h.cellAt j (by omega), bytesV, List.getElem?_map, hx]; rfl
def lenV : Value → Nat
  | .slice _ n _ => n
  | _ => 0
theorem sp_32 {c : UInt8} (h : c.toNat = 32) : sp c = true := by
  rw [show c = 32 from UInt8.toNat.inj h]; decide
theorem sp_11 {c : UInt8} (h : c.toNat = 11) : sp c = true := by
  rw [show c = 11 from UInt8.toNat.inj h]; decide
theorem not_sp {c : UInt8} (h1 : ¬ c.toNat = 32) (h2 : ¬ c.toNat = 11) : sp c = false := by
  unfold sp
  rw [show (c == 32) = false by rw [beq_eq_false_iff_ne]; rintro rfl; exact h1 rfl, show (c == 11) = false by rw [beq_eq_false_iff_ne]; rintro rfl; exact h2 rfl]; rfl
theorem stripB_sp (l : List UInt8) (x : UInt8) (h : sp x = true) : stripB (l ++ [x]) = stripB l := by
  unfold stripB; rw [List.reverse_append]; simp [List.dropWhile_cons, h]
theorem stripB_no (l : List UInt8) (x : UInt8) (h : sp x = false) : stripB (l ++ [x]) = l ++ [x] := by
  unfold stripB; rw [List.reverse_append]; simp [List.dropWhile_cons, h]
theorem conv_nil (a : Option Addr) (c : Nat) (w : World) : (convert 109 9 (.slice a 0 c)).run Tryz.prog w = .ok (.string (mk [])) w := by
  cases a with
  | none => rw [run_convert_bytes_string w 109 9 5 none 0 c Tryz.underlying109 Tryz.underlying5 Tryz.underlying9]; rfl
  | some a => exact run_convert_bytes_back w 109 9 5 a c [] Tryz.underlying109 Tryz.underlying5 Tryz.underlying9 (fun j hj => by simp at hj)
theorem conv_at (g o c : Nat) (l : List UInt8) (w : World) (h : ∀ (j : Nat) (x : UInt8), l[j]? = some x → w.cell? ⟨g, o + j, none⟩ = some (.int .u8 (x.toNat : Int))) :
    (convert 109 9 (.slice (some ⟨g, o, none⟩) l.length c)).run Tryz.prog w = .ok (.string (mk l)) w := by
  refine run_convert_bytes_back w 109 9 5 ⟨g, o, none⟩ c l Tryz.underlying109 Tryz.underlying5 Tryz.underlying9 (fun j hj => ?_)
  have ha : (⟨g, o, none⟩ : Addr).add j = ⟨g, o + j, none⟩ := by unfold Addr.add; split <;> simp_all
  rw [ha]
  exact h j _ (List.getElem?_eq_getElem hj)
theorem colStep_ws_nil {c : UInt8} (h : isWs c = true) : colStep [] c = [] ++ [32] := by unfold colStep; rw [if_pos h]; rfl
theorem colStep_ws_sp {l : List UInt8} {c : UInt8} (h : isWs c = true) (hl : l.getLast? = some 32) : colStep l c = l := by unfold colStep; rw [if_pos h, if_pos hl]
theorem colStep_ws_no {l : List UInt8} {c x : UInt8} (h : isWs c = true) (hl : l.getLast? = some x) (hx : x ≠ 32) : colStep l c = l ++ [32] := by unfold colStep; rw [if_pos h, if_neg (by rw [hl]; intro e; injection e with e; exact hx e)]
theorem colStep_no {l : List UInt8} {c : UInt8} (h : isWs c = false) : colStep l c = l ++ [c] := by unfold colStep; rw [if_neg (by rw [h]; decide)]
theorem ws_of {c : UInt8} (h : c.toNat = 32 ∨ c.toNat = 9 ∨ c.toNat = 10 ∨ c.toNat = 12 ∨ c.toNat = 13) : isWs c = true := by
  have key : ∀ n : Nat, n < 256 → c.toNat = n → c = UInt8.ofNat n := fun n hn h => UInt8.toNat.inj (by simp; omega)
  rcases h with h | h | h | h | h <;> (rw [key _ (by omega) h]; decide)
theorem not_ws {c : UInt8} (h : ¬ (c.toNat = 32 ∨ c.toNat = 9 ∨ c.toNat = 10 ∨ c.toNat = 12 ∨ c.toNat = 13)) : isWs c = false := by
  unfold isWs
  have key : ∀ n : UInt8, c.toNat ≠ n.toNat → (c == n) = false := fun n hn => by rw [beq_eq_false_iff_ne]; rintro rfl; exact hn rfl
  rw [key 32 (by simp; omega), key 9 (by simp; omega), key 10 (by simp; omega), key 12 (by simp; omega), key 13 (by simp; omega)]; rfl

set_option maxHeartbeats 6400000 in
set_option maxRecDepth 1000000 in
theorem zz_trimmed (s : ByteArray) (w : World) (hs : s.size ≤ 4096) :
    Calls Tryz.prog 79 #[.string s] w fun e w' => e = .returned (.string (mk (trimL (bytes s)))) ∧ Ext w w' := by
  obtain ⟨i0, hi0, hz0, hz1, hz2⟩ := info_parts Tryz.info5
  go_enter Tryz.func79, Tryz.ntmps79
  go_wp2_with fail
  go_loopw [3, 4, 20] (fun v i _ wr => ∃ (k n : Nat) (out : List UInt8), k ≤ s.size ∧ i = .int .i64 k ∧ n ≤ k ∧ Hid (n = out.length) ∧ Hid (out = collapse ((bytes s).take k)) ∧ Hid (wr.ownsRow w.heap.size 5 1 v n (bytesV out)) ∧ Ext w wr)
    (fun _ i _ _ => s.size - (RowKit.intOf i).toNat)
  case atStart => exact ⟨0, 0, [], Nat.zero_le _, rfl, by simp, rfl, by show _ = _; simp [collapse], World.ownsRow_nil _ _ _ _, Ext.refl _⟩
  case round =>
    obtain ⟨k, n, out, hk, rfl, hol, Hn, Ho, Hown, hx⟩ := hrel
    by_cases hlt : k < s.size
    · have hst : collapse ((bytes s).take (k + 1)) = colStep out s[k] := by rw [col_take s k hlt, ← Ho.out]
      have Hst := Lib.hid hst
      clear hst
      by_cases e32 : s[k].toNat = 32
      · skip
        have Hws := Lib.hid (ws_of (c := s[k]) (by omega))
        have b32 : ((s[k].toNat : Int) == 32) = true := by rw [beq_iff_eq]; omega
        clear  e32
        by_cases h0 : n = 0
        · subst h0
          have hnil : out = [] := List.length_eq_zero_iff.mp Hn.out.symm
          have own := Hown.out
          obtain ⟨a, cap, rfl⟩ := own_any own
          have Hnil := Lib.hid hnil
          clear hnil
          go_wp2_with (first
            | (at_builtin; refine wpList_append_own _ rfl _ _ 109 rfl w.heap.size 5 i0 (.int .u8 0) 1 1 Tryz.underlying109 hi0 hz0 hz1 hz2 rfl (by decide) _ _ _ rfl (own.alloc _) ⟨wr.heap.size, 0, none⟩ 1 1 [.int .u8 32] rfl rfl ?c1 ?c2 ?c3 ?c4 ?c5 ?_)
            | go_in)
          case c1 => exact cell_one_new _ _ _
          case c2 => intro u hu; simp at hu; subst hu; rfl
          case c3 => unfold maxLen; omega
          case c4 => omega
          case c5 => have := hx.size; simp; omega
          intro v' w5 hown' hgrow _
          have A1 : Hid (w5.ownsRow w.heap.size 5 1 v' (0 + 1) (bytesV (out ++ [32]))) := by
            show World.ownsRow _ _ _ _ _ _ _
            rw [bytesV_snoc]; exact hown'
          have A4 := Ext.own_grown hx own hgrow
          clear hown' hgrow own
          go_wp2_with fail
          go_roundw
          case rel => exact ⟨k + 1, 0 + 1, out ++ [32], by omega, by go_num, by omega, by show _ = _; rw [List.length_append, ← Hn.out]; rfl, by show _ = _; rw [Hst.out, Hnil.out, colStep_ws_nil Hws.out], A1, A4⟩
          case measure => simp [RowKit.intOf]; omega
        · obtain ⟨g, cap, x, hv, hlast, hcl⟩ := own_last Hown.out Hn.out (by omega)
          subst hv
          have own := Hown.out
          have Hlast := Lib.hid hlast
          by_cases hx32 : x = 32
          · have hcl2 : wr.cell? ⟨g, n - 1, none⟩ = some (.int .u8 32) := by rw [hcl, hx32]; rfl
            have Hx := Lib.hid hx32
            clear hcl hlast hx32 own
            go_wp2_with fail
            go_roundw
            case rel => exact ⟨k + 1, n, out, by omega, by go_num, by omega, Hn, by show _ = _; rw [Hst.out, colStep_ws_sp Hws.out (by rw [Hlast.out, Hx.out])], Hown, hx⟩
            case measure => simp [RowKit.intOf]; omega
          · have hne : ((x.toNat : Int) == 32) = false := by rw [beq_eq_false_iff_ne]; intro h; exact hx32 (UInt8.toNat.inj (by simp; omega))
            have Hx := Lib.hid hx32
            clear hlast hx32
            go_wp2_with (first
              | (at_builtin; refine wpList_append_own _ rfl _ _ 109 rfl w.heap.size 5 i0 (.int .u8 0) 1 1 Tryz.underlying109 hi0 hz0 hz1 hz2 rfl (by decide) _ _ _ rfl (own.alloc _) ⟨wr.heap.size, 0, none⟩ 1 1 [.int .u8 32] rfl rfl ?c1 ?c2 ?c3 ?c4 ?c5 ?_)
              | go_in)
            case c1 => exact cell_one_new _ _ _
            case c2 => intro u hu; simp at hu; subst hu; rfl
            case c3 => unfold maxLen; omega
            case c4 => omega
            case c5 => have := hx.size; simp; omega
            intro v' w5 hown' hgrow _
            have A1 : Hid (w5.ownsRow w.heap.size 5 1 v' (n + 1) (bytesV (out ++ [32]))) := by
              show World.ownsRow _ _ _ _ _ _ _
              rw [bytesV_snoc]; exact hown'
            have A4 := Ext.own_grown hx own hgrow
            clear hown' hgrow own
            go_wp2_with fail
            go_roundw
            case rel => exact ⟨k + 1, n + 1, out ++ [32], by omega, by go_num, by omega, by show _ = _; rw [List.length_append, ← Hn.out]; rfl, by show _ = _; rw [Hst.out, colStep_ws_no Hws.out Hlast.out Hx.out], A1, A4⟩
            case measure => simp [RowKit.intOf]; omega
      · skip
        by_cases e9 : s[k].toNat = 9
        · skip
          have Hws := Lib.hid (ws_of (c := s[k]) (by omega))
          have b32 : ((s[k].toNat : Int) == 32) = false := by rw [beq_eq_false_iff_ne]; omega
          have b9 : ((s[k].toNat : Int) == 9) = true := by rw [beq_iff_eq]; omega
          clear e32 e9
          by_cases h0 : n = 0
          · subst h0
            have hnil : out = [] := List.length_eq_zero_iff.mp Hn.out.symm
            have own := Hown.out
            obtain ⟨a, cap, rfl⟩ := own_any own
            have Hnil := Lib.hid hnil
            clear hnil
            go_wp2_with (first
              | (at_builtin; refine wpList_append_own _ rfl _ _ 109 rfl w.heap.size 5 i0 (.int .u8 0) 1 1 Tryz.underlying109 hi0 hz0 hz1 hz2 rfl (by decide) _ _ _ rfl (own.alloc _) ⟨wr.heap.size, 0, none⟩ 1 1 [.int .u8 32] rfl rfl ?c1 ?c2 ?c3 ?c4 ?c5 ?_)
              | go_in)
            case c1 => exact cell_one_new _ _ _
            case c2 => intro u hu; simp at hu; subst hu; rfl
            case c3 => unfold maxLen; omega
            case c4 => omega
            case c5 => have := hx.size; simp; omega
            intro v' w5 hown' hgrow _
            have A1 : Hid (w5.ownsRow w.heap.size 5 1 v' (0 + 1) (bytesV (out ++ [32]))) := by
              show World.ownsRow _ _ _ _ _ _ _
              rw [bytesV_snoc]; exact hown'
            have A4 := Ext.own_grown hx own hgrow
            clear hown' hgrow own
            go_wp2_with fail
            go_roundw
            case rel => exact ⟨k + 1, 0 + 1, out ++ [32], by omega, by go_num, by omega, by show _ = _; rw [List.length_append, ← Hn.out]; rfl, by show _ = _; rw [Hst.out, Hnil.out, colStep_ws_nil Hws.out], A1, A4⟩
            case measure => simp [RowKit.intOf]; omega
          · obtain ⟨g, cap, x, hv, hlast, hcl⟩ := own_last Hown.out Hn.out (by omega)
            subst hv
            have own := Hown.out
            have Hlast := Lib.hid hlast
            by_cases hx32 : x = 32
            · have hcl2 : wr.cell? ⟨g, n - 1, none⟩ = some (.int .u8 32) := by rw [hcl, hx32]; rfl
              have Hx := Lib.hid hx32
              clear hcl hlast hx32 own
              go_wp2_with fail
              go_roundw
              case rel => exact ⟨k + 1, n, out, by omega, by go_num, by omega, Hn, by show _ = _; rw [Hst.out, colStep_ws_sp Hws.out (by rw [Hlast.out, Hx.out])], Hown, hx⟩
              case measure => simp [RowKit.intOf]; omega
            · have hne : ((x.toNat : Int) == 32) = false := by rw [beq_eq_false_iff_ne]; intro h; exact hx32 (UInt8.toNat.inj (by simp; omega))
              have Hx := Lib.hid hx32
              clear hlast hx32
              go_wp2_with (first
                | (at_builtin; refine wpList_append_own _ rfl _ _ 109 rfl w.heap.size 5 i0 (.int .u8 0) 1 1 Tryz.underlying109 hi0 hz0 hz1 hz2 rfl (by decide) _ _ _ rfl (own.alloc _) ⟨wr.heap.size, 0, none⟩ 1 1 [.int .u8 32] rfl rfl ?c1 ?c2 ?c3 ?c4 ?c5 ?_)
                | go_in)
              case c1 => exact cell_one_new _ _ _
              case c2 => intro u hu; simp at hu; subst hu; rfl
              case c3 => unfold maxLen; omega
              case c4 => omega
              case c5 => have := hx.size; simp; omega
              intro v' w5 hown' hgrow _
              have A1 : Hid (w5.ownsRow w.heap.size 5 1 v' (n + 1) (bytesV (out ++ [32]))) := by
                show World.ownsRow _ _ _ _ _ _ _
                rw [bytesV_snoc]; exact hown'
              have A4 := Ext.own_grown hx own hgrow
              clear hown' hgrow own
              go_wp2_with fail
              go_roundw
              case rel => exact ⟨k + 1, n + 1, out ++ [32], by omega, by go_num, by omega, by show _ = _; rw [List.length_append, ← Hn.out]; rfl, by show _ = _; rw [Hst.out, colStep_ws_no Hws.out Hlast.out Hx.out], A1, A4⟩
              case measure => simp [RowKit.intOf]; omega
        · skip
          by_cases e10 : s[k].toNat = 10
          · skip
            have Hws := Lib.hid (ws_of (c := s[k]) (by omega))
            have b32 : ((s[k].toNat : Int) == 32) = false := by rw [beq_eq_false_iff_ne]; omega
            have b9 : ((s[k].toNat : Int) == 9) = false := by rw [beq_eq_false_iff_ne]; omega
            have b10 : ((s[k].toNat : Int) == 10) = true := by rw [beq_iff_eq]; omega
            clear e32 e9 e10
            by_cases h0 : n = 0
            · subst h0
              have hnil : out = [] := List.length_eq_zero_iff.mp Hn.out.symm
              have own := Hown.out
              obtain ⟨a, cap, rfl⟩ := own_any own
              have Hnil := Lib.hid hnil
              clear hnil
              go_wp2_with (first
                | (at_builtin; refine wpList_append_own _ rfl _ _ 109 rfl w.heap.size 5 i0 (.int .u8 0) 1 1 Tryz.underlying109 hi0 hz0 hz1 hz2 rfl (by decide) _ _ _ rfl (own.alloc _) ⟨wr.heap.size, 0, none⟩ 1 1 [.int .u8 32] rfl rfl ?c1 ?c2 ?c3 ?c4 ?c5 ?_)
                | go_in)
              case c1 => exact cell_one_new _ _ _
              case c2 => intro u hu; simp at hu; subst hu; rfl
              case c3 => unfold maxLen; omega
              case c4 => omega
              case c5 => have := hx.size; simp; omega
              intro v' w5 hown' hgrow _
              have A1 : Hid (w5.ownsRow w.heap.size 5 1 v' (0 + 1) (bytesV (out ++ [32]))) := by
                show World.ownsRow _ _ _ _ _ _ _
                rw [bytesV_snoc]; exact hown'
              have A4 := Ext.own_grown hx own hgrow
              clear hown' hgrow own
              go_wp2_with fail
              go_roundw
              case rel => exact ⟨k + 1, 0 + 1, out ++ [32], by omega, by go_num, by omega, by show _ = _; rw [List.length_append, ← Hn.out]; rfl, by show _ = _; rw [Hst.out, Hnil.out, colStep_ws_nil Hws.out], A1, A4⟩
              case measure => simp [RowKit.intOf]; omega
            · obtain ⟨g, cap, x, hv, hlast, hcl⟩ := own_last Hown.out Hn.out (by omega)
              subst hv
              have own := Hown.out
              have Hlast := Lib.hid hlast
              by_cases hx32 : x = 32
              · have hcl2 : wr.cell? ⟨g, n - 1, none⟩ = some (.int .u8 32) := by rw [hcl, hx32]; rfl
                have Hx := Lib.hid hx32
                clear hcl hlast hx32 own
                go_wp2_with fail
                go_roundw
                case rel => exact ⟨k + 1, n, out, by omega, by go_num, by omega, Hn, by show _ = _; rw [Hst.out, colStep_ws_sp Hws.out (by rw [Hlast.out, Hx.out])], Hown, hx⟩
                case measure => simp [RowKit.intOf]; omega
              · have hne : ((x.toNat : Int) == 32) = false := by rw [beq_eq_false_iff_ne]; intro h; exact hx32 (UInt8.toNat.inj (by simp; omega))
                have Hx := Lib.hid hx32
                clear hlast hx32
                go_wp2_with (first
                  | (at_builtin; refine wpList_append_own _ rfl _ _ 109 rfl w.heap.size 5 i0 (.int .u8 0) 1 1 Tryz.underlying109 hi0 hz0 hz1 hz2 rfl (by decide) _ _ _ rfl (own.alloc _) ⟨wr.heap.size, 0, none⟩ 1 1 [.int .u8 32] rfl rfl ?c1 ?c2 ?c3 ?c4 ?c5 ?_)
                  | go_in)
                case c1 => exact cell_one_new _ _ _
                case c2 => intro u hu; simp at hu; subst hu; rfl
                case c3 => unfold maxLen; omega
                case c4 => omega
                case c5 => have := hx.size; simp; omega
                intro v' w5 hown' hgrow _
                have A1 : Hid (w5.ownsRow w.heap.size 5 1 v' (n + 1) (bytesV (out ++ [32]))) := by
                  show World.ownsRow _ _ _ _ _ _ _
                  rw [bytesV_snoc]; exact hown'
                have A4 := Ext.own_grown hx own hgrow
                clear hown' hgrow own
                go_wp2_with fail
                go_roundw
                case rel => exact ⟨k + 1, n + 1, out ++ [32], by omega, by go_num, by omega, by show _ = _; rw [List.length_append, ← Hn.out]; rfl, by show _ = _; rw [Hst.out, colStep_ws_no Hws.out Hlast.out Hx.out], A1, A4⟩
                case measure => simp [RowKit.intOf]; omega
          · skip
            by_cases e12 : s[k].toNat = 12
            · skip
              have Hws := Lib.hid (ws_of (c := s[k]) (by omega))
              have b32 : ((s[k].toNat : Int) == 32) = false := by rw [beq_eq_false_iff_ne]; omega
              have b9 : ((s[k].toNat : Int) == 9) = false := by rw [beq_eq_false_iff_ne]; omega
              have b10 : ((s[k].toNat : Int) == 10) = false := by rw [beq_eq_false_iff_ne]; omega
              have b12 : ((s[k].toNat : Int) == 12) = true := by rw [beq_iff_eq]; omega
              clear e32 e9 e10 e12
              by_cases h0 : n = 0
              · subst h0
                have hnil : out = [] := List.length_eq_zero_iff.mp Hn.out.symm
                have own := Hown.out
                obtain ⟨a, cap, rfl⟩ := own_any own
                have Hnil := Lib.hid hnil
                clear hnil
                go_wp2_with (first
                  | (at_builtin; refine wpList_append_own _ rfl _ _ 109 rfl w.heap.size 5 i0 (.int .u8 0) 1 1 Tryz.underlying109 hi0 hz0 hz1 hz2 rfl (by decide) _ _ _ rfl (own.alloc _) ⟨wr.heap.size, 0, none⟩ 1 1 [.int .u8 32] rfl rfl ?c1 ?c2 ?c3 ?c4 ?c5 ?_)
                  | go_in)
                case c1 => exact cell_one_new _ _ _
                case c2 => intro u hu; simp at hu; subst hu; rfl
                case c3 => unfold maxLen; omega
                case c4 => omega
                case c5 => have := hx.size; simp; omega
                intro v' w5 hown' hgrow _
                have A1 : Hid (w5.ownsRow w.heap.size 5 1 v' (0 + 1) (bytesV (out ++ [32]))) := by
                  show World.ownsRow _ _ _ _ _ _ _
                  rw [bytesV_snoc]; exact hown'
                have A4 := Ext.own_grown hx own hgrow
                clear hown' hgrow own
                go_wp2_with fail
                go_roundw
                case rel => exact ⟨k + 1, 0 + 1, out ++ [32], by omega, by go_num, by omega, by show _ = _; rw [List.length_append, ← Hn.out]; rfl, by show _ = _; rw [Hst.out, Hnil.out, colStep_ws_nil Hws.out], A1, A4⟩
                case measure => simp [RowKit.intOf]; omega
              · obtain ⟨g, cap, x, hv, hlast, hcl⟩ := own_last Hown.out Hn.out (by omega)
                subst hv
                have own := Hown.out
                have Hlast := Lib.hid hlast
                by_cases hx32 : x = 32
                · have hcl2 : wr.cell? ⟨g, n - 1, none⟩ = some (.int .u8 32) := by rw [hcl, hx32]; rfl
                  have Hx := Lib.hid hx32
                  clear hcl hlast hx32 own
                  go_wp2_with fail
                  go_roundw
                  case rel => exact ⟨k + 1, n, out, by omega, by go_num, by omega, Hn, by show _ = _; rw [Hst.out, colStep_ws_sp Hws.out (by rw [Hlast.out, Hx.out])], Hown, hx⟩
                  case measure => simp [RowKit.intOf]; omega
                · have hne : ((x.toNat : Int) == 32) = false := by rw [beq_eq_false_iff_ne]; intro h; exact hx32 (UInt8.toNat.inj (by simp; omega))
                  have Hx := Lib.hid hx32
                  clear hlast hx32
                  go_wp2_with (first
                    | (at_builtin; refine wpList_append_own _ rfl _ _ 109 rfl w.heap.size 5 i0 (.int .u8 0) 1 1 Tryz.underlying109 hi0 hz0 hz1 hz2 rfl (by decide) _ _ _ rfl (own.alloc _) ⟨wr.heap.size, 0, none⟩ 1 1 [.int .u8 32] rfl rfl ?c1 ?c2 ?c3 ?c4 ?c5 ?_)
                    | go_in)
                  case c1 => exact cell_one_new _ _ _
                  case c2 => intro u hu; simp at hu; subst hu; rfl
                  case c3 => unfold maxLen; omega
                  case c4 => omega
                  case c5 => have := hx.size; simp; omega
                  intro v' w5 hown' hgrow _
                  have A1 : Hid (w5.ownsRow w.heap.size 5 1 v' (n + 1) (bytesV (out ++ [32]))) := by
                    show World.ownsRow _ _ _ _ _ _ _
                    rw [bytesV_snoc]; exact hown'
                  have A4 := Ext.own_grown hx own hgrow
                  clear hown' hgrow own
                  go_wp2_with fail
                  go_roundw
                  case rel => exact ⟨k + 1, n + 1, out ++ [32], by omega, by go_num, by omega, by show _ = _; rw [List.length_append, ← Hn.out]; rfl, by show _ = _; rw [Hst.out, colStep_ws_no Hws.out Hlast.out Hx.out], A1, A4⟩
                  case measure => simp [RowKit.intOf]; omega
            · skip
              by_cases e13 : s[k].toNat = 13
              · skip
                have Hws := Lib.hid (ws_of (c := s[k]) (by omega))
                have b32 : ((s[k].toNat : Int) == 32) = false := by rw [beq_eq_false_iff_ne]; omega
                have b9 : ((s[k].toNat : Int) == 9) = false := by rw [beq_eq_false_iff_ne]; omega
                have b10 : ((s[k].toNat : Int) == 10) = false := by rw [beq_eq_false_iff_ne]; omega
                have b12 : ((s[k].toNat : Int) == 12) = false := by rw [beq_eq_false_iff_ne]; omega
                have b13 : ((s[k].toNat : Int) == 13) = true := by rw [beq_iff_eq]; omega
                clear e32 e9 e10 e12 e13
                by_cases h0 : n = 0
                · subst h0
                  have hnil : out = [] := List.length_eq_zero_iff.mp Hn.out.symm
                  have own := Hown.out
                  obtain ⟨a, cap, rfl⟩ := own_any own
                  have Hnil := Lib.hid hnil
                  clear hnil
                  go_wp2_with (first
                    | (at_builtin; refine wpList_append_own _ rfl _ _ 109 rfl w.heap.size 5 i0 (.int .u8 0) 1 1 Tryz.underlying109 hi0 hz0 hz1 hz2 rfl (by decide) _ _ _ rfl (own.alloc _) ⟨wr.heap.size, 0, none⟩ 1 1 [.int .u8 32] rfl rfl ?c1 ?c2 ?c3 ?c4 ?c5 ?_)
                    | go_in)
                  case c1 => exact cell_one_new _ _ _
                  case c2 => intro u hu; simp at hu; subst hu; rfl
                  case c3 => unfold maxLen; omega
                  case c4 => omega
                  case c5 => have := hx.size; simp; omega
                  intro v' w5 hown' hgrow _
                  have A1 : Hid (w5.ownsRow w.heap.size 5 1 v' (0 + 1) (bytesV (out ++ [32]))) := by
                    show World.ownsRow _ _ _ _ _ _ _
                    rw [bytesV_snoc]; exact hown'
                  have A4 := Ext.own_grown hx own hgrow
                  clear hown' hgrow own
                  go_wp2_with fail
                  go_roundw
                  case rel => exact ⟨k + 1, 0 + 1, out ++ [32], by omega, by go_num, by omega, by show _ = _; rw [List.length_append, ← Hn.out]; rfl, by show _ = _; rw [Hst.out, Hnil.out, colStep_ws_nil Hws.out], A1, A4⟩
                  case measure => simp [RowKit.intOf]; omega
                · obtain ⟨g, cap, x, hv, hlast, hcl⟩ := own_last Hown.out Hn.out (by omega)
                  subst hv
                  have own := Hown.out
                  have Hlast := Lib.hid hlast
                  by_cases hx32 : x = 32
                  · have hcl2 : wr.cell? ⟨g, n - 1, none⟩ = some (.int .u8 32) := by rw [hcl, hx32]; rfl
                    have Hx := Lib.hid hx32
                    clear hcl hlast hx32 own
                    go_wp2_with fail
                    go_roundw
                    case rel => exact ⟨k + 1, n, out, by omega, by go_num, by omega, Hn, by show _ = _; rw [Hst.out, colStep_ws_sp Hws.out (by rw [Hlast.out, Hx.out])], Hown, hx⟩
                    case measure => simp [RowKit.intOf]; omega
                  · have hne : ((x.toNat : Int) == 32) = false := by rw [beq_eq_false_iff_ne]; intro h; exact hx32 (UInt8.toNat.inj (by simp; omega))
                    have Hx := Lib.hid hx32
                    clear hlast hx32
                    go_wp2_with (first
                      | (at_builtin; refine wpList_append_own _ rfl _ _ 109 rfl w.heap.size 5 i0 (.int .u8 0) 1 1 Tryz.underlying109 hi0 hz0 hz1 hz2 rfl (by decide) _ _ _ rfl (own.alloc _) ⟨wr.heap.size, 0, none⟩ 1 1 [.int .u8 32] rfl rfl ?c1 ?c2 ?c3 ?c4 ?c5 ?_)
                      | go_in)
                    case c1 => exact cell_one_new _ _ _
                    case c2 => intro u hu; simp at hu; subst hu; rfl
                    case c3 => unfold maxLen; omega
                    case c4 => omega
                    case c5 => have := hx.size; simp; omega
                    intro v' w5 hown' hgrow _
                    have A1 : Hid (w5.ownsRow w.heap.size 5 1 v' (n + 1) (bytesV (out ++ [32]))) := by
                      show World.ownsRow _ _ _ _ _ _ _
                      rw [bytesV_snoc]; exact hown'
                    have A4 := Ext.own_grown hx own hgrow
                    clear hown' hgrow own
                    go_wp2_with fail
                    go_roundw
                    case rel => exact ⟨k + 1, n + 1, out ++ [32], by omega, by go_num, by omega, by show _ = _; rw [List.length_append, ← Hn.out]; rfl, by show _ = _; rw [Hst.out, colStep_ws_no Hws.out Hlast.out Hx.out], A1, A4⟩
                    case measure => simp [RowKit.intOf]; omega
              · skip
                have Hws := Lib.hid (not_ws (c := s[k]) (by omega))
                have b32 : ((s[k].toNat : Int) == 32) = false := by rw [beq_eq_false_iff_ne]; omega
                have b9 : ((s[k].toNat : Int) == 9) = false := by rw [beq_eq_false_iff_ne]; omega
                have b10 : ((s[k].toNat : Int) == 10) = false := by rw [beq_eq_false_iff_ne]; omega
                have b12 : ((s[k].toNat : Int) == 12) = false := by rw [beq_eq_false_iff_ne]; omega
                have b13 : ((s[k].toNat : Int) == 13) = false := by rw [beq_eq_false_iff_ne]; omega
                clear e32 e9 e10 e12 e13
                have own := Hown.out
                obtain ⟨a, cap, rfl⟩ := own_any own
                go_wp2_with (first
                  | (at_builtin; refine wpList_append_own _ rfl _ _ 109 rfl w.heap.size 5 i0 (.int .u8 0) 1 1 Tryz.underlying109 hi0 hz0 hz1 hz2 rfl (by decide) _ _ _ rfl (own.alloc _) ⟨wr.heap.size, 0, none⟩ 1 1 [.int .u8 (s[k].toNat : Int)] rfl rfl ?c1 ?c2 ?c3 ?c4 ?c5 ?_)
                  | go_in)
                case c1 => exact cell_one_new _ _ _
                case c2 => intro u hu; simp at hu; subst hu; rfl
                case c3 => unfold maxLen; omega
                case c4 => omega
                case c5 => have := hx.size; simp; omega
                intro v' w5 hown' hgrow _
                have A1 : Hid (w5.ownsRow w.heap.size 5 1 v' (n + 1) (bytesV (out ++ [s[k]]))) := by
                  show World.ownsRow _ _ _ _ _ _ _
                  rw [bytesV_snoc]; exact hown'
                have A4 := Ext.own_grown hx own hgrow
                clear hown' hgrow own
                go_wp2_with fail
                go_roundw
                case rel => exact ⟨k + 1, n + 1, out ++ [s[k]], by omega, by go_num, by omega, by show _ = _; rw [List.length_append, ← Hn.out]; rfl, by show _ = _; rw [Hst.out, colStep_no Hws.out], A1, A4⟩
                case measure => simp [RowKit.intOf]; omega
    · have hout : out = collapse (bytes s) := by rw [Ho.out, take_all s k (by omega)]
      obtain ⟨g, cap, a, hv, hcap, ha, hcells⟩ := own_bytes Hown.out Hn.out
      subst hv
      have Hout := Lib.hid hout
      have Ha := Lib.hid ha
      have Hcells := Lib.hid hcells
      have hnb : n ≤ 4096 := by omega
      clear hout ha hcells Ho Hown
      go_wp2_with fail
      go_loop [3] (fun v => ∃ (j m c : Nat) (a : Option Addr), j + m = n ∧ v = .slice a m c ∧ m ≤ c ∧ Hid (0 < m → a = some ⟨g, j, none⟩) ∧ Hid (stripF out = stripF (out.drop j))) (fun v => lenV v)
      case atStart => exact ⟨0, n, cap, a, by omega, rfl, hcap, Ha.out, rfl⟩
      case round =>
        obtain ⟨j, m, c, a, hjm, rfl, hmc, Ha, Hs⟩ := hrel
        by_cases hm : 0 < m
        · obtain ⟨x, hx0⟩ : ∃ x, out[j]? = some x := ⟨_, List.getElem?_eq_getElem (by rw [← Hn.out]; omega)⟩
          have hcx := Hcells.out j x hx0
          have hae := Ha.out hm
          subst hae
          by_cases h32 : x.toNat = 32
          · skip
            have b1 : ((x.toNat : Int) == 32) = true := by rw [beq_iff_eq]; omega
            have hsp : sp x = true := by exact sp_32 h32
            have Hs2 : Hid (stripF out = stripF (out.drop (j + 1))) := by
              show _ = _
              rw [Hs.out]
              have hdj : out.drop j = x :: out.drop (j + 1) := by
                obtain ⟨hj, rfl⟩ := List.getElem?_eq_some_iff.mp hx0
                exact List.drop_eq_getElem_cons hj
              rw [hdj]; unfold stripF; rw [List.dropWhile_cons, hsp]; rfl
            clear hx0 hsp
            go_wp2_with fail
            go_round
            case rel => exact ⟨j + 1, m - 1, c - 1, _, by omega, rfl, by omega, fun h => if_neg (by omega), Hs2⟩
            case measure => simp only [lenV]; omega
          · by_cases h11 : x.toNat = 11
            · skip
              have b1 : ((x.toNat : Int) == 32) = false := by rw [beq_eq_false_iff_ne]; omega
              have b2 : ((x.toNat : Int) == 11) = true := by rw [beq_iff_eq]; omega
              have hsp : sp x = true := by exact sp_11 h11
              have Hs2 : Hid (stripF out = stripF (out.drop (j + 1))) := by
                show _ = _
                rw [Hs.out]
                have hdj : out.drop j = x :: out.drop (j + 1) := by
                  obtain ⟨hj, rfl⟩ := List.getElem?_eq_some_iff.mp hx0
                  exact List.drop_eq_getElem_cons hj
                rw [hdj]; unfold stripF; rw [List.dropWhile_cons, hsp]; rfl
              clear hx0 hsp
              go_wp2_with fail
              go_round
              case rel => exact ⟨j + 1, m - 1, c - 1, _, by omega, rfl, by omega, fun h => if_neg (by omega), Hs2⟩
              case measure => simp only [lenV]; omega
            · have b1 : ((x.toNat : Int) == 32) = false := by rw [beq_eq_false_iff_ne]; omega
              have b2 : ((x.toNat : Int) == 11) = false := by rw [beq_eq_false_iff_ne]; omega
              have hsp0 := not_sp h32 h11
              have Hae : Hid (∀ _ : 0 < m, (some ⟨g, j, none⟩ : Option Addr) = some ⟨g, j, none⟩) := fun _ => rfl
              obtain ⟨rest, hrest⟩ : ∃ rest, rest = out.drop j := ⟨_, rfl⟩
              have hrl : rest.length = m := by rw [hrest, List.length_drop, ← Hn.out]; omega
              have Hf : Hid (stripF out = rest) := by
                show _ = _
                rw [Hs.out]; rw [hrest]
                have hdj : out.drop j = x :: out.drop (j + 1) := by
                  obtain ⟨hj, rfl⟩ := List.getElem?_eq_some_iff.mp hx0
                  exact List.drop_eq_getElem_cons hj
                rw [hdj]; unfold stripF; rw [List.dropWhile_cons, hsp0]; rfl
              have Hrc : Hid (∀ (i : Nat) (x : UInt8), rest[i]? = some x → wr.cell? ⟨g, j + i, none⟩ = some (.int .u8 (x.toNat : Int))) := by
                intro i x hi
                apply Hcells.out
                rw [hrest, List.getElem?_drop] at hi
                exact hi
              have Hrl := Lib.hid hrl
              have hmb : m ≤ 4096 := by omega
              clear hrest hrl hsp0 hx0 h32 h11
              go_wp2_with fail
              go_loop [3] (fun v => ∃ (q : Nat), q ≤ m ∧ v = .slice (some ⟨g, j, none⟩) q c ∧ Hid (stripB rest = stripB (rest.take q))) (fun v => lenV v)
              case atStart => exact ⟨m, Nat.le_refl _, rfl, by show _ = _; rw [List.take_of_length_le (by rw [Hrl.out]; exact Nat.le_refl _)]⟩
              case round =>
                obtain ⟨q, hq, rfl, Hq⟩ := hrel
                by_cases hq0 : 0 < q
                · obtain ⟨x, hx1⟩ : ∃ x, rest[q - 1]? = some x := ⟨_, List.getElem?_eq_getElem (by rw [Hrl.out]; omega)⟩
                  have hcx := Hrc.out (q - 1) x hx1
                  have htk : rest.take q = rest.take (q - 1) ++ [x] := by
                    have := take_snocL rest (q - 1) x hx1
                    rwa [show q - 1 + 1 = q by omega] at this
                  have Htk := Lib.hid htk
                  clear hx1 htk
                  by_cases h32 : x.toNat = 32
                  · have b1 : ((x.toNat : Int) == 32) = true := by rw [beq_iff_eq]; omega
                    have hsp : sp x = true := sp_32 h32
                    have Hq2 : Hid (stripB rest = stripB (rest.take (q - 1))) := by
                      show _ = _
                      rw [Hq.out, Htk.out]; exact stripB_sp _ _ hsp
                    clear hsp Htk
                    go_wp2_with fail
                    go_round
                    case rel => exact ⟨q - 1, by omega, by go_num, Hq2⟩
                    case measure => simp only [lenV]; omega
                  · by_cases h11 : x.toNat = 11
                    · have b1 : ((x.toNat : Int) == 32) = false := by rw [beq_eq_false_iff_ne]; omega
                      have b2 : ((x.toNat : Int) == 11) = true := by rw [beq_iff_eq]; omega
                      have hsp : sp x = true := sp_11 h11
                      have Hq2 : Hid (stripB rest = stripB (rest.take (q - 1))) := by
                        show _ = _
                        rw [Hq.out, Htk.out]; exact stripB_sp _ _ hsp
                      clear hsp Htk
                      go_wp2_with fail
                      go_round
                      case rel => exact ⟨q - 1, by omega, by go_num, Hq2⟩
                      case measure => simp only [lenV]; omega
                    · have b1 : ((x.toNat : Int) == 32) = false := by rw [beq_eq_false_iff_ne]; omega
                      have b2 : ((x.toNat : Int) == 11) = false := by rw [beq_eq_false_iff_ne]; omega
                      have hsp := not_sp h32 h11
                      have hfin : trimL (bytes s) = rest.take q := by
                        unfold trimL
                        rw [← Hout.out, Hf.out, Hq.out, Htk.out]
                        exact stripB_no _ _ hsp
                      have hlen : (rest.take q).length = q := by rw [List.length_take, Hrl.out]; omega
                      have hb : (convert 109 9 (.slice (some ⟨g, j, none⟩) q c)).run Tryz.prog wr = .ok (.string (mk (rest.take q))) wr := by
                        have := conv_at g j c (rest.take q) wr (fun i x hi => by
                          apply Hrc.out
                          rw [List.getElem?_take] at hi
                          split at hi
                          · exact hi
                          · cases hi)
                        rwa [hlen] at this
                      have Hfin := Lib.hid hfin
                      clear hfin hlen hsp h32 h11
                      go_wp2_with fail
                      go_ret
                      exact ⟨by rw [Hfin.out]; rfl, hx⟩
                · have hq1 : q = 0 := by omega
                  subst hq1
                  have hfin : trimL (bytes s) = [] := by
                    unfold trimL
                    rw [← Hout.out, Hf.out, Hq.out]; rfl
                  have hb := conv_nil (some ⟨g, j, none⟩) c wr
                  have Hfin := Lib.hid hfin
                  clear hfin
                  go_wp2_with fail
                  go_ret
                  exact ⟨by rw [Hfin.out]; rfl, hx⟩
        · skip
          obtain ⟨rest, hrest⟩ : ∃ rest, rest = out.drop j := ⟨_, rfl⟩
          have hrl : rest.length = m := by rw [hrest, List.length_drop, ← Hn.out]; omega
          have Hf : Hid (stripF out = rest) := by
            show _ = _
            rw [Hs.out]; rw [hrest, List.drop_of_length_le (by rw [← Hn.out]; omega)]; rfl
          have Hrc : Hid (∀ (i : Nat) (x : UInt8), rest[i]? = some x → wr.cell? ⟨g, j + i, none⟩ = some (.int .u8 (x.toNat : Int))) := by
            intro i x hi
            apply Hcells.out
            rw [hrest, List.getElem?_drop] at hi
            exact hi
          have Hrl := Lib.hid hrl
          have hmb : m ≤ 4096 := by omega
          clear hrest hrl
          go_wp2_with fail
          go_loop [3] (fun v => ∃ (q : Nat), q ≤ m ∧ v = .slice a q c ∧ Hid (stripB rest = stripB (rest.take q))) (fun v => lenV v)
          case atStart => exact ⟨m, Nat.le_refl _, rfl, by show _ = _; rw [List.take_of_length_le (by rw [Hrl.out]; exact Nat.le_refl _)]⟩
          case round =>
            obtain ⟨q, hq, rfl, Hq⟩ := hrel
            by_cases hq0 : 0 < q
            · have hae := Ha.out (by omega)
              subst hae
              obtain ⟨x, hx1⟩ : ∃ x, rest[q - 1]? = some x := ⟨_, List.getElem?_eq_getElem (by rw [Hrl.out]; omega)⟩
              have hcx := Hrc.out (q - 1) x hx1
              have htk : rest.take q = rest.take (q - 1) ++ [x] := by
                have := take_snocL rest (q - 1) x hx1
                rwa [show q - 1 + 1 = q by omega] at this
              have Htk := Lib.hid htk
              clear hx1 htk
              by_cases h32 : x.toNat = 32
              · have b1 : ((x.toNat : Int) == 32) = true := by rw [beq_iff_eq]; omega
                have hsp : sp x = true := sp_32 h32
                have Hq2 : Hid (stripB rest = stripB (rest.take (q - 1))) := by
                  show _ = _
                  rw [Hq.out, Htk.out]; exact stripB_sp _ _ hsp
                clear hsp Htk
                go_wp2_with fail
                go_round
                case rel => exact ⟨q - 1, by omega, by go_num, Hq2⟩
                case measure => simp only [lenV]; omega
              · by_cases h11 : x.toNat = 11
                · have b1 : ((x.toNat : Int) == 32) = false := by rw [beq_eq_false_iff_ne]; omega
                  have b2 : ((x.toNat : Int) == 11) = true := by rw [beq_iff_eq]; omega
                  have hsp : sp x = true := sp_11 h11
                  have Hq2 : Hid (stripB rest = stripB (rest.take (q - 1))) := by
                    show _ = _
                    rw [Hq.out, Htk.out]; exact stripB_sp _ _ hsp
                  clear hsp Htk
                  go_wp2_with fail
                  go_round
                  case rel => exact ⟨q - 1, by omega, by go_num, Hq2⟩
                  case measure => simp only [lenV]; omega
                · have b1 : ((x.toNat : Int) == 32) = false := by rw [beq_eq_false_iff_ne]; omega
                  have b2 : ((x.toNat : Int) == 11) = false := by rw [beq_eq_false_iff_ne]; omega
                  have hsp := not_sp h32 h11
                  have hfin : trimL (bytes s) = rest.take q := by
                    unfold trimL
                    rw [← Hout.out, Hf.out, Hq.out, Htk.out]
                    exact stripB_no _ _ hsp
                  have hlen : (rest.take q).length = q := by rw [List.length_take, Hrl.out]; omega
                  have hb : (convert 109 9 (.slice (some ⟨g, j, none⟩) q c)).run Tryz.prog wr = .ok (.string (mk (rest.take q))) wr := by
                    have := conv_at g j c (rest.take q) wr (fun i x hi => by
                      apply Hrc.out
                      rw [List.getElem?_take] at hi
                      split at hi
                      · exact hi
                      · cases hi)
                    rwa [hlen] at this
                  have Hfin := Lib.hid hfin
                  clear hfin hlen hsp h32 h11
                  go_wp2_with fail
                  go_ret
                  exact ⟨by rw [Hfin.out]; rfl, hx⟩
            · have hq1 : q = 0 := by omega
              subst hq1
              have hfin : trimL (bytes s) = [] := by
                unfold trimL
                rw [← Hout.out, Hf.out, Hq.out]; rfl
              have hb := conv_nil a c wr
              have Hfin := Lib.hid hfin
              clear hfin
              go_wp2_with fail
              go_ret
              exact ⟨by rw [Hfin.out]; rfl, hx⟩
end Go.Proofs.YtmaffdhcmdhjfaaGreatDoor
